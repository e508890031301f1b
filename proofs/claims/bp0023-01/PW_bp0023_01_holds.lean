import PyProof.Rows.All
import Wide.All
import OpenK.AllK
import Wide.FinOn
import Lean
import PySem.Challenge.RW_bp0023_01
set_option Elab.async false
set_option linter.all false
set_option maxRecDepth 100000
set_option maxHeartbeats 0
open PySem PySem.W PyProof.Rows
namespace Mine
def Go (p : Prop) : Prop := p
theorem go_eq {p : Prop} (h : p) : Go p = True := eq_true h
theorem go_of {p : Prop} (h : Go p) : p := h
section
local macro_rules | `(tactic| o_head $_) => `(tactic| skip)
theorem kk : PySem.Challenge.rw_bp0023_01.row.Holds → PySem.Challenge.rw_bp0023_01.row.Holds := by
  intro h
  k_head
  exact h
end
end Mine
section
-- part B2
open PySem PySem.W PyProof.Rows PySem.Spec in
theorem Mine.turn_B2 {p : Program} {w : World} {A : Around} {en : Env} {Q : Flow → Shared → Prop} {E : Value → Shared → Prop} {s : Shared} (h : Q .next s) : wpAny (model p w) A (execs [] en) Q E s := by
  w_top off
  walk1
  exact h
open PySem PySem.W PyProof.Rows PySem.Calls
namespace Mine

def qlt (t1 p1 e1 t2 p2 e2 : Int) : Bool := decide (t1 < t2 ∨ (t1 = t2 ∧ (p1 < p2 ∨ (p1 = p2 ∧ e1 < e2))))

abbrev tupo (t p e : Int) (u1 u2 u3 : Tok) (v : Value) : Obj := { cls := .type "tuple", data := .seq #[.int t u1, .int p u2, .int e u3, v] 0 }

section
variable {M : Model} {A : Around} {E : Value → Shared → Prop} {s : Shared} {α β : Type}
theorem forIn_c {x : α} {r : List α} {b : β} {f : α → β → Sem (ForInStep β)} {Q : β → Shared → Prop}
    (h : wpAny M A (f x b) (fun y s' => match y with | .done b => Q b s' | .yield b => wpAny M A (forIn r b f) Q E s') E s) : wpAny M A (forIn (x :: r) b f) Q E s := by
  rw [List.forIn_cons]
  refine wpAny_bind (wpAny_mono h (fun y s' hy => ?_) fun _ _ x => x)
  cases y with
  | done b => exact wpAny_pure hy
  | yield b => exact hy
end
section
variable {prog : Program} {w : World} {A : Around} {E : Value → Shared → Prop} {s : Shared}
theorem rc_lt {a b : Int} {t u : Tok} {Q : Value → Shared → Prop} (h : Q (.bool (decide (a < b))) s) :
    wpAny (model prog w) A (richCompare .Lt (.int a t) (.int b u)) Q E s := wpAny_lt_int h

theorem tup_lt (a b : Addr) (t1 p1 e1 t2 p2 e2 : Int) (u1 u2 u3 u4 u5 u6 : Tok) (v1 v2 : Value) (hne : e1 ≠ e2) :
    Meets (Builtin.«tuple.__lt__» ⟨[.ref a, .ref b], []⟩)
      (fun _ R s => s.heap.get? a = some (tupo t1 p1 e1 u1 u2 u3 v1) ∧ s.heap.get? b = some (tupo t2 p2 e2 u4 u5 u6 v2) ∧ R (.ok (.ret (.bool (qlt t1 p1 e1 t2 p2 e2)))) s) :=
  .of_wp fun prog w A R s h => by
    obtain ⟨hp, g, d, tk, os⟩ := s; obtain ⟨hl, hb, h⟩ := h
    have f3 := AutoSeq1.sub_tuple_tuple
    have st : ∀ {c : Bool} {v : Value} {f : Bool → Sem (ForInStep (Option PySem.Fin × Unit))}, True := fun {_ _ _} => trivial
    repeat' ((fail_if_success (with_reducible show wpAny _ _ (forIn _ _ _) _ _ _)); first | with_reducible apply wpAny_loadPart' hl | with_reducible apply wpAny_loadPart' hb | wp_step)
    show wpAny _ _ (forIn [(Value.int t1 u1, Value.int t2 u4), (Value.int p1 u2, Value.int p2 u5), (Value.int e1 u3, Value.int e2 u6), (v1, v2)] _ _) _ _ _
    refine forIn_c ?_
    refine wpAny_bind (wpAny_eqBool_int ?_)
    by_cases h1 : t1 = t2
    · subst h1
      rw [if_neg (by simp)]
      refine wpAny_pure (forIn_c ?_)
      refine wpAny_bind (wpAny_eqBool_int ?_)
      by_cases h2 : p1 = p2
      · subst h2
        rw [if_neg (by simp)]
        refine wpAny_pure (forIn_c ?_)
        refine wpAny_bind (wpAny_eqBool_int ?_)
        rw [if_pos (by simpa using hne)]
        refine wpAny_bind (wpAny_rule (wpAny_bind (rc_lt (wpAny_bind (wpAny_pure (wpAny_pure (wpAny_pure ⟨_, rfl, ?_⟩)))))))
        simpa [qlt] using h
      · rw [if_pos (by simpa using h2)]
        refine wpAny_bind (wpAny_rule (wpAny_bind (rc_lt (wpAny_bind (wpAny_pure (wpAny_pure (wpAny_pure ⟨_, rfl, ?_⟩)))))))
        simpa [qlt, h2] using h
    · rw [if_pos (by simpa using h1)]
      refine wpAny_bind (wpAny_rule (wpAny_bind (rc_lt (wpAny_bind (wpAny_pure (wpAny_pure (wpAny_pure ⟨_, rfl, ?_⟩)))))))
      simpa [qlt, h1] using h

theorem rc_tup {Q : Value → Shared → Prop} {a b : Addr} {t1 p1 e1 t2 p2 e2 : Int} {u1 u2 u3 u4 u5 u6 : Tok} {v1 v2 : Value} (hne : e1 ≠ e2)
    (ha : s.heap.get? a = some (tupo t1 p1 e1 u1 u2 u3 v1)) (hb : s.heap.get? b = some (tupo t2 p2 e2 u4 u5 u6 v2)) (hu : A.units < cLine)
    (h : Q (.bool (qlt t1 p1 e1 t2 p2 e2)) s) : wpAny (model prog w) A (richCompare .Lt (.ref a) (.ref b)) Q E s := by
  refine richCompare_meets_room (T := "tuple") ⟨_, ha, rfl⟩ ⟨_, hb, rfl⟩ F.slot_tuple_lt F.entry_tuple_lt (F.args_tuple_lt_2 _ _) (tup_lt a b t1 p1 e1 t2 p2 e2 u1 u2 u3 u4 u5 u6 v1 v2 hne) ⟨ha, hb, ?_⟩ hu
  exact ⟨nofun, h⟩
end
end Mine
end

section
-- part Hp
open PySem PySem.W PyProof.Rows PySem.Spec in
theorem Mine.turn_Hp {p : Program} {w : World} {A : Around} {en : Env} {Q : Flow → Shared → Prop} {E : Value → Shared → Prop} {s : Shared} (h : Q .next s) : wpAny (model p w) A (execs [] en) Q E s := by
  w_top off
  walk1
  exact h
namespace Mine
universe u
variable {α : Type} [Inhabited α]

/-- a strict order by its laws, as the heap's proofs use it -/
structure Ord (lt : α → α → Bool) : Prop where
  asym : ∀ a b, lt a b = true → lt b a = false
  ntr : ∀ a b c, lt a b = false → lt b c = false → lt a c = false

def par (i : Nat) : Nat := (i - 1) / 2

def IsHp (lt : α → α → Bool) (ys : Array α) : Prop := ∀ i, 0 < i → i < ys.size → lt ys[i]! ys[par i]! = false
def UpInv (lt : α → α → Bool) (ys : Array α) (p : Nat) : Prop :=
  (∀ i, 0 < i → i < ys.size → i ≠ p → lt ys[i]! ys[par i]! = false) ∧ (0 < p → ∀ i, 0 < i → i < ys.size → par i = p → lt ys[i]! ys[par p]! = false)
def DnInv (lt : α → α → Bool) (ys : Array α) (p : Nat) : Prop :=
  (∀ i, 0 < i → i < ys.size → i ≠ p → par i ≠ p → lt ys[i]! ys[par i]! = false) ∧ (0 < p → ∀ i, 0 < i → i < ys.size → par i = p → lt ys[i]! ys[par p]! = false)

def swp (ys : Array α) (i j : Nat) : Array α := (ys.setIfInBounds i ys[j]!).setIfInBounds j ys[i]!

theorem get_of_lt {ys : Array α} {i : Nat} (h : i < ys.size) : ys[i]! = ys[i] := by simp [h]
theorem swp_size (ys : Array α) (i j : Nat) : (swp ys i j).size = ys.size := by simp [swp]
theorem swp_get {ys : Array α} {i j k : Nat} (hi : i < ys.size) (hj : j < ys.size) (_hk : k < ys.size) :
    (swp ys i j)[k]! = if k = j then ys[i]! else if k = i then ys[j]! else ys[k]! := by
  simp only [swp, getElem!_def, Array.getElem?_setIfInBounds, Array.size_setIfInBounds]
  by_cases h1 : j = k
  · subst h1; simp [hj]
  · have h1' : ¬ k = j := fun e => h1 e.symm
    by_cases h2 : i = k
    · subst h2; simp [hi, h1, h1']
    · have h2' : ¬ k = i := fun e => h2 e.symm
      simp [h1, h1', h2, h2']
theorem swp_perm {ys : Array α} {i j : Nat} (hi : i < ys.size) (hj : j < ys.size) : (swp ys i j).toList.Perm ys.toList := by
  have e : swp ys i j = ys.swap i j hi hj := by
    apply Array.ext
    · simp [swp_size]
    · intro k h1 h2
      have hk : k < ys.size := by rw [swp_size] at h1; exact h1
      have := swp_get (ys := ys) hi hj hk
      rw [get_of_lt h1] at this
      rw [this, Array.getElem_swap]
      rw [get_of_lt hi, get_of_lt hj, get_of_lt hk]
      by_cases h1 : k = j
      · subst h1
        by_cases h2 : k = i
        · subst h2; simp
        · simp [h2]
      · simp [h1]
  rw [e]
  exact (Array.swap_perm hi hj).toList

section
variable {lt : α → α → Bool} (O : Ord lt)
include O

theorem irr (a : α) : lt a a = false := by
  cases h : lt a a with
  | false => rfl
  | true => have := O.asym a a h; rw [h] at this; exact this
theorem up_step {ys : Array α} {p : Nat} (hp : p < ys.size) (h0 : 0 < p) (I : UpInv lt ys p) (hl : lt ys[p]! ys[par p]! = true) : UpInv lt (swp ys (par p) p) (par p) := by
  have hq : par p < ys.size := by unfold par; omega
  have hqp : par p ≠ p := by unfold par; omega
  have T : ∀ a b c, lt a b = false → lt c b = true → lt a c = false := by
    intro a b c h1 h2
    exact O.ntr a b c h1 (O.asym c b h2)
  refine ⟨fun i hi hs hne => ?_, fun hq0 i hi hs hpar => ?_⟩
  · rw [swp_size] at hs
    have hpi : par i < ys.size := by unfold par; omega
    rw [swp_get hq hp hs, swp_get hq hp hpi]
    by_cases e1 : i = p
    · subst e1
      simp only [if_true]
      rw [if_neg hqp]
      exact O.asym _ _ hl
    · rw [if_neg e1, if_neg hne]
      by_cases e2 : par i = p
      · rw [if_pos e2]
        exact I.2 h0 i hi hs e2
      · rw [if_neg e2]
        by_cases e3 : par i = par p
        · rw [if_pos e3]
          have := I.1 i hi hs e1
          rw [e3] at this
          exact T _ _ _ this hl
        · rw [if_neg e3]
          exact I.1 i hi hs e1
  · rw [swp_size] at hs
    have hpq : par (par p) < ys.size := by unfold par at *; omega
    have n1 : ¬ par (par p) = p := by unfold par at *; omega
    have n2 : ¬ par (par p) = par p := by unfold par at *; omega
    rw [swp_get hq hp hs, swp_get hq hp hpq, if_neg n1, if_neg n2]
    have A := I.1 (par p) hq0 hq hqp
    by_cases e1 : i = p
    · rw [if_pos e1]; exact A
    · rw [if_neg e1]
      have n3 : ¬ i = par p := by intro e; rw [e] at hpar; exact n2 hpar
      rw [if_neg n3]
      have := I.1 i hi hs e1
      rw [hpar] at this
      exact O.ntr _ _ _ this A
theorem up_done {ys : Array α} {p : Nat} (I : UpInv lt ys p) (h : p = 0 ∨ lt ys[p]! ys[par p]! = false) : IsHp lt ys := fun i hi hs => by
  by_cases e : i = p
  · subst e
    rcases h with h | h
    · omega
    · exact h
  · exact I.1 i hi hs e
theorem dn_step {ys : Array α} {p c : Nat} (hp : p < ys.size) (hc : c < ys.size) (hpc : par c = p) (h0 : 0 < c) (I : DnInv lt ys p) (hm : ∀ i, 0 < i → i < ys.size → par i = p → lt ys[i]! ys[c]! = false) : DnInv lt (swp ys c p) c := by
  have hcp : c ≠ p := by intro e; unfold par at hpc; omega
  refine ⟨fun i hi hs hne hnp => ?_, fun _ i hi hs hpar => ?_⟩
  · rw [swp_size] at hs
    have hpi : par i < ys.size := by unfold par; omega
    rw [swp_get hc hp hs, swp_get hc hp hpi]
    by_cases e1 : i = p
    · subst e1
      rw [if_pos rfl]
      have n1 : ¬ par i = i := by unfold par; omega
      rw [if_neg n1, if_neg hnp]
      exact I.2 hi c h0 hc hpc
    · rw [if_neg e1, if_neg hne]
      by_cases e2 : par i = p
      · rw [if_pos e2]
        exact hm i hi hs e2
      · rw [if_neg e2, if_neg hnp]
        exact I.1 i hi hs e1 e2
  · rw [swp_size] at hs
    rw [hpc]
    have n1 : ¬ i = p := by intro e; subst e; unfold par at *; omega
    have n2 : ¬ i = c := by intro e; subst e; unfold par at *; omega
    rw [swp_get hc hp hs, swp_get hc hp hp, if_neg n1, if_neg n2, if_pos rfl]
    have n3 : par i ≠ p := by rw [hpar]; exact hcp
    have := I.1 i hi hs n1 n3
    rw [hpar] at this
    exact this
theorem dn_leaf {ys : Array α} {p : Nat} (h : ¬ p < ys.size / 2) (I : DnInv lt ys p) : UpInv lt ys p := by
  have no : ∀ i, 0 < i → i < ys.size → par i ≠ p := fun i h1 h2 e => by unfold par at e; omega
  exact ⟨fun i hi hs hne => I.1 i hi hs hne (no i hi hs), fun _ i hi hs e => absurd e (no i hi hs)⟩

theorem root_min {ys : Array α} (H : IsHp lt ys) : ∀ i, i < ys.size → lt ys[i]! ys[0]! = false := by
  intro i
  induction i using Nat.strongRecOn with
  | ind i ih =>
    intro hs
    by_cases h0 : i = 0
    · subst h0; exact irr O _
    · have h1 : par i < i := by unfold par; omega
      exact O.ntr _ _ _ (H i (by omega) hs) (ih (par i) h1 (by omega))

theorem push_inv {ys : Array α} {x : α} (H : IsHp lt ys) : UpInv lt (ys.push x) ys.size := by
  refine ⟨fun i hi hs hne => ?_, fun h0 i hi hs e => ?_⟩
  · have hs' : i < ys.size := by simp at hs; omega
    have hp : par i < ys.size := by unfold par; omega
    have g : ∀ k, k < ys.size → (ys.push x)[k]! = ys[k]! := fun k hk => by
      rw [get_of_lt (by simp; omega), get_of_lt hk, Array.getElem_push_lt]
    rw [g i hs', g _ hp]
    exact H i hi hs'
  · simp at hs; unfold par at e; omega

theorem pop_inv {ys : Array α} {x : α} (H : IsHp lt ys) : DnInv lt (ys.pop.setIfInBounds 0 x) 0 := by
  refine ⟨fun i hi hs hne hnp => ?_, fun h0 => absurd h0 (Nat.lt_irrefl _)⟩
  have hs' : i < ys.size - 1 := by simpa using hs
  have hp : par i < ys.size - 1 := by unfold par; omega
  have g : ∀ k, 0 < k → k < ys.size - 1 → (ys.pop.setIfInBounds 0 x)[k]! = ys[k]! := fun k h0 hk => by
    rw [get_of_lt (by simp; omega), get_of_lt (by omega), Array.getElem_setIfInBounds (by simp; omega), if_neg (by omega), Array.getElem_pop]
  rw [g i hi hs', g _ (by omega) hp]
  exact H i hi (by omega)
end
end Mine
end

section
-- part B3
open PySem PySem.W PyProof.Rows PySem.Spec in
theorem Mine.turn_B3 {p : Program} {w : World} {A : Around} {en : Env} {Q : Flow → Shared → Prop} {E : Value → Shared → Prop} {s : Shared} (h : Q .next s) : wpAny (model p w) A (execs [] en) Q E s := by
  w_top off
  walk1
  exact h
open PySem PySem.W PyProof.Rows PySem.Calls
namespace Mine

structure QE where
  a : Addr
  t : Int
  p : Int
  e : Int
  u1 : Tok
  u2 : Tok
  u3 : Tok
  v : Value
  deriving Inhabited
abbrev QE.obj (x : QE) : Obj := tupo x.t x.p x.e x.u1 x.u2 x.u3 x.v
def QE.lt (x y : QE) : Bool := qlt x.t x.p x.e y.t y.p y.e
theorem QE.ord : Ord QE.lt where
  asym a b h := by
    unfold QE.lt qlt at *
    simp only [decide_eq_true_eq, decide_eq_false_iff_not] at *
    omega
  ntr a b c h1 h2 := by
    unfold QE.lt qlt at *
    simp only [decide_eq_false_iff_not] at *
    omega
abbrev refs (ys : Array QE) : Array Value := ys.map fun x => .ref x.a
abbrev qobj (ys : Array QE) (n : Nat) : Obj := { cls := .type "list", data := .seq (refs ys) n }
def Tups (h : Heap) (ys : Array QE) : Prop := ∀ x ∈ ys.toList, h.get? x.a = some x.obj
def Eids (ys : Array QE) : Prop := (ys.toList.map QE.e).Nodup

theorem plain_sift : plainId "_heapq.heapify.sift" = true := by decide +kernel
theorem entry_sift : entryFor table "_heapq.heapify.sift" = some Builtin.«_heapq.heapify.sift» := entryFor_of_fast (by kernel_rfl)

theorem eids_ne {ys : Array QE} (D : Eids ys) {i j : Nat} (hi : i < ys.size) (hj : j < ys.size) (h : i ≠ j) : ys[i]!.e ≠ ys[j]!.e := by
  intro e
  rw [get_of_lt hi, get_of_lt hj] at e
  have hi' : i < (ys.toList.map QE.e).length := by simpa using hi
  have hj' : j < (ys.toList.map QE.e).length := by simpa using hj
  exact h ((List.getElem_inj D (h₀ := hi') (h₁ := hj')).mp (by simpa using e))
theorem refs_get {ys : Array QE} {i : Nat} (hi : i < ys.size) : (refs ys)[i]? = some (.ref ys[i]!.a) := by
  rw [get_of_lt hi]; simp [hi]
theorem refs_swp {ys : Array QE} {i j : Nat} : ((refs ys).setIfInBounds i (.ref ys[j]!.a)).setIfInBounds j (.ref ys[i]!.a) = refs (swp ys i j) := by
  simp only [refs, swp, Array.map_setIfInBounds]
theorem tups_at {h : Heap} {ys : Array QE} (T : Tups h ys) {i : Nat} (hi : i < ys.size) : h.get? ys[i]!.a = some ys[i]!.obj :=
  T _ (by rw [get_of_lt hi]; simp)
theorem tups_perm {h : Heap} {ys zs : Array QE} (T : Tups h ys) (p : zs.toList.Perm ys.toList) : Tups h zs := fun x hx => T x (p.mem_iff.mp hx)
theorem eids_perm {ys zs : Array QE} (D : Eids ys) (p : zs.toList.Perm ys.toList) : Eids zs := ((p.map QE.e).nodup_iff).mpr D
theorem tups_but {h h' : Heap} {ys : Array QE} {q : Addr} {n : Nat} {ws : Array Value} (T : Tups h ys) (hq : h.get? q = some { cls := .type "list", data := .seq ws n }) (S : Heap.SameBut q h h') : Tups h' ys := fun x hx => by
  refine (S.2 x.a fun e => ?_).trans (T x hx)
  have := T x hx
  rw [e, hq] at this
  exact absurd (congrArg (fun o => o.map Obj.cls) this) (by simp)

local macro_rules | `(tactic| walk_at "mini") => `(tactic| repeat ((fail_if_success (with_reducible show wpAny _ _ (richCompare _ _ _) _ _ _)); (fail_if_success (with_reducible show wpAny _ _ (updateSeq _ _) _ _ _)); first | with_reducible refine wpAny_pure ?_ | with_reducible refine wpAny_bind ?_ | with_reducible refine wpAny_holding ?_ | (with_reducible refine wpAny_load' (by with_reducible assumption) ?_) | ((with_reducible apply wpAny_ite_false); focus (rfl; done)) | ((with_reducible apply wpAny_ite_true); focus (rfl; done)) | wp_delta))

theorem mapSeq_swp {ys : Array QE} {n i j : Nat} :
    Obj.mapSeq (fun xs => (xs.setIfInBounds i (.ref ys[j]!.a)).setIfInBounds j (.ref ys[i]!.a)) (qobj ys n) = qobj (swp ys i j) n := by
  have e := refs_swp (ys := ys) (i := i) (j := j)
  show Obj.mk _ _ (.seq (((refs ys).setIfInBounds i (.ref ys[j]!.a)).setIfInBounds j (.ref ys[i]!.a)) (if (((refs ys).setIfInBounds i (.ref ys[j]!.a)).setIfInBounds j (.ref ys[i]!.a)).size == (refs ys).size then n else n + 1)) _ = _
  rw [e]
  have hz : (refs (swp ys i j)).size = (refs ys).size := by simp [swp_size]
  simp [hz]
theorem upd_q {hh : Heap} {q : Addr} {o o' : Obj} {f : Obj → Obj} (hq : hh.get? q = some o) (e : f o = o') (hf : o'.isFreed = false) : (hh.update q f).get? q = some o' := by
  rw [Heap.get?_update_self f hq (by rw [e]; exact hf), e]

abbrev siftArgs (q : Addr) (down : Bool) (p : Nat) (res : Value) : Args := ⟨[.ref q, .bool false, .bool down, rawInt (p : Nat), rawInt (0 : Nat), res, rawInt (-1)], []⟩
def SiftSpec (q : Addr) (res : Value) (n : Nat) (ys : Array QE) : PySem.Spec := fun A R s =>
  s.heap.get? q = some (qobj ys n) ∧ Tups s.heap ys ∧ A.units + 2 < cLine ∧
    (∀ zs h', zs.toList.Perm ys.toList → IsHp QE.lt zs → h'.get? q = some (qobj zs n) → Heap.SameBut q s.heap h' → R (.ok (.ret res)) { s with heap := h' })

theorem sift_again {q : Addr} {res : Value} {n : Nat} {ys : Array QE} {i j p : Nat} {down : Bool} {prog : Program} {w : World} {A : Around} {R : Result → Shared → Prop} {hh : Heap} {g : Array GenState} {d : Drawn} {tk : Nat} {os : OsState}
    (hi : i < ys.size) (hj : j < ys.size)
    (ih : Meets (Builtin.«_heapq.heapify.sift» (siftArgs q down p res)) (SiftSpec q res n (swp ys i j)))
    (S : SiftSpec q res n ys A R ⟨hh, g, d, tk, os⟩) :
    (Code.builtin "_heapq.heapify.sift" (siftArgs q down p res)).quiet = true ∧
      codeAny (model prog w) A (.builtin "_heapq.heapify.sift" (siftArgs q down p res)) R ⟨hh.update q (Obj.mapSeq (fun xs => (xs.setIfInBounds i (.ref ys[j]!.a)).setIfInBounds j (.ref ys[i]!.a))), g, d, tk, os⟩ := by
  obtain ⟨hq, T, hu, h⟩ := S
  refine ⟨plainId_quiet plain_sift _, codeAny_builtin entry_sift ?_⟩
  rw [Around.under_plainId plain_sift _]
  have sb : Heap.SameBut q hh (hh.update q (Obj.mapSeq (fun xs => (xs.setIfInBounds i (.ref ys[j]!.a)).setIfInBounds j (.ref ys[i]!.a)))) := Heap.SameBut.update ..
  exact ih prog w A R _ ⟨upd_q hq mapSeq_swp rfl, tups_but (tups_perm T (swp_perm hi hj)) hq sb, hu, fun zs h' p1 p2 p3 p4 => h zs h' (p1.trans (swp_perm hi hj)) p2 p3 (sb.trans p4)⟩

theorem sift_up {q : Addr} {res : Value} {n : Nat} : ∀ (p : Nat) (ys : Array QE), p < ys.size → ys.size ≤ 1000 → UpInv QE.lt ys p → Eids ys →
    Meets (Builtin.«_heapq.heapify.sift» (siftArgs q false p res)) (SiftSpec q res n ys) := by
  intro p
  refine Mine.go_of ?_
  simp (disch := k_dflt (
  induction p using Nat.strongRecOn with
  | ind p ih =>
    intro ys hp hz I D prog w A R s h
    obtain ⟨hh, g, d, tk, os⟩ := s
    have S := h
    obtain ⟨hq, T, hu, h⟩ := h
    unfold Builtin.«_heapq.heapify.sift»
    by_cases h0 : p = 0
    · subst h0
      walk_at "mini"
      exact h ys hh (List.Perm.refl _) (up_done QE.ord I (.inl rfl)) hq (Heap.SameBut.refl ..)
    · have c1 : (p : Int).toNat > ((0 : Nat) : Int).toNat := by simp; omega
      have hpp : par p < ys.size := by unfold par; omega
      have g1 : (refs ys)[(p : Int).toNat]? = some (.ref ys[p]!.a) := refs_get hp
      have g2 : (refs ys)[((p : Int).toNat - 1) / 2]? = some (.ref ys[par p]!.a) := refs_get hpp
      have le : ys[p]!.e ≠ ys[par p]!.e := eids_ne D hp hpp (by unfold par; omega)
      have tp := tups_at T hp
      have tq := tups_at T hpp
      have un : A.in1.units < cLine := by simp; omega
      have kz : (refs ys).size ≤ sizeLine := by rw [sizeLine_eq, Array.size_map]; omega
      have ih' := ih (par p) (by unfold par; omega)
      clear ih
      cases hl : QE.lt ys[p]! ys[par p]! with
      | true =>
        have ih2 := ih' (swp ys (par p) p) (by rw [swp_size]; exact hpp) (by rw [swp_size]; exact hz) (up_step QE.ord hp (by omega) I hl) (eids_perm D (swp_perm hpp hp))
        have fin := sift_again (prog := prog) (w := w) hpp hp ih2 S
        clear S T D I h ih' ih2
        walk_at "mini"
        rw [if_pos c1]
        walk_at "mini"
        rw [g1]
        walk_at "mini"
        rw [g2]
        walk_at "mini"; (refine rc_tup le tp tq un ?_); walk_at "mini"
        rw [show qlt ys[p]!.t ys[p]!.p ys[p]!.e ys[par p]!.t ys[par p]!.p ys[par p]!.e = true from hl]
        walk_at "mini"
        rw [show ((refs ys).size != (refs ys).size) = false from bne_self_eq_false' ..]
        walk_at "mini"
        rw [g2]
        walk_at "mini"
        rw [g1]
        walk_at "mini"
        refine' wpAny_updateSeq hq rfl ?_ kz ?z; (case z => show ((Array.setIfInBounds _ _ _).setIfInBounds _ _).size ≤ _; rw [Array.size_setIfInBounds, Array.size_setIfInBounds]; exact Nat.le_succ_of_le kz)
        walk_at "mini"
        exact fin
      | false =>
        clear S ih'
        walk_at "mini"
        rw [if_pos c1]
        walk_at "mini"
        rw [g1]
        walk_at "mini"
        rw [g2]
        walk_at "mini"; (refine rc_tup le tp tq un ?_); walk_at "mini"
        rw [show qlt ys[p]!.t ys[p]!.p ys[p]!.e ys[par p]!.t ys[par p]!.p ys[par p]!.e = false from hl]
        walk_at "mini"
        rw [show ((refs ys).size != (refs ys).size) = false from bne_self_eq_false' ..]
        walk_at "mini"
        exact h ys hh (List.Perm.refl _) (up_done QE.ord I (.inr hl)) hq (Heap.SameBut.refl ..))) only [↓Mine.go_eq]

theorem sift_dn {q : Addr} {res : Value} {n : Nat} : ∀ (k p : Nat) (ys : Array QE), ys.size - p = k → p < ys.size → ys.size ≤ 1000 → DnInv QE.lt ys p → Eids ys →
    Meets (Builtin.«_heapq.heapify.sift» (siftArgs q true p res)) (SiftSpec q res n ys) := by
  intro k
  refine Mine.go_of ?_
  simp (disch := k_dflt (
  induction k using Nat.strongRecOn with
  | ind k ih =>
    intro p ys hk hp hz I D prog w A R s h
    obtain ⟨hh, g, d, tk, os⟩ := s
    have S := h
    obtain ⟨hq, T, hu, h⟩ := h
    have e0 : (p : Int).toNat = p := by simp
    have es : (refs ys).size = ys.size := by simp
    have kz : (refs ys).size ≤ sizeLine := by rw [sizeLine_eq, Array.size_map]; omega
    unfold Builtin.«_heapq.heapify.sift»
    by_cases hd : p < ys.size / 2
    · have c1 : (p : Int).toNat < (refs ys).size / 2 := by rw [e0, es]; exact hd
      have hl : 2 * p + 1 < ys.size := by omega
      have gp : (refs ys)[p]? = some (.ref ys[p]!.a) := refs_get hp
      have gl : (refs ys)[2 * p + 1]? = some (.ref ys[2 * p + 1]!.a) := refs_get hl
      have step : ∀ c, c < ys.size → par c = p → 0 < c → (∀ i, 0 < i → i < ys.size → par i = p → QE.lt ys[i]! ys[c]! = false) →
          Meets (Builtin.«_heapq.heapify.sift» (siftArgs q true c res)) (SiftSpec q res n (swp ys c p)) := fun c hc hpc h0 hm =>
        ih (ys.size - c) (by unfold par at hpc; omega) c (swp ys c p) (by rw [swp_size]) (by rw [swp_size]; exact hc) (by rw [swp_size]; exact hz) (dn_step QE.ord hp hc hpc h0 I hm) (eids_perm D (swp_perm hc hp))
      clear ih h
      by_cases hr : 2 * p + 2 < ys.size
      · have c2 : 2 * p + 1 + 1 < (refs ys).size := by rw [es]; omega
        have gr : (refs ys)[2 * p + 1 + 1]? = some (.ref ys[2 * p + 2]!.a) := refs_get hr
        have le : ys[2 * p + 1]!.e ≠ ys[2 * p + 2]!.e := eids_ne D hl hr (by omega)
        have tp := tups_at T hl
        have tq := tups_at T hr
        have un : A.in1.units < cLine := by simp; omega
        have two : ∀ i, 0 < i → par i = p → i = 2 * p + 1 ∨ i = 2 * p + 2 := fun i h0 e => by unfold par at e; omega
        cases hl2 : QE.lt ys[2 * p + 1]! ys[2 * p + 2]! with
        | true =>
          have fin := sift_again (prog := prog) (w := w) hl hp (step (2 * p + 1) hl (by unfold par; omega) (by omega) fun i h0 hi e => by
            rcases two i h0 e with rfl | rfl
            · exact irr QE.ord _
            · exact QE.ord.asym _ _ hl2) S
          clear S T D I step
          walk_at "mini"
          rw [if_pos c1, e0]
          walk_at "mini"
          rw [if_pos c2]
          walk_at "mini"
          rw [gl]
          walk_at "mini"
          rw [gr]
          walk_at "mini"
          refine rc_tup le tp tq un ?_
          walk_at "mini"
          rw [show ((refs ys).size != (refs ys).size) = false from bne_self_eq_false' ..]
          walk_at "mini"
          rw [show qlt ys[2 * p + 1]!.t ys[2 * p + 1]!.p ys[2 * p + 1]!.e ys[2 * p + 2]!.t ys[2 * p + 2]!.p ys[2 * p + 2]!.e = true from hl2]
          walk_at "mini"
          rw [gl]
          walk_at "mini"
          rw [gp]
          walk_at "mini"
          refine' wpAny_updateSeq hq rfl ?_ kz ?z; (case z => show ((Array.setIfInBounds _ _ _).setIfInBounds _ _).size ≤ _; rw [Array.size_setIfInBounds, Array.size_setIfInBounds]; exact Nat.le_succ_of_le kz)
          walk_at "mini"
          exact fin
        | false =>
          have fin := sift_again (prog := prog) (w := w) hr hp (step (2 * p + 2) hr (by unfold par; omega) (by omega) fun i h0 hi e => by
            rcases two i h0 e with rfl | rfl
            · exact hl2
            · exact irr QE.ord _) S
          clear S T D I step
          walk_at "mini"
          rw [if_pos c1, e0]
          walk_at "mini"
          rw [if_pos c2]
          walk_at "mini"
          rw [gl]
          walk_at "mini"
          rw [gr]
          walk_at "mini"
          refine rc_tup le tp tq un ?_
          walk_at "mini"
          rw [show ((refs ys).size != (refs ys).size) = false from bne_self_eq_false' ..]
          walk_at "mini"
          rw [show qlt ys[2 * p + 1]!.t ys[2 * p + 1]!.p ys[2 * p + 1]!.e ys[2 * p + 2]!.t ys[2 * p + 2]!.p ys[2 * p + 2]!.e = false from hl2]
          walk_at "mini"
          rw [gr]
          walk_at "mini"
          rw [gp]
          walk_at "mini"
          refine' wpAny_updateSeq hq rfl ?_ kz ?z; (case z => show ((Array.setIfInBounds _ _ _).setIfInBounds _ _).size ≤ _; rw [Array.size_setIfInBounds, Array.size_setIfInBounds]; exact Nat.le_succ_of_le kz)
          walk_at "mini"
          exact fin
      · have c2 : ¬ 2 * p + 1 + 1 < (refs ys).size := by rw [es]; omega
        have fin := sift_again (prog := prog) (w := w) hl hp (step (2 * p + 1) hl (by unfold par; omega) (by omega) fun i h0 hi e => by
          have : i = 2 * p + 1 := by unfold par at e; omega
          subst this
          exact irr QE.ord _) S
        clear S T D I step
        walk_at "mini"
        rw [if_pos c1, e0]
        walk_at "mini"
        rw [if_neg c2]
        walk_at "mini"
        rw [gl]
        walk_at "mini"
        rw [gp]
        walk_at "mini"
        refine' wpAny_updateSeq hq rfl ?_ kz ?z; (case z => show ((Array.setIfInBounds _ _ _).setIfInBounds _ _).size ≤ _; rw [Array.size_setIfInBounds, Array.size_setIfInBounds]; exact Nat.le_succ_of_le kz)
        walk_at "mini"
        exact fin
    · have c1 : ¬ (p : Int).toNat < (refs ys).size / 2 := by rw [e0, es]; exact hd
      have fin := sift_up (res := res) p ys hp hz (dn_leaf QE.ord hd I) D prog w A R _ S
      clear ih h S
      walk_at "mini"
      rw [if_neg c1]
      walk_at "mini"
      refine ⟨plainId_quiet plain_sift _, codeAny_builtin entry_sift ?_⟩
      rw [Around.under_plainId plain_sift _]
      exact fin)) only [↓Mine.go_eq]
end Mine
end

section
-- part B4
open PySem PySem.W PyProof.Rows PySem.Spec in
theorem Mine.turn_B4 {p : Program} {w : World} {A : Around} {en : Env} {Q : Flow → Shared → Prop} {E : Value → Shared → Prop} {s : Shared} (h : Q .next s) : wpAny (model p w) A (execs [] en) Q E s := by
  w_top off
  walk1
  exact h
open PySem PySem.W PyProof.Rows PySem.Calls
namespace Mine
local macro_rules | `(tactic| walk_at "mini") => `(tactic| repeat ((fail_if_success (with_reducible show wpAny _ _ (richCompare _ _ _) _ _ _)); (fail_if_success (with_reducible show wpAny _ _ (updateSeq _ _) _ _ _)); (fail_if_success (with_reducible show wpAny _ _ (isSubtype _ _) _ _ _)); first | with_reducible refine wpAny_pure ?_ | with_reducible refine wpAny_bind ?_ | with_reducible refine wpAny_holding ?_ | (with_reducible refine wpAny_load' (by with_reducible assumption) ?_) | (with_reducible refine wpAny_loadPart' (by with_reducible assumption) ?_) | (with_reducible refine wpAny_of_eq (by with_reducible assumption) ?_) | ((with_reducible apply wpAny_ite_false); focus (rfl; done)) | ((with_reducible apply wpAny_ite_true); focus (rfl; done)) | wp_delta))

theorem kind_push : builtinKind "_heapq.heappush" = none := by decide +kernel
theorem kind_pop : builtinKind "_heapq.heappop" = none := by decide +kernel
theorem plain_push : plainId "_heapq.heappush" = true := by decide +kernel
theorem plain_pop : plainId "_heapq.heappop" = true := by decide +kernel
theorem entry_push : entryFor table "_heapq.heappush" = some Builtin.«_heapq.heappush» := entryFor_of_fast (by kernel_rfl)
theorem entry_pop : entryFor table "_heapq.heappop" = some Builtin.«_heapq.heappop» := entryFor_of_fast (by kernel_rfl)
theorem args_push (a b : Value) : argsOk "_heapq.heappush" ⟨[a, b], []⟩ := by unfold argsOk; kernel_rfl
theorem args_pop (a : Value) : argsOk "_heapq.heappop" ⟨[a], []⟩ := by unfold argsOk; kernel_rfl

theorem push_meets {q : Addr} {n : Nat} {ys : Array QE} {x : QE} (hz : ys.size < 1000) (D : Eids (ys.push x)) (H : IsHp QE.lt ys) :
    Meets (Builtin.«_heapq.heappush» ⟨[.ref q, .ref x.a], []⟩) (fun A R s =>
      s.heap.get? q = some (qobj ys n) ∧ Tups s.heap (ys.push x) ∧ A.units + 2 < cLine ∧
        (∀ zs h', zs.toList.Perm (ys.push x).toList → IsHp QE.lt zs → h'.get? q = some (qobj zs (n + 1)) → Heap.SameBut q s.heap h' → R (.ok (.ret .none)) { s with heap := h' })) := by
  intro prog w A R s h
  obtain ⟨hh, g, d, tk, os⟩ := s
  obtain ⟨hq, T, hu, h⟩ := h
  have f3 := AutoSeq1.sub_list_list
  have kz : (refs ys).size ≤ sizeLine := by rw [sizeLine_eq, Array.size_map]; omega
  have em : Obj.mapSeq (fun xs => xs.push (.ref x.a)) (qobj ys n) = qobj (ys.push x) (n + 1) := by
    show Obj.mk _ _ (.seq ((refs ys).push (.ref x.a)) (if ((refs ys).push (.ref x.a)).size == (refs ys).size then n else n + 1)) _ = _
    have e1 : (refs ys).push (.ref x.a) = refs (ys.push x) := by simp [refs]
    have e2 : (((refs ys).push (Value.ref x.a)).size == (refs ys).size) = false := by rw [beq_eq_false_iff_ne, Array.size_push]; omega
    rw [e2, e1]; rfl
  have gq := upd_q hq em rfl
  have sb : Heap.SameBut q hh (hh.update q (Obj.mapSeq (fun xs => xs.push (.ref x.a)))) := Heap.SameBut.update ..
  have es : (refs (ys.push x)).size - 1 = ys.size := by simp
  have fin := sift_up (res := .none) (n := n + 1) ys.size (ys.push x) (by simp) (by simp; omega) (push_inv QE.ord H) D prog w A R ⟨_, g, d, tk, os⟩ ⟨gq, tups_but T hq sb, hu, fun zs h' p1 p2 p3 p4 => h zs h' p1 p2 p3 (sb.trans p4)⟩
  clear h T
  unfold Builtin.«_heapq.heappush»
  walk_at "mini"
  refine wpAny_of_eq f3 ?_
  walk_at "mini"
  refine' wpAny_updateSeq hq rfl ?_ kz ?z; (case z => rw [Array.size_push]; exact Nat.succ_le_succ kz)
  walk_at "mini"
  rw [es]
  refine ⟨plainId_quiet plain_sift _, codeAny_builtin entry_sift ?_⟩
  rw [Around.under_plainId plain_sift _]
  exact fin

theorem pop_perm {ys : Array QE} (h : 1 < ys.size) : (ys[0]! :: (ys.pop.setIfInBounds 0 ys[ys.size - 1]!).toList).Perm ys.toList := by
  obtain ⟨l⟩ := ys
  cases l with
  | nil => simp at h
  | cons x r =>
    rcases List.eq_nil_or_concat r with rfl | ⟨mid, last, rfl⟩
    · simp at h
    · have e1 : (⟨x :: (mid ++ [last])⟩ : Array QE)[(⟨x :: (mid ++ [last])⟩ : Array QE).size - 1]! = last := by simp
      have e2 : (⟨x :: (mid ++ [last])⟩ : Array QE).pop = ⟨x :: mid⟩ := by
        rw [List.pop_toArray]
        congr 1
        rw [← List.cons_append, List.dropLast_concat]
      rw [List.concat_eq_append, e1, e2]
      show (x :: last :: mid).Perm (x :: (mid ++ [last]))
      refine List.Perm.cons x ?_
      have := (List.perm_append_comm (l₁ := [last]) (l₂ := mid))
      simpa using this
theorem pop_one {ys : Array QE} (h : ys.size = 1) : (ys[0]! :: ys.pop.toList).Perm ys.toList := by
  obtain ⟨l⟩ := ys
  match l, h with
  | [x], _ => exact List.Perm.refl _

theorem pop_meets {q : Addr} {n : Nat} {ys : Array QE} (h0 : 0 < ys.size) (hz : ys.size ≤ 1000) (D : Eids ys) (H : IsHp QE.lt ys) :
    Meets (Builtin.«_heapq.heappop» ⟨[.ref q], []⟩) (fun A R s =>
      s.heap.get? q = some (qobj ys n) ∧ Tups s.heap ys ∧ A.units + 2 < cLine ∧
        (∀ zs h', (ys[0]! :: zs.toList).Perm ys.toList → IsHp QE.lt zs → h'.get? q = some (qobj zs (n + 1)) → Heap.SameBut q s.heap h' → R (.ok (.ret (.ref ys[0]!.a))) { s with heap := h' })) := by
  intro prog w A R s h
  obtain ⟨hh, g, d, tk, os⟩ := s
  obtain ⟨hq, T, hu, h⟩ := h
  have f3 := AutoSeq1.sub_list_list
  have kz : (refs ys).size ≤ sizeLine := by rw [sizeLine_eq, Array.size_map]; omega
  have gb : (refs ys).back? = some (.ref ys[ys.size - 1]!.a) := by
    rw [Array.back?_eq_getElem?, Array.size_map]
    exact refs_get (by omega)
  have g0 : (refs ys)[0]? = some (.ref ys[0]!.a) := refs_get h0
  have em : Obj.mapSeq (fun xs => xs.pop) (qobj ys n) = qobj ys.pop (n + 1) := by
    show Obj.mk _ _ (.seq ((refs ys).pop) (if ((refs ys).pop).size == (refs ys).size then n else n + 1)) _ = _
    have e1 : (refs ys).pop = refs ys.pop := by simp [refs]
    have e2 : ((refs ys).pop.size == (refs ys).size) = false := by rw [beq_eq_false_iff_ne, Array.size_pop, Array.size_map]; omega
    rw [e2, e1]; rfl
  have gq := upd_q hq em rfl
  have sb : Heap.SameBut q hh (hh.update q (Obj.mapSeq (fun xs => xs.pop))) := Heap.SameBut.update ..
  unfold Builtin.«_heapq.heappop»
  walk_at "mini"
  refine wpAny_of_eq f3 ?_
  walk_at "mini"
  rw [gb]
  walk_at "mini"
  refine' wpAny_updateSeq hq rfl ?_ kz ?z; (case z => rw [Array.size_pop]; omega)
  by_cases h1 : ys.size = 1
  · have c1 : ((refs ys).size == 1) = true := by simp [h1]
    rw [c1]
    walk_at "mini"
    have e0 : ys.size - 1 = 0 := by omega
    rw [e0]
    exact h ys.pop _ (pop_one h1) (fun i hi hs => by simp at hs; omega) gq sb
  · have c1 : ((refs ys).size == 1) = false := by simp [h1]
    have hlt : 1 < ys.size := by omega
    have em2 : Obj.mapSeq (fun xs => xs.setIfInBounds 0 (.ref ys[ys.size - 1]!.a)) (qobj ys.pop (n + 1)) = qobj (ys.pop.setIfInBounds 0 ys[ys.size - 1]!) (n + 1) := by
      show Obj.mk _ _ (.seq ((refs ys.pop).setIfInBounds 0 (.ref ys[ys.size - 1]!.a)) (if ((refs ys.pop).setIfInBounds 0 (.ref ys[ys.size - 1]!.a)).size == (refs ys.pop).size then n + 1 else n + 1 + 1)) _ = _
      have e1 : (refs ys.pop).setIfInBounds 0 (.ref ys[ys.size - 1]!.a) = refs (ys.pop.setIfInBounds 0 ys[ys.size - 1]!) := by simp only [refs, Array.map_setIfInBounds]
      have e2 : (((refs ys.pop).setIfInBounds 0 (Value.ref ys[ys.size - 1]!.a)).size == (refs ys.pop).size) = true := by rw [beq_iff_eq, Array.size_setIfInBounds]
      rw [e2, e1]; rfl
    have gq2 := upd_q gq em2 rfl
    have sb2 := sb.trans (Heap.SameBut.update (hh.update q (Obj.mapSeq (fun xs => xs.pop))) q (Obj.mapSeq fun xs => xs.setIfInBounds 0 (.ref ys[ys.size - 1]!.a)))
    have pm := pop_perm hlt
    have T' : Tups hh (ys.pop.setIfInBounds 0 ys[ys.size - 1]!) := fun x hx => T x (pm.mem_iff.mp (List.mem_cons_of_mem _ hx))
    have D' : Eids (ys.pop.setIfInBounds 0 ys[ys.size - 1]!) := by
      have := ((pm.map QE.e).nodup_iff).mpr D
      exact (List.nodup_cons.mp this).2
    have fin := sift_dn (res := .ref ys[0]!.a) (n := n + 1) _ 0 (ys.pop.setIfInBounds 0 ys[ys.size - 1]!) rfl (by simp; omega) (by simp; omega) (pop_inv QE.ord H) D' prog w A R ⟨_, g, d, tk, os⟩
      ⟨gq2, tups_but T' hq sb2, hu, fun zs h' p1 p2 p3 p4 => h zs h' ((List.Perm.cons _ p1).trans pm) p2 p3 (sb2.trans p4)⟩
    have kz2 : (refs ys.pop).size ≤ sizeLine := by rw [sizeLine_eq, Array.size_map, Array.size_pop]; omega
    clear h T T' D' sb sb2
    rw [c1]
    walk_at "mini"
    rw [g0]
    walk_at "mini"
    refine' wpAny_updateSeq gq rfl ?_ kz2 ?z; (case z => rw [Array.size_setIfInBounds]; exact Nat.le_succ_of_le kz2)
    walk_at "mini"
    refine ⟨plainId_quiet plain_sift _, codeAny_builtin entry_sift ?_⟩
    rw [Around.under_plainId plain_sift _]
    exact fin

section
variable {prog : Program} {w : World} {A : Around} {E : Value → Shared → Prop} {s : Shared} {Q : Value → Shared → Prop}
theorem push_call {q : Addr} {n : Nat} {ys : Array QE} {x : QE} (hz : ys.size < 1000) (D : Eids (ys.push x)) (H : IsHp QE.lt ys) (hq : s.heap.get? q = some (qobj ys n)) (T : Tups s.heap (ys.push x)) (hu : A.units + 2 < cLine)
    (h : ∀ zs h', zs.toList.Perm (ys.push x).toList → IsHp QE.lt zs → h'.get? q = some (qobj zs (n + 1)) → Heap.SameBut q s.heap h' → Q .none { s with heap := h' }) :
    wpAny (model prog w) A (call (.builtin "_heapq.heappush") [.ref q, .ref x.a]) Q E s :=
  call_function_meets kind_push plain_push entry_push (args_push _ _) (push_meets hz D H) ⟨hq, T, hu, h⟩
theorem pop_call {q : Addr} {n : Nat} {ys : Array QE} (h0 : 0 < ys.size) (hz : ys.size ≤ 1000) (D : Eids ys) (H : IsHp QE.lt ys) (hq : s.heap.get? q = some (qobj ys n)) (T : Tups s.heap ys) (hu : A.units + 2 < cLine)
    (h : ∀ zs h', (ys[0]! :: zs.toList).Perm ys.toList → IsHp QE.lt zs → h'.get? q = some (qobj zs (n + 1)) → Heap.SameBut q s.heap h' → Q (.ref ys[0]!.a) { s with heap := h' }) :
    wpAny (model prog w) A (call (.builtin "_heapq.heappop") [.ref q]) Q E s :=
  call_function_meets kind_pop plain_pop entry_pop (args_pop _) (pop_meets h0 hz D H) ⟨hq, T, hu, h⟩
end
end Mine
end

section
-- part C2
open PySem PySem.W PyProof.Rows PySem.Spec in
theorem Mine.turn_C2 {p : Program} {w : World} {A : Around} {en : Env} {Q : Flow → Shared → Prop} {E : Value → Shared → Prop} {s : Shared} (h : Q .next s) : wpAny (model p w) A (execs [] en) Q E s := by
  w_top off
  walk1
  exact h
open PySem PySem.W PyProof.Rows PySem.Calls
namespace Mine

theorem fill : PySem.Challenge.rw_bp0023_01 = PySem.Challenge.rw_bp0023_01 ∧ Mine.kk.heap_1 = Mine.kk.heap_1 := by
  k_fill
  exact ⟨rfl, rfl⟩

/-- the state around a call, with any mark of what is being handled -/
abbrev kTop (hd : Option Value) (dp un : Nat) (gd : Option (List Code)) (cn : Str) (cs : Scope) (L a : Addr) (ccd : Value) (cl : List (Str × Addr)) (outer : List Env) : Around :=
  { handled := hd, depth := dp, frames := some (envX cn cs L a ccd cl :: outer), guards := gd, units := un }

section
variable {prog : Program} {w : World} {A₀ A : Around} {s : Shared} {K : Frag} {base h₀ : Heap} {outer : List Env} {L : Addr} {m mg mb : Str → Option Value} {env : Env} {news : List (Addr × Obj)} {p : Program} {loose : List Str} {mean : ExcName → Option Value}

theorem enterS {R : Result → Shared → Prop} {name qual : Str} {params : Arguments} {body : List Stmt} {scope : Scope} {cl : List (Str × Addr)} {dV kV doc pm cdv ct : Value} {an : Option Addr} {fo : Obj} {f : Addr} {args : Args} {binds : List (Str × Value)}
    (B : Below A₀ base outer h₀) (F : Fr h₀ L s.heap m) (X : K.In h₀) (T : Top p loose mean mg mb h₀) (N : News h₀ L s.heap news) (hA : A.frames = some (env :: outer)) (hf : env.frame = some L) (hke : env.scope.kind = .function)
    (ho : s.heap.get? f = some fo) (hd : fo.data = .func (fnX name qual params body scope cl dV kV doc pm an cdv ct)) (hcd : s.heap.CodeRec cdv qual) (hroom : A.depth < recursionLimit)
    (hbind : BindsTo s (fnX name qual params body scope cl dV kV doc pm an cdv ct) args binds) (hloc : ∀ y ∈ binds, scope.names.lookup y.1 = some .local)
    (h : ∀ g L' h₁, Fr h₀ L g m → Fr g L' h₁ (fun y => binds.reverse.lookup y) → News g L' h₁ news → Below A base (env :: outer) g → K.In g → Top p loose mean mg mb g →
      (∀ b o, s.heap.get? b = some o → b ∉ news.map (·.1) → g.get? b = some o) → (∀ p ∈ news, p.1 < L') →
      wpAny (model prog w) (A.deeper (envX qual scope L' f cdv cl)) (execs body (envX qual scope L' f cdv cl))
        (fun fl s' => LeaveK h₀ L m g R (match fl with | .ret v => v | _ => .none) s')
        (fun e s' => wpAny (model prog w) (A.deeper (envX qual scope L' f cdv cl)) (leaving (envX qual scope L' f cdv cl) e) (fun _ s'' => R (.error e) s'') (fun e' s'' => R (.error e') s'') s')
        { s with heap := h₁, toks := s.toks + binds.length })
    (hcell : ∀ x ∈ scope.names, x.2 ≠ .cell) (hco : scope.isCoroutine = false) (hgen : scope.isGenerator = false) (hk : scope.kind = .function) : codeAny (model prog w) A (.call (.ref f) args) R s := by
  obtain ⟨FG, BG, st, lv⟩ := groundX (R := R) B F N hA hf hke
  refine codeAny_call_def (fd := fnX name qual params body scope cl dV kV doc pm an cdv ct) (body := body) (binds := binds) hroom ho hd (T.nolimit.keeps F.keep) hcd rfl hbind hcell hloc (fun h₁ hns hk₁ => ?_) hco hgen hk
  exact wpAny_mono (h _ s.heap.objs.size h₁ FG ⟨hns, fun b o e => hk₁ b o (of_hideAll _ e), Nat.le_of_eq (hideAll_size _ _)⟩
    (fun p hp => ⟨hk₁ _ _ (N p hp).1, Nat.ne_of_lt (Heap.lt_size (N p hp).1), hideAll_none _ (List.mem_map_of_mem hp)⟩) BG (X.keeps st) (T.keeps st) (fun b o e hb => hideAll_get _ e hb) (fun p hp => Heap.lt_size (N p hp).1)) (fun fl s' hl => lv _ _ hl) fun _ _ y => y
end

section
variable {prog : Program} {w : World} {A : Around} {E : Value → Shared → Prop} {s : Shared} {K : Frag} {x C L f : Addr} {h₀ : Heap} {m : Str → Option Value} {ox : Obj} {od : Option Obj} {news : List (Addr × Obj)} {g : Obj → List (Addr × Obj)}
theorem next_own {Q : Value → Shared → Prop} (X : K.In s.heap) (I : InstAt s.heap x ox C od) (hs : findIn K (.ref C) "__next__" = some (some (.ref f))) (hf : isFn K (.ref f) = true)
    (h : wpAny (model prog w) A.in1 (call (.ref f) [.ref x]) Q E s) : wpAny (model prog w) A (call (.builtin "next") [.ref x]) Q E s := by
  refine call_function_entry (by decide +kernel) (by decide +kernel) kdk_entry_next (kdk_args_next _) ?_
  unfold Builtin.«next»
  refine wpAny_bind (m := someArgs "next" 1 2 _) (wpAny_of_eq (a := [Value.ref x]) (by first | rfl | kernel_rfl!) ?_)
  dsimp only
  refine wpAny_bind (wpAny_bind (I.type.here ((looks_findIn X hs).here ?_)))
  refine wpAny_ite_split (fun hab => absurd hab (by simp)) (fun _ => ?_)
  refine wpAny_bind (special_fn X I hs (beq_iff_eq.mp hf) (wpAny_mono h (fun v s' hv => ?_) fun _ _ x => x))
  exact wpAny_pure ⟨_, rfl, hv⟩

theorem tups_keep {g : Heap} {ys : Array QE} (T : Tups h₀ ys) (F : Fr h₀ L g m) : Tups g ys := fun x hx => F.keep _ _ (T x hx)
def TupsIn (l : List (Addr × Obj)) (ys : Array QE) : Prop := ∀ x ∈ ys.toList, (x.a, x.obj) ∈ l
theorem push_K {Q : Value → Shared → Prop} {q : Addr} {n : Nat} {ys : Array QE} {x : QE} (F : Fr h₀ L s.heap m) (N : News h₀ L s.heap news) (U : UpdF q (qobj ys n) news g) (hx : (x.a, x.obj) ∈ news) (T : TupsIn news ys)
    (hz : ys.size < 1000) (D : Eids (ys.push x)) (H : IsHp QE.lt ys) (hu : A.units + 2 < cLine)
    (h : ∀ zs h', zs.toList.Perm (ys.push x).toList → IsHp QE.lt zs → Fr h₀ L h' m → News h₀ L h' (g (qobj zs (n + 1))) → Q .none { s with heap := h' }) :
    wpAny (model prog w) A (call (.builtin "_heapq.heappush") [.ref q, .ref x.a]) Q E s := by
  obtain ⟨pre, post, hl, hg, a, b⟩ := U.split
  have hm := N (q, qobj ys n) (by rw [hl]; exact List.mem_append_right _ (.head _))
  have T' : Tups s.heap (ys.push x) := fun y hy => by
    rw [Array.toList_push] at hy
    rcases List.mem_append.mp hy with hy | hy
    · exact (N _ (T y hy)).1
    · rw [List.mem_singleton.mp hy]; exact (N _ hx).1
  refine push_call hz D H hm.1 T' hu fun zs h' p1 p2 p3 p4 => h zs h' p1 p2 (F.change p4 hm.2.1 hm.2.2) ?_
  rw [hg]
  exact (show News h₀ L s.heap (pre ++ (q, qobj ys n) :: post) from hl ▸ N).setIn a b p4 p3
end

theorem an_nil {α : Type} {P : α → Prop} : ∀ p ∈ ([] : List α), P p := List.forall_mem_nil _
theorem an_cons {α : Type} {P : α → Prop} {p : α} {l : List α} (h : P p) (r : ∀ p ∈ l, P p) : ∀ q ∈ p :: l, P q := List.forall_mem_cons.mpr ⟨h, r⟩
/-- a ledger without the rows of some addresses -/
def less (l : List (Addr × Obj)) (ks : List Addr) : List (Addr × Obj) := l.filter (fun p => !(ks.contains p.1))
theorem mem_less {l : List (Addr × Obj)} {ks : List Addr} {p : Addr × Obj} : p ∈ less l ks ↔ p ∈ l ∧ p.1 ∉ ks := by
  unfold less
  rw [List.mem_filter]
  simp
theorem less_off {l : List (Addr × Obj)} {ks : List Addr} {a : Addr} (h : a ∈ ks) : ∀ p ∈ less l ks, p.1 ≠ a := fun p hp e => (mem_less.mp hp).2 (e ▸ h)
theorem off_of {l tl : List (Addr × Obj)} {d : Addr} (h : ∀ p ∈ l, p.1 < d) (hs : ∀ p ∈ tl, p ∈ l) : ∀ p ∈ tl, p.1 ≠ d := fun p hp => Nat.ne_of_lt (h p (hs p hp))
theorem lt_keys {l l' : List (Addr × Obj)} {d : Addr} (h : ∀ p ∈ l, p.1 < d) (e : l'.map (·.1) = l.map (·.1)) : ∀ p ∈ l', p.1 < d := fun p hp => by
  have h1 : p.1 ∈ l.map (·.1) := e ▸ List.mem_map_of_mem hp
  obtain ⟨q, hq, e2⟩ := List.mem_map.mp h1
  rw [← e2]
  exact h q hq
theorem sub_cons {l tl : List (Addr × Obj)} {q : Addr × Obj} (h : ∀ p ∈ tl, p ∈ l) : ∀ p ∈ tl, p ∈ q :: l := fun p hp => .tail _ (h p hp)
theorem tups_sub {l tl : List (Addr × Obj)} {ys : Array QE} (T : TupsIn tl ys) (h : ∀ p ∈ tl, p ∈ l) : TupsIn l ys := fun x hx => h _ (T x hx)
section
variable {h₀ g h h' : Heap} {L L' : Addr} {m m' : Str → Option Value} {s : Shared} {news news' conc tl : List (Addr × Obj)}
/-- a ledger split: some rows by name, the rest behind them -/
theorem news_split (N : News h₀ L h news) (hc : ∀ p ∈ conc, p ∈ news) (ks : List Addr) : News h₀ L h (conc ++ less news ks) := fun p hp => by
  rcases List.mem_append.mp hp with hp | hp
  · exact N p (hc p hp)
  · exact N p (mem_less.mp hp).1
theorem news_uniq (N : News h₀ L h news) {a : Addr} {o o' : Obj} (h1 : (a, o) ∈ news) (h2 : (a, o') ∈ news) : o = o' := by
  have e1 := (N _ h1).1
  have e2 := (N _ h2).1
  rw [e1] at e2
  exact Option.some.inj e2
/-- ... and put together again -/
theorem news_back {h₁ : Heap} {L₁ : Addr} (N : News h₁ L₁ g news) (hc : ∀ p ∈ conc, p ∈ news) (mods : List Addr) (N' : News h₀ L h' (news' ++ less news (conc.map (·.1)))) (hs : ∀ p ∈ conc, p.1 ∈ mods ∨ p ∈ news') : News h₀ L h' (news' ++ less news mods) := fun p hp => by
  rcases List.mem_append.mp hp with hp | hp
  · exact N' p (List.mem_append_left _ hp)
  · obtain ⟨h1, h2⟩ := mem_less.mp hp
    by_cases hk : p.1 ∈ conc.map (·.1)
    · obtain ⟨q, hq, e⟩ := List.mem_map.mp hk
      have e2 : q = p := by
        obtain ⟨qa, qo⟩ := q
        obtain ⟨pa, po⟩ := p
        dsimp only at e
        subst e
        rw [news_uniq N (hc _ hq) h1]
      subst e2
      rcases hs q hq with h3 | h3
      · exact absurd h3 h2
      · exact N' q (List.mem_append_left _ h3)
    · exact N' p (List.mem_append_right _ (mem_less.mpr ⟨h1, hk⟩))
theorem news_keys_split (hc : ∀ p ∈ conc, p ∈ news) (h : ∀ p ∈ conc ++ less news (conc.map (·.1)), p.1 < L) (N : News h₀ L' g news) : ∀ p ∈ news, p.1 < L := fun p hp => by
  by_cases hk : p.1 ∈ conc.map (·.1)
  · obtain ⟨q, hq, e⟩ := List.mem_map.mp hk
    rw [← e]
    exact h q (List.mem_append_left _ hq)
  · exact h p (List.mem_append_right _ (mem_less.mpr ⟨hp, hk⟩))
end
local macro_rules | `(tactic| walk_at "nd") => `(tactic| ((with_reducible rename List.Nodup _ => nd9); (simp only [List.nodup_cons, List.mem_cons, List.not_mem_nil, not_or, or_false, not_false_eq_true, List.nodup_nil, and_true] at nd9); (repeat (cases ‹_ ∧ _›))))
local macro_rules | `(tactic| walk_at "sub") => `(tactic| (first | exact List.forall_mem_nil _ | (refine List.forall_mem_cons.mpr ⟨?_, ?_⟩; (first | exact Or.inr (by k_mem) | exact Or.inl (by k_memK)); walk_at "sub")))
local macro_rules | `(tactic| walk_at "subl") => `(tactic| (first | exact fun _ h => h | (refine sub_cons ?_; walk_at "subl")))
local macro_rules | `(tactic| k_all) => `(tactic| first | with_reducible assumption | exact off_of (by with_reducible assumption) (by walk_at "subl"))
local macro_rules | `(tactic| k_lt $h:ident) => `(tactic| (have h9 := $h; replace $h := allLt_of $h; simp only [AllLt, and_true] at $h:ident))
local macro_rules | `(tactic| k_room) => `(tactic| ktr_room)
local macro_rules | `(tactic| k_ne) => `(tactic| first | with_reducible assumption | (with_reducible apply Ne.symm; with_reducible assumption))
local macro_rules | `(tactic| walk_at "call builtin:next") => `(tactic| (k_here; (with_reducible show wpAny _ _ (call (Value.builtin "next") [Value.ref _]) _ _ _); k_dflt (refine' next_own ?k1 ?k2 ?k3 ?k4 ?_; (case k1 => k_in); (case k2 => k_inst); (case k3 => k_is); (case k4 => k_is); k_whole)))
local macro_rules | `(tactic| walk_at "call builtin:_heapq.heappush") => `(tactic| (k_here; k_dflt (refine' push_K (x := ⟨_, _, _, _, _, _, _, _⟩) ?k1 ?k2 ?k3 ?k4 ?k5 ?k6 ?k7 ?k8 ?k9 ?_; (case k1 => k_asm); (case k2 => k_asm); (case k3 => k_updF); (case k4 => k_mem); (case k5 => exact tups_sub (by with_reducible assumption) (by walk_at "subl")); (case k6 => with_reducible assumption); (case k7 => apply_assumption); (case k8 => with_reducible assumption); (case k9 => ktr_units); k_whole); intro zs' h' pm' hp' F' N'; (try dsimp only at N')))

def tupB (o : Obj) : Bool := match o.cls with | .type n => n == "tuple" | _ => false
theorem tupB_seq : ∀ {vs : Array Value} {n : Nat}, tupB { cls := .type "list", data := .seq vs n } = false := show (("list" : Str) == "tuple") = false by decide +kernel
theorem tupB_dict : ∀ {es : List DictEntry} {n : Nat}, tupB (dictOf es n) = false := show (("dict" : Str) == "tuple") = false by decide +kernel
theorem tupB_inst : ∀ {c d : Addr}, tupB (instObj c d) = false := rfl
theorem tupB_tup : ∀ {t p e : Int} {u1 u2 u3 : Tok} {v : Value}, tupB (tupo t p e u1 u2 u3 v) = true := show (("tuple" : Str) == "tuple") = true by decide +kernel
theorem tups_tl {h₀ h : Heap} {L : Addr} {news conc : List (Addr × Obj)} {ys : Array QE} (N : News h₀ L h news) (hc : ∀ p ∈ conc, p ∈ news) (TY : TupsIn news ys) (nt : ∀ p ∈ conc, tupB p.2 = false) : TupsIn (less news (conc.map (·.1))) ys := fun x hx => mem_less.mpr ⟨TY x hx, fun hm => by
  obtain ⟨⟨a, o⟩, hp, e1⟩ := List.mem_map.mp hm
  dsimp only at e1
  subst e1
  have e3 := congrArg tupB (news_uniq N (hc _ hp) (TY x hx))
  rw [nt _ hp, tupB_tup] at e3
  cases e3⟩
theorem eids_push {ys : Array QE} {k : Int} (D : ∀ x ∈ ys.toList, x.e < k) (D1 : Eids ys) : ∀ t a b x1 x2 x3 v, Eids (ys.push ⟨t, a, b, k, x1, x2, x3, v⟩) := fun t a b x1 x2 x3 v => by
  unfold Eids
  rw [Array.toList_push, List.map_append, List.nodup_append]
  refine ⟨D1, by simp, fun i hi j hj => ?_⟩
  obtain ⟨x, hx, rfl⟩ := List.mem_map.mp hi
  have := D x hx
  simp at hj
  omega
abbrev en (w : World) (n : Str) (t : Tok) (v : Value) : DictEntry := ⟨PyData.keyHash w.params n, .str n t, v⟩
abbrev envO (w : World) (t1 t2 t3 t4 u : Tok) (now : Int) (q c : Addr) (act : Value) : Obj := dictOf [en w "_now" t1 (.int now u), en w "_queue" t2 (.ref q), en w "_eid" t3 (.ref c), en w "_active_proc" t4 act] 4
abbrev cntO (cd : Addr) (fb : Bool) (k : Int) (u1 u2 : Tok) : Obj := ⟨.ref 557, some cd, .plain, #[some (.int k u1), some (.bool fb), some (.int 1 u2)]⟩

section
variable {prog : Program} {w : World} {p : Program} {loose : List Str} {mean : ExcName → Option Value} {mg mb : Str → Option Value} {hd : Option Value}
    {dp un : Nat} {gd : Option (List Code)} {cn : Str} {cs : Scope} {a : Addr} {ccd : Value} {cl : List (Str × Addr)} {outer : List Env} {A₀ : Around} {base h₀ : Heap} {L : Addr} {m : Str → Option Value} {s : Shared} {Q E : Value → Shared → Prop}

abbrev schL (w : World) (e ed q c cd : Addr) (t1 t2 t3 t4 u1 : Tok) (now : Int) (act : Value) (qo co : Obj) : List (Addr × Obj) := [(e, instObj 662 ed), (ed, envO w t1 t2 t3 t4 u1 now q c act), (q, qo), (c, co), (cd, dictOf [] 0)]

theorem schedule_4 {e ed q c ev cd : Addr} {now pr dl k : Int} {t1 t2 t3 t4 u1 u2 u3 u4 u5 : Tok} {act : Value} {ys : Array QE} {n : Nat} {fb : Bool} {news : List (Addr × Obj)}
    (B : Below A₀ base outer h₀) (F : Fr h₀ L s.heap m) (X : (Mine.kk.heap_1 w.params).In h₀) (T : Top p loose mean mg mb h₀) (hk : cs.kind = .function) (hdp : dp + 10 < recursionLimit) (hun : un + 40 < cLine)
    (N : News h₀ L s.heap news) (nd : [e, ed, q, c, cd].Nodup) (hm : ∀ p ∈ schL w e ed q c cd t1 t2 t3 t4 u1 now act (qobj ys n) (cntO cd fb k u4 u5), p ∈ news)
    (TY : TupsIn news ys) (hz : ys.size < 1000) (D : ∀ x ∈ ys.toList, x.e < k) (D1 : Eids ys) (H : IsHp QE.lt ys)
    (ret : ∀ (t : Addr) (zs : Array QE) (x1 x2 x3 x4 : Tok) h' tk', zs.toList.Perm (ys.push ⟨t, now + dl, pr, k, x1, x2, x3, .ref ev⟩).toList → IsHp QE.lt zs → (∀ p ∈ news, p.1 < t) → Fr h₀ L h' m →
      News h₀ L h' ((t, tupo (now + dl) pr k x1 x2 x3 (.ref ev)) :: (q, qobj zs (n + 1)) :: (c, cntO cd fb (k + 1) x4 u5) :: less news [q, c]) → Q .none { s with heap := h', toks := tk' }) :
    wpAny (model prog w) (kTop hd dp un gd cn cs L a ccd cl outer) (call (.ref 637) [.ref e, .ref ev, .int pr u2, .int dl u3]) Q E s := by
  refine Mine.go_of ?_
  simp (disch := k_dflt (
  have N0 : News h₀ L s.heap (schL w e ed q c cd t1 t2 t3 t4 u1 now act (qobj ys n) (cntO cd fb k u4 u5) ++ less news [e, ed, q, c, cd]) := news_split N hm _
  have TG : TupsIn (less news [e, ed, q, c, cd]) ys := tups_tl N hm TY (an_cons rfl (an_cons tupB_dict (an_cons tupB_seq (an_cons rfl (an_cons tupB_dict an_nil)))))
  have hq : ∀ p ∈ less news [e, ed, q, c, cd], p.1 ≠ q := less_off (by simp)
  have hc : ∀ p ∈ less news [e, ed, q, c, cd], p.1 ≠ c := less_off (by simp)
  have DP := eids_push D D1
  have ret' : ∀ (t : Addr) (zs : Array QE) (x1 x2 x3 x4 : Tok) h' tk', zs.toList.Perm (ys.push ⟨t, now + dl, pr, k, x1, x2, x3, .ref ev⟩).toList → IsHp QE.lt zs → (∀ p ∈ schL w e ed q c cd t1 t2 t3 t4 u1 now act (qobj ys n) (cntO cd fb k u4 u5) ++ less news [e, ed, q, c, cd], p.1 < t) → Fr h₀ L h' m →
      News h₀ L h' ((t, tupo (now + dl) pr k x1 x2 x3 (.ref ev)) :: (schL w e ed q c cd t1 t2 t3 t4 u1 now act (qobj zs (n + 1)) (cntO cd fb (k + 1) x4 u5) ++ less news [e, ed, q, c, cd])) → Q .none { s with heap := h', toks := tk' } := by
    intro t zs x1 x2 x3 x4 h' tk' p1 p2 p3 p4 p5
    refine ret t zs x1 x2 x3 x4 h' tk' p1 p2 (news_keys_split hm p3 N) p4 ?_
    have N5 := news_back N hm [q, c] (news' := (t, tupo (now + dl) pr k x1 x2 x3 (.ref ev)) :: schL w e ed q c cd t1 t2 t3 t4 u1 now act (qobj zs (n + 1)) (cntO cd fb (k + 1) x4 u5)) p5 (by
      refine an_cons (.inr (by simp)) (an_cons (.inr (by simp)) (an_cons (.inl (by simp)) (an_cons (.inl (by simp)) (an_cons (.inr (by simp)) an_nil)))))
    exact fun p hp => N5 p (by
      rcases List.mem_cons.mp hp with rfl | hp
      · simp
      rcases List.mem_cons.mp hp with rfl | hp
      · simp
      rcases List.mem_cons.mp hp with rfl | hp
      · simp
      exact List.mem_append_right _ hp)
  clear ret
  generalize less news [e, ed, q, c, cd] = tl at N0 TG hq hc ret'
  clear hm TY N
  dsimp only [schL, List.cons_append, List.nil_append] at N0 ret'
  refine wpAny_call ?_
  refine enterS (K := Mine.kk.heap_1 w.params) (binds := _) B F X T N0 rfl rfl hk ((X.keeps F.keep) _ _ (by k_is)) rfl (codeRec_of (X.keeps F.keep) (by k_is)) (by ktr_room) (binds_K (by k_in) rfl (by k_is) rfl rfl rfl) (locs rfl) ?_ (by decide) rfl rfl rfl
  intro g' L' h' FG' F' N' B' X' T' hg' hL'
  walk_at "nd"
  dsimp only
  k_fold
  k_steps
  refine ret' _ _ _ _ _ _ _ _ (by assumption) (by assumption) (lt_keys (by assumption) (by rfl)) (by assumption) (by assumption))) only [↓Mine.go_eq]
theorem schedule_3 {e ed q c ev cd : Addr} {now pr k : Int} {t1 t2 t3 t4 u1 u2 u4 u5 : Tok} {act : Value} {ys : Array QE} {n : Nat} {fb : Bool} {news : List (Addr × Obj)}
    (B : Below A₀ base outer h₀) (F : Fr h₀ L s.heap m) (X : (Mine.kk.heap_1 w.params).In h₀) (T : Top p loose mean mg mb h₀) (hk : cs.kind = .function) (hdp : dp + 10 < recursionLimit) (hun : un + 40 < cLine)
    (N : News h₀ L s.heap news) (nd : [e, ed, q, c, cd].Nodup) (hm : ∀ p ∈ schL w e ed q c cd t1 t2 t3 t4 u1 now act (qobj ys n) (cntO cd fb k u4 u5), p ∈ news)
    (TY : TupsIn news ys) (hz : ys.size < 1000) (D : ∀ x ∈ ys.toList, x.e < k) (D1 : Eids ys) (H : IsHp QE.lt ys)
    (ret : ∀ (t : Addr) (zs : Array QE) (x1 x2 x3 x4 : Tok) h' tk', zs.toList.Perm (ys.push ⟨t, now + 0, pr, k, x1, x2, x3, .ref ev⟩).toList → IsHp QE.lt zs → (∀ p ∈ news, p.1 < t) → Fr h₀ L h' m →
      News h₀ L h' ((t, tupo (now + 0) pr k x1 x2 x3 (.ref ev)) :: (q, qobj zs (n + 1)) :: (c, cntO cd fb (k + 1) x4 u5) :: less news [q, c]) → Q .none { s with heap := h', toks := tk' }) :
    wpAny (model prog w) (kTop hd dp un gd cn cs L a ccd cl outer) (call (.ref 637) [.ref e, .ref ev, .int pr u2]) Q E s := by
  refine Mine.go_of ?_
  simp (disch := k_dflt (
  have N0 : News h₀ L s.heap (schL w e ed q c cd t1 t2 t3 t4 u1 now act (qobj ys n) (cntO cd fb k u4 u5) ++ less news [e, ed, q, c, cd]) := news_split N hm _
  have TG : TupsIn (less news [e, ed, q, c, cd]) ys := tups_tl N hm TY (an_cons rfl (an_cons tupB_dict (an_cons tupB_seq (an_cons rfl (an_cons tupB_dict an_nil)))))
  have hq : ∀ p ∈ less news [e, ed, q, c, cd], p.1 ≠ q := less_off (by simp)
  have hc : ∀ p ∈ less news [e, ed, q, c, cd], p.1 ≠ c := less_off (by simp)
  have DP := eids_push D D1
  have ret' : ∀ (t : Addr) (zs : Array QE) (x1 x2 x3 x4 : Tok) h' tk', zs.toList.Perm (ys.push ⟨t, now + 0, pr, k, x1, x2, x3, .ref ev⟩).toList → IsHp QE.lt zs → (∀ p ∈ schL w e ed q c cd t1 t2 t3 t4 u1 now act (qobj ys n) (cntO cd fb k u4 u5) ++ less news [e, ed, q, c, cd], p.1 < t) → Fr h₀ L h' m →
      News h₀ L h' ((t, tupo (now + 0) pr k x1 x2 x3 (.ref ev)) :: (schL w e ed q c cd t1 t2 t3 t4 u1 now act (qobj zs (n + 1)) (cntO cd fb (k + 1) x4 u5) ++ less news [e, ed, q, c, cd])) → Q .none { s with heap := h', toks := tk' } := by
    intro t zs x1 x2 x3 x4 h' tk' p1 p2 p3 p4 p5
    refine ret t zs x1 x2 x3 x4 h' tk' p1 p2 (news_keys_split hm p3 N) p4 ?_
    have N5 := news_back N hm [q, c] (news' := (t, tupo (now + 0) pr k x1 x2 x3 (.ref ev)) :: schL w e ed q c cd t1 t2 t3 t4 u1 now act (qobj zs (n + 1)) (cntO cd fb (k + 1) x4 u5)) p5 (by
      refine an_cons (.inr (by simp)) (an_cons (.inr (by simp)) (an_cons (.inl (by simp)) (an_cons (.inl (by simp)) (an_cons (.inr (by simp)) an_nil)))))
    exact fun p hp => N5 p (by
      rcases List.mem_cons.mp hp with rfl | hp
      · simp
      rcases List.mem_cons.mp hp with rfl | hp
      · simp
      rcases List.mem_cons.mp hp with rfl | hp
      · simp
      exact List.mem_append_right _ hp)
  clear ret
  generalize less news [e, ed, q, c, cd] = tl at N0 TG hq hc ret'
  clear hm TY N
  dsimp only [schL, List.cons_append, List.nil_append] at N0 ret'
  refine wpAny_call ?_
  refine enterS (K := Mine.kk.heap_1 w.params) (binds := _) B F X T N0 rfl rfl hk ((X.keeps F.keep) _ _ (by k_is)) rfl (codeRec_of (X.keeps F.keep) (by k_is)) (by ktr_room) (binds_K (by k_in) rfl (by k_is) rfl rfl rfl) (locs rfl) ?_ (by decide) rfl rfl rfl
  intro g' L' h' FG' F' N' B' X' T' hg' hL'
  walk_at "nd"
  dsimp only
  k_fold
  k_steps
  refine ret' _ _ _ _ _ _ _ _ (by assumption) (by assumption) (lt_keys (by assumption) (by rfl)) (by assumption) (by assumption))) only [↓Mine.go_eq]
theorem schedule_2 {e ed q c ev cd : Addr} {now k : Int} {t1 t2 t3 t4 u1 u4 u5 : Tok} {act : Value} {ys : Array QE} {n : Nat} {fb : Bool} {news : List (Addr × Obj)}
    (B : Below A₀ base outer h₀) (F : Fr h₀ L s.heap m) (X : (Mine.kk.heap_1 w.params).In h₀) (T : Top p loose mean mg mb h₀) (hk : cs.kind = .function) (hdp : dp + 10 < recursionLimit) (hun : un + 40 < cLine)
    (N : News h₀ L s.heap news) (nd : [e, ed, q, c, cd].Nodup) (hm : ∀ p ∈ schL w e ed q c cd t1 t2 t3 t4 u1 now act (qobj ys n) (cntO cd fb k u4 u5), p ∈ news)
    (TY : TupsIn news ys) (hz : ys.size < 1000) (D : ∀ x ∈ ys.toList, x.e < k) (D1 : Eids ys) (H : IsHp QE.lt ys)
    (ret : ∀ (t : Addr) (zs : Array QE) (x1 x2 x3 x4 : Tok) h' tk', zs.toList.Perm (ys.push ⟨t, now + 0, 1, k, x1, x2, x3, .ref ev⟩).toList → IsHp QE.lt zs → (∀ p ∈ news, p.1 < t) → Fr h₀ L h' m →
      News h₀ L h' ((t, tupo (now + 0) 1 k x1 x2 x3 (.ref ev)) :: (q, qobj zs (n + 1)) :: (c, cntO cd fb (k + 1) x4 u5) :: less news [q, c]) → Q .none { s with heap := h', toks := tk' }) :
    wpAny (model prog w) (kTop hd dp un gd cn cs L a ccd cl outer) (call (.ref 637) [.ref e, .ref ev]) Q E s := by
  refine Mine.go_of ?_
  simp (disch := k_dflt (
  have N0 : News h₀ L s.heap (schL w e ed q c cd t1 t2 t3 t4 u1 now act (qobj ys n) (cntO cd fb k u4 u5) ++ less news [e, ed, q, c, cd]) := news_split N hm _
  have TG : TupsIn (less news [e, ed, q, c, cd]) ys := tups_tl N hm TY (an_cons rfl (an_cons tupB_dict (an_cons tupB_seq (an_cons rfl (an_cons tupB_dict an_nil)))))
  have hq : ∀ p ∈ less news [e, ed, q, c, cd], p.1 ≠ q := less_off (by simp)
  have hc : ∀ p ∈ less news [e, ed, q, c, cd], p.1 ≠ c := less_off (by simp)
  have DP := eids_push D D1
  have ret' : ∀ (t : Addr) (zs : Array QE) (x1 x2 x3 x4 : Tok) h' tk', zs.toList.Perm (ys.push ⟨t, now + 0, 1, k, x1, x2, x3, .ref ev⟩).toList → IsHp QE.lt zs → (∀ p ∈ schL w e ed q c cd t1 t2 t3 t4 u1 now act (qobj ys n) (cntO cd fb k u4 u5) ++ less news [e, ed, q, c, cd], p.1 < t) → Fr h₀ L h' m →
      News h₀ L h' ((t, tupo (now + 0) 1 k x1 x2 x3 (.ref ev)) :: (schL w e ed q c cd t1 t2 t3 t4 u1 now act (qobj zs (n + 1)) (cntO cd fb (k + 1) x4 u5) ++ less news [e, ed, q, c, cd])) → Q .none { s with heap := h', toks := tk' } := by
    intro t zs x1 x2 x3 x4 h' tk' p1 p2 p3 p4 p5
    refine ret t zs x1 x2 x3 x4 h' tk' p1 p2 (news_keys_split hm p3 N) p4 ?_
    have N5 := news_back N hm [q, c] (news' := (t, tupo (now + 0) 1 k x1 x2 x3 (.ref ev)) :: schL w e ed q c cd t1 t2 t3 t4 u1 now act (qobj zs (n + 1)) (cntO cd fb (k + 1) x4 u5)) p5 (by
      refine an_cons (.inr (by simp)) (an_cons (.inr (by simp)) (an_cons (.inl (by simp)) (an_cons (.inl (by simp)) (an_cons (.inr (by simp)) an_nil)))))
    exact fun p hp => N5 p (by
      rcases List.mem_cons.mp hp with rfl | hp
      · simp
      rcases List.mem_cons.mp hp with rfl | hp
      · simp
      rcases List.mem_cons.mp hp with rfl | hp
      · simp
      exact List.mem_append_right _ hp)
  clear ret
  generalize less news [e, ed, q, c, cd] = tl at N0 TG hq hc ret'
  clear hm TY N
  dsimp only [schL, List.cons_append, List.nil_append] at N0 ret'
  refine wpAny_call ?_
  refine enterS (K := Mine.kk.heap_1 w.params) (binds := _) B F X T N0 rfl rfl hk ((X.keeps F.keep) _ _ (by k_is)) rfl (codeRec_of (X.keeps F.keep) (by k_is)) (by ktr_room) (binds_K (by k_in) rfl (by k_is) rfl rfl rfl) (locs rfl) ?_ (by decide) rfl rfl rfl
  intro g' L' h' FG' F' N' B' X' T' hg' hL'
  walk_at "nd"
  dsimp only
  k_fold
  k_steps
  refine ret' _ _ _ _ _ _ _ _ (by assumption) (by assumption) (lt_keys (by assumption) (by rfl)) (by assumption) (by assumption))) only [↓Mine.go_eq]

theorem upd_two {h₀ h' : Heap} {L q c t : Addr} {news : List (Addr × Obj)} {qo q' co c' to : Obj} {g : Obj → List (Addr × Obj)} {g2 : Obj → Obj → List (Addr × Obj)} (U : UpdF q qo news g) (V : ∀ o, UpdF c co (g o) (g2 o))
    (N : News h₀ L h' ((t, to) :: (q, q') :: (c, c') :: less news [q, c])) : News h₀ L h' ((t, to) :: g2 q' c') := fun p hp => by
  rcases List.mem_cons.mp hp with rfl | hp
  · exact N _ (.head _)
  obtain ⟨pre, post, hl, hg, a1, b1⟩ := U.split
  obtain ⟨pre2, post2, hl2, hg2, a2, b2⟩ := (V q').split
  rw [hg2] at hp
  have h3 : p = (c, c') ∨ (p ∈ g q' ∧ p.1 ≠ c) := by
    rcases List.mem_append.mp hp with hp | hp
    · exact .inr ⟨by rw [hl2]; exact List.mem_append_left _ hp, a2 p hp⟩
    · rcases List.mem_cons.mp hp with hp | hp
      · exact .inl hp
      · exact .inr ⟨by rw [hl2]; exact List.mem_append_right _ (.tail _ hp), b2 p hp⟩
  rcases h3 with rfl | ⟨h3, h4⟩
  · exact N _ (.tail _ (.tail _ (.head _)))
  rw [hg] at h3
  have h5 : p = (q, q') ∨ (p ∈ news ∧ p.1 ≠ q) := by
    rcases List.mem_append.mp h3 with hp | hp
    · exact .inr ⟨by rw [hl]; exact List.mem_append_left _ hp, a1 p hp⟩
    · rcases List.mem_cons.mp hp with hp | hp
      · exact .inl hp
      · exact .inr ⟨by rw [hl]; exact List.mem_append_right _ (.tail _ hp), b1 p hp⟩
  rcases h5 with rfl | ⟨h5, h6⟩
  · exact N _ (.tail _ (.head _))
  · exact N _ (.tail _ (.tail _ (.tail _ (mem_less.mpr ⟨h5, by simp only [List.mem_cons, List.not_mem_nil, or_false, not_or]; exact ⟨h6, h4⟩⟩))))
theorem upd_two_mem {q c : Addr} {news : List (Addr × Obj)} {qo co : Obj} {g : Obj → List (Addr × Obj)} {g2 : Obj → Obj → List (Addr × Obj)} (U : UpdF q qo news g) (V : ∀ o, UpdF c co (g o) (g2 o)) (hne : c ≠ q) : (q, qo) ∈ news ∧ (c, co) ∈ news := by
  obtain ⟨pre, post, hl, hg, a1, b1⟩ := U.split
  obtain ⟨pre2, post2, hl2, hg2, a2, b2⟩ := (V qo).split
  have h1 : (q, qo) ∈ news := by rw [hl]; exact List.mem_append_right _ (.head _)
  have h2 : g qo = news := by rw [hg, hl]
  exact ⟨h1, by rw [← h2, hl2]; exact List.mem_append_right _ (.head _)⟩
theorem sched_4 {e ed q c ev cd : Addr} {now pr dl k : Int} {t1 t2 t3 t4 u1 u2 u3 u4 u5 : Tok} {act : Value} {ys : Array QE} {n : Nat} {fb : Bool} {news : List (Addr × Obj)} {g : Obj → List (Addr × Obj)} {g2 : Obj → Obj → List (Addr × Obj)}
    (B : Below A₀ base outer h₀) (F : Fr h₀ L s.heap m) (X : (Mine.kk.heap_1 w.params).In h₀) (T : Top p loose mean mg mb h₀) (hk : cs.kind = .function) (hdp : dp + 10 < recursionLimit) (hun : un + 40 < cLine)
    (N : News h₀ L s.heap news) (nd : [e, ed, q, c, cd].Nodup) (U : UpdF q (qobj ys n) news g) (V : ∀ o, UpdF c (cntO cd fb k u4 u5) (g o) (g2 o)) (he : (e, instObj 662 ed) ∈ news) (hed : (ed, envO w t1 t2 t3 t4 u1 now q c act) ∈ news) (hcd : (cd, dictOf [] 0) ∈ news)
    (TY : TupsIn news ys) (hz : ys.size < 1000) (D : ∀ x ∈ ys.toList, x.e < k) (D1 : Eids ys) (H : IsHp QE.lt ys)
    (ret : ∀ (t : Addr) (zs : Array QE) (x1 x2 x3 x4 : Tok) h' tk', zs.toList.Perm (ys.push ⟨t, now + dl, pr, k, x1, x2, x3, .ref ev⟩).toList → IsHp QE.lt zs → (∀ p ∈ news, p.1 < t) → Fr h₀ L h' m →
      News h₀ L h' ((t, tupo (now + dl) pr k x1 x2 x3 (.ref ev)) :: g2 (qobj zs (n + 1)) (cntO cd fb (k + 1) x4 u5)) → Q .none { s with heap := h', toks := tk' }) :
    wpAny (model prog w) (kTop hd dp un gd cn cs L a ccd cl outer) (call (.ref 637) [.ref e, .ref ev, .int pr u2, .int dl u3]) Q E s := by
  have hqc : c ≠ q := fun h => by subst h; simp at nd
  have hmm := upd_two_mem U V hqc
  exact schedule_4 B F X T hk hdp hun N nd (an_cons he (an_cons hed (an_cons hmm.1 (an_cons hmm.2 (an_cons hcd an_nil))))) TY hz D D1 H (fun t zs x1 x2 x3 x4 h' tk' p1 p2 p3 p4 p5 => ret t zs x1 x2 x3 x4 h' tk' p1 p2 p3 p4 (upd_two U V p5))
theorem sched_3 {e ed q c ev cd : Addr} {now pr k : Int} {t1 t2 t3 t4 u1 u2 u4 u5 : Tok} {act : Value} {ys : Array QE} {n : Nat} {fb : Bool} {news : List (Addr × Obj)} {g : Obj → List (Addr × Obj)} {g2 : Obj → Obj → List (Addr × Obj)}
    (B : Below A₀ base outer h₀) (F : Fr h₀ L s.heap m) (X : (Mine.kk.heap_1 w.params).In h₀) (T : Top p loose mean mg mb h₀) (hk : cs.kind = .function) (hdp : dp + 10 < recursionLimit) (hun : un + 40 < cLine)
    (N : News h₀ L s.heap news) (nd : [e, ed, q, c, cd].Nodup) (U : UpdF q (qobj ys n) news g) (V : ∀ o, UpdF c (cntO cd fb k u4 u5) (g o) (g2 o)) (he : (e, instObj 662 ed) ∈ news) (hed : (ed, envO w t1 t2 t3 t4 u1 now q c act) ∈ news) (hcd : (cd, dictOf [] 0) ∈ news)
    (TY : TupsIn news ys) (hz : ys.size < 1000) (D : ∀ x ∈ ys.toList, x.e < k) (D1 : Eids ys) (H : IsHp QE.lt ys)
    (ret : ∀ (t : Addr) (zs : Array QE) (x1 x2 x3 x4 : Tok) h' tk', zs.toList.Perm (ys.push ⟨t, now + 0, pr, k, x1, x2, x3, .ref ev⟩).toList → IsHp QE.lt zs → (∀ p ∈ news, p.1 < t) → Fr h₀ L h' m →
      News h₀ L h' ((t, tupo (now + 0) pr k x1 x2 x3 (.ref ev)) :: g2 (qobj zs (n + 1)) (cntO cd fb (k + 1) x4 u5)) → Q .none { s with heap := h', toks := tk' }) :
    wpAny (model prog w) (kTop hd dp un gd cn cs L a ccd cl outer) (call (.ref 637) [.ref e, .ref ev, .int pr u2]) Q E s := by
  have hqc : c ≠ q := fun h => by subst h; simp at nd
  have hmm := upd_two_mem U V hqc
  exact schedule_3 B F X T hk hdp hun N nd (an_cons he (an_cons hed (an_cons hmm.1 (an_cons hmm.2 (an_cons hcd an_nil))))) TY hz D D1 H (fun t zs x1 x2 x3 x4 h' tk' p1 p2 p3 p4 p5 => ret t zs x1 x2 x3 x4 h' tk' p1 p2 p3 p4 (upd_two U V p5))
theorem sched_2 {e ed q c ev cd : Addr} {now k : Int} {t1 t2 t3 t4 u1 u4 u5 : Tok} {act : Value} {ys : Array QE} {n : Nat} {fb : Bool} {news : List (Addr × Obj)} {g : Obj → List (Addr × Obj)} {g2 : Obj → Obj → List (Addr × Obj)}
    (B : Below A₀ base outer h₀) (F : Fr h₀ L s.heap m) (X : (Mine.kk.heap_1 w.params).In h₀) (T : Top p loose mean mg mb h₀) (hk : cs.kind = .function) (hdp : dp + 10 < recursionLimit) (hun : un + 40 < cLine)
    (N : News h₀ L s.heap news) (nd : [e, ed, q, c, cd].Nodup) (U : UpdF q (qobj ys n) news g) (V : ∀ o, UpdF c (cntO cd fb k u4 u5) (g o) (g2 o)) (he : (e, instObj 662 ed) ∈ news) (hed : (ed, envO w t1 t2 t3 t4 u1 now q c act) ∈ news) (hcd : (cd, dictOf [] 0) ∈ news)
    (TY : TupsIn news ys) (hz : ys.size < 1000) (D : ∀ x ∈ ys.toList, x.e < k) (D1 : Eids ys) (H : IsHp QE.lt ys)
    (ret : ∀ (t : Addr) (zs : Array QE) (x1 x2 x3 x4 : Tok) h' tk', zs.toList.Perm (ys.push ⟨t, now + 0, 1, k, x1, x2, x3, .ref ev⟩).toList → IsHp QE.lt zs → (∀ p ∈ news, p.1 < t) → Fr h₀ L h' m →
      News h₀ L h' ((t, tupo (now + 0) 1 k x1 x2 x3 (.ref ev)) :: g2 (qobj zs (n + 1)) (cntO cd fb (k + 1) x4 u5)) → Q .none { s with heap := h', toks := tk' }) :
    wpAny (model prog w) (kTop hd dp un gd cn cs L a ccd cl outer) (call (.ref 637) [.ref e, .ref ev]) Q E s := by
  have hqc : c ≠ q := fun h => by subst h; simp at nd
  have hmm := upd_two_mem U V hqc
  exact schedule_2 B F X T hk hdp hun N nd (an_cons he (an_cons hed (an_cons hmm.1 (an_cons hmm.2 (an_cons hcd an_nil))))) TY hz D D1 H (fun t zs x1 x2 x3 x4 h' tk' p1 p2 p3 p4 p5 => ret t zs x1 x2 x3 x4 h' tk' p1 p2 p3 p4 (upd_two U V p5))
end
end Mine
end

section
-- part D1
open PySem PySem.W PyProof.Rows PySem.Spec in
theorem Mine.turn_D1 {p : Program} {w : World} {A : Around} {en : Env} {Q : Flow → Shared → Prop} {E : Value → Shared → Prop} {s : Shared} (h : Q .next s) : wpAny (model p w) A (execs [] en) Q E s := by
  w_top off
  walk1
  exact h
open PySem PySem.W PyProof.Rows PySem.Calls
namespace Mine

local macro_rules | `(tactic| walk_at "nd") => `(tactic| ((with_reducible rename List.Nodup _ => nd9); (simp only [List.nodup_cons, List.mem_cons, List.not_mem_nil, not_or, or_false, not_false_eq_true, List.nodup_nil, and_true] at nd9); (repeat (cases ‹_ ∧ _›))))
local macro_rules | `(tactic| walk_at "subl") => `(tactic| (first | exact fun _ h => h | exact fun _ h => List.mem_append_right _ h | (refine sub_cons ?_; walk_at "subl")))
theorem off_map {l : List (Addr × Obj)} {a : Addr} (h : a ∉ l.map (·.1)) : ∀ p ∈ l, p.1 ≠ a := fun _ hp e => h (e ▸ List.mem_map_of_mem hp)
theorem nd_five {e ed q c cd : Addr} {r : List Addr} (nd : (e :: ed :: q :: c :: cd :: r).Nodup) : [e, ed, q, c, cd].Nodup := nd.sublist (List.take_sublist 5 (e :: ed :: q :: c :: cd :: r))
local macro_rules | `(tactic| k_all) => `(tactic| first | with_reducible assumption | exact off_map (by with_reducible assumption) | exact off_of (by with_reducible assumption) (by walk_at "subl"))
local macro_rules | `(tactic| k_lt $h:ident) => `(tactic| (have h9 := $h; replace $h := allLt_of $h; simp only [AllLt, and_true] at $h:ident))
local macro_rules | `(tactic| k_room) => `(tactic| ktr_room)
local macro_rules | `(tactic| k_ne) => `(tactic| first | with_reducible assumption | (with_reducible apply Ne.symm; with_reducible assumption))


def Hold (P : Prop) : Prop := P
theorem hold_of {P : Prop} (h : Hold P) : P := h
section
variable {prog : Program} {w : World} {A : Around} {E : Value → Shared → Prop} {s : Shared} {env : Env} {test : PySem.Expr} {body orelse : List Stmt} {Q : Flow → Shared → Prop}
theorem whl_one (h : WhlRest prog w A E env test body orelse Q 1 s) : WhlRest prog w A E env test body orelse Q 0 s := h
end
theorem m_form {m : Str → Option Value} {a b : Str} {x y : Value} (h1 : m a = some x) (h2 : m b = some y) : m = fun z => if z = a then some x else if z = b then some y else m z := by
  funext z
  by_cases e1 : z = a
  · subst e1; rw [if_pos rfl, h1]
  · rw [if_neg e1]
    by_cases e2 : z = b
    · subst e2; rw [if_pos rfl, h2]
    · rw [if_neg e2]
theorem fr_ex {h₀ h : Heap} {L : Addr} {m : Str → Option Value} {a b : Str} {x : Value} {i : Int} {t : Tok} (F : Fr h₀ L h m) (h1 : m a = some x) (h2 : m b = some (.int i t)) : ∃ (t : Tok) (m0 : Str → Option Value), Fr h₀ L h (fun z => if z = a then some x else if z = b then some (.int i t) else m0 z) := ⟨t, m, m_form h1 h2 ▸ F⟩
theorem seqIndex_zero {n : Nat} : seqIndex? 0 (n + 1) = some 0 := by
  unfold seqIndex?
  simp
  try omega
section
variable {prog : Program} {w : World} {A : Around} {E : Value → Shared → Prop} {s : Shared} {h₀ h : Heap} {L D : Addr} {m : Str → Option Value} {news news' : List (Addr × Obj)} {x : Value} {xs : List Value} {n : Nat} {Q : Value → Shared → Prop}
theorem pop0_K {u : Tok} (F : Fr h₀ L s.heap m) (N : News h₀ L s.heap news) (U : Upd D (listOf (x :: xs).toArray n) (listOf xs.toArray (n + 1)) news news') (hz : xs.length < 1000)
    (h : ∀ h', Fr h₀ L h' m → News h₀ L h' news' → Q x { s with heap := h' }) : wpAny (model prog w) A (call (.builtin "list.pop") [.ref D, .int 0 u]) Q E s :=
  kl_popAt (p := []) (q := xs) F N rfl (k := 0) (by rw [List.size_toArray, List.length_cons]; exact seqIndex_zero) rfl U (by rw [sizeLine_eq]; simp only [List.length_cons]; omega) h
theorem item0_K {t : Tok} (N : News h₀ L s.heap news) (hm : (D, listOf (x :: xs).toArray n) ∈ news) (h : Q x s) : wpAny (model prog w) A (getItem (.ref D) (.int 0 t)) Q E s :=
  wpAny_getItem_list (N.isList hm) (by omega) (by omega) (by simp) h
theorem len0_K (N : News h₀ L s.heap news) (hm : (D, listOf (x :: xs).toArray n) ∈ news) (hz : xs.length < 1000) (h : Q (.int ((xs.length : Int) + 1) (s.toks + 1)) { s with toks := s.toks + 1 + 1 }) : wpAny (model prog w) A (call (.builtin "len") [.ref D]) Q E s :=
  kun_lenL (N.isList hm) (by simp) (by omega) h
end
local macro_rules | `(tactic| walk_at "call builtin:len") => `(tactic| (k_here; (with_reducible show wpAny _ _ (call (Value.builtin "len") [Value.ref _]) _ _ _); k_dflt (refine' len0_K ?N ?m ?z ?_; (case N => k_asm); (case m => k_mem); (case z => walk_at "lenfact"); k_whole)))
local macro_rules | `(tactic| walk_at "call builtin:list.pop") => `(tactic| (k_here; (with_reducible show wpAny _ _ (call (Value.builtin _) [Value.ref _, Value.int 0 _]) _ _ _); k_dflt (refine' pop0_K ?F ?N ?U ?z ?_; (case F => k_asm); (case N => k_asm); (case U => k_upd); (case z => walk_at "lenfact"); k_whole); intro h' F' N'; (try dsimp only at N')))
local macro_rules | `(tactic| walk_at "getItem ref int") => `(tactic| (k_here; (with_reducible show wpAny _ _ (getItem (Value.ref _) (Value.int 0 _)) _ _ _); k_dflt (refine' item0_K ?N ?m ?_; (case N => k_asm); (case m => k_mem); k_whole)))
local macro_rules | `(tactic| walk_at "lenfact") => `(tactic| (simp only [List.length_map]; omega))
local macro_rules | `(tactic| walk_at "WhlRest") => `(tactic| (refine' hold_of ?_))
local macro_rules | `(tactic| walk_at "exec While Compare cons nil") => `(tactic| (k_here; refine whl_start 0 (hold_of ?_)))
local macro_rules | `(tactic| walk_at "schedtail") => `(tactic| ((case N => k_asm); (case e => k_mem); (case d => k_mem); (case U => k_updF); (case V => intro o9; k_updF); (case cd => k_mem); (case B => k_asm); (case F => k_asm); (case X => k_asm); (case T => k_asm); (case hk => first | exact rfl | with_reducible assumption); (case dp => ktr_room); (case un => ktr_units); (case nd => with_reducible assumption); (case TY => exact tups_sub (by with_reducible assumption) (by walk_at "subl")); (case hz => omega); (case D => with_reducible assumption); (case D1 => with_reducible assumption); (case H => with_reducible assumption); k_whole))
local macro_rules | `(tactic| walk_at "call ref") => `(tactic| (k_here; (with_reducible show wpAny _ _ (call (Value.ref 637) [Value.ref _, Value.ref _]) _ _ _); k_dflt (refine' sched_2 ?B ?F ?X ?T ?hk ?dp ?un ?N ?nd ?U ?V ?e ?d ?cd ?TY ?hz ?D ?D1 ?H ?_; walk_at "schedtail"; intro t9 zs9 x1 x2 x3 x4 h' tk' pm' hp' l1 F' N'; (try dsimp only at N'); k_lt l1)))
structure WE where
  e : Addr
  d : Addr
  cb : Addr
  pr : Addr
  amt : Int
  t1 : Tok
  t2 : Tok
  t3 : Tok
  t4 : Tok
  t5 : Tok
  u : Tok
/-- a waiting one's dict -/
abbrev WE.dict (w : World) (env tk : Addr) (x : WE) : Obj := dictOf [en w "amount" x.t1 (.int x.amt x.u), en w "env" x.t2 (.ref env), en w "callbacks" x.t3 (.ref x.cb), en w "resource" x.t4 (.ref tk), en w "proc" x.t5 (.ref x.pr)] 5
abbrev WE.done (w : World) (env tk : Addr) (x : WE) (t6 t7 : Tok) : Obj := dictOf [en w "amount" x.t1 (.int x.amt x.u), en w "env" x.t2 (.ref env), en w "callbacks" x.t3 (.ref x.cb), en w "resource" x.t4 (.ref tk), en w "proc" x.t5 (.ref x.pr), en w "_ok" t6 (.bool true), en w "_value" t7 .none] 7
def wl (w : World) (C : Addr) (env tk : Addr) : List WE → List (Addr × Obj)
  | [] => []
  | x :: r => (x.e, instObj C x.d) :: (x.d, x.dict w env tk) :: wl w C env tk r
abbrev tankO (w : World) (e pq gq : Addr) (room level : Int) (t1 t2 t3 t4 t5 u1 u2 : Tok) : Obj := dictOf [en w "_env" t1 (.ref e), en w "_capacity" t2 (.int room u1), en w "put_queue" t3 (.ref pq), en w "get_queue" t4 (.ref gq), en w "_level" t5 (.int level u2)] 5
abbrev wqO (W : List WE) (n : Nat) : Obj := { cls := .type "list", data := .seq (W.map fun x => Value.ref x.e).toArray n }


/-- what a trigger does to a row of waiting ones -/
inductive Srv (fits : Int → WE → Bool) (step : Int → WE → Int) (w : World) (env tn C : Addr) (now : Int) : List WE → Int → Int → Array QE → List (Addr × Obj) → List WE → List WE → Int → Int → Array QE → List (Addr × Obj) → Prop
  | nil {l k ys tl} : Srv fits step w env tn C now [] l k ys tl [] [] l k ys tl
  | stop {x W l k ys tl} : fits l x = false → Srv fits step w env tn C now (x :: W) l k ys tl [] (x :: W) l k ys tl
  | go {x W l k ys tl S R l' k' ys' tl' t a1 a2 a3 t6 t7} {zs : Array QE} : fits l x = true → zs.toList.Perm (ys.push ⟨t, now + 0, 1, k, a1, a2, a3, .ref x.e⟩).toList →
      Srv fits step w env tn C now W (step l x) (k + 1) zs ((t, tupo (now + 0) 1 k a1 a2 a3 (.ref x.e)) :: (x.e, instObj C x.d) :: (x.d, x.done w env tn t6 t7) :: tl) S R l' k' ys' tl' → Srv fits step w env tn C now (x :: W) l k ys tl (x :: S) R l' k' ys' tl'
abbrev fitsP (room : Int) (l : Int) (x : WE) : Bool := decide (x.amt ≤ room - l)
abbrev fitsG (l : Int) (x : WE) : Bool := decide (x.amt ≤ l)
abbrev stepP (l : Int) (x : WE) : Int := l + x.amt
abbrev stepG (l : Int) (x : WE) : Int := l - x.amt

theorem news_rot {h₀ h : Heap} {L : Addr} {A B C : List (Addr × Obj)} {t x y : Addr × Obj} (N : News h₀ L h (t :: (A ++ (x :: y :: (B ++ C))))) : News h₀ L h (A ++ (B ++ (t :: x :: y :: C))) := fun p hp => N p (by
  rcases List.mem_append.mp hp with hp | hp
  · exact .tail _ (List.mem_append_left _ hp)
  rcases List.mem_append.mp hp with hp | hp
  · exact .tail _ (List.mem_append_right _ (.tail _ (.tail _ (List.mem_append_left _ hp))))
  rcases List.mem_cons.mp hp with rfl | hp
  · exact .head _
  rcases List.mem_cons.mp hp with rfl | hp
  · exact .tail _ (List.mem_append_right _ (.head _))
  rcases List.mem_cons.mp hp with rfl | hp
  · exact .tail _ (List.mem_append_right _ (.tail _ (.head _)))
  exact .tail _ (List.mem_append_right _ (.tail _ (.tail _ (List.mem_append_right _ hp)))))
theorem nd_rot {A : List Addr} {B C : List (Addr × Obj)} {t x y : Addr × Obj} {kx ky : Addr} (ex : x.1 = kx) (ey : y.1 = ky) (nd : (A ++ (kx :: ky :: (B ++ C).map (·.1))).Nodup) (h : ∀ a ∈ A ++ (kx :: ky :: (B ++ C).map (·.1)), a < t.1) : (A ++ (B ++ (t :: x :: y :: C)).map (·.1)).Nodup := by
  subst ex ey
  have h1 : (A ++ (B ++ (t :: x :: y :: C)).map (·.1)).Perm (t.1 :: (A ++ (x.1 :: y.1 :: (B ++ C).map (·.1)))) := by
    rw [List.perm_iff_count]
    intro a
    simp only [List.map_append, List.map_cons, List.count_append, List.count_cons]
    omega
  rw [h1.nodup_iff, List.nodup_cons]
  exact ⟨fun hm => Nat.lt_irrefl _ (h _ hm), nd⟩
theorem lt_of_keys {l : List (Addr × Obj)} {t : Addr} {ks : List Addr} (h : ∀ p ∈ l, p.1 < t) (e : l.map (·.1) = ks) : ∀ a ∈ ks, a < t := by
  subst e
  intro a ha
  obtain ⟨p, hp, rfl⟩ := List.mem_map.mp ha
  exact h p hp
theorem tups_push {tl tl' : List (Addr × Obj)} {ys zs : Array QE} {x : QE} (T : TupsIn tl ys) (pm : zs.toList.Perm (ys.push x).toList) (hs : ∀ p ∈ tl, p ∈ tl') (hx : (x.a, x.obj) ∈ tl') : TupsIn tl' zs := fun y hy => by
  have h1 := pm.mem_iff.mp hy
  rw [Array.toList_push] at h1
  rcases List.mem_append.mp h1 with h1 | h1
  · exact hs _ (T y h1)
  · rw [List.mem_singleton.mp h1]; exact hx
theorem lt_push {ys zs : Array QE} {x : QE} {k : Int} (D : ∀ y ∈ ys.toList, y.e < k) (pm : zs.toList.Perm (ys.push x).toList) (hx : x.e = k) : ∀ y ∈ zs.toList, y.e < k + 1 := fun y hy => by
  have h1 := pm.mem_iff.mp hy
  rw [Array.toList_push] at h1
  rcases List.mem_append.mp h1 with h1 | h1
  · have := D y h1; omega
  · rw [List.mem_singleton.mp h1]; omega
theorem size_push {ys zs : Array QE} {x : QE} (pm : zs.toList.Perm (ys.push x).toList) : zs.size = ys.size + 1 := by
  have := pm.length_eq
  simpa using this

section
variable {prog : Program} {w : World} {p : Program} {loose : List Str} {mean : ExcName → Option Value} {mg mb : Str → Option Value} {hd : Option Value}
    {dp un : Nat} {gd : Option (List Code)} {cn : Str} {cs : Scope} {a : Addr} {ccd : Value} {cl : List (Str × Addr)} {outer : List Env} {A₀ : Around} {base h₀ : Heap} {L : Addr} {m : Str → Option Value} {s : Shared} {Q E : Value → Shared → Prop}

theorem trig_putC {Rr : Result → Shared → Prop} {e ed q c cd tn td pq gq : Addr} {now k room level : Int} {t1 t2 t3 t4 u1 u4 u5 r1 r2 r3 r4 r5 v1 v2 : Tok} {act v : Value} {ys : Array QE} {n pn : Nat} {fb : Bool} {tl : List (Addr × Obj)} {W : List WE}
    (B : Below A₀ base outer h₀) (F : Fr h₀ L s.heap m) (X : (Mine.kk.heap_1 w.params).In h₀) (T : Top p loose mean mg mb h₀) (hk : cs.kind = .function) (hdp : dp + 20 < recursionLimit) (hun : un + 100 < cLine)
    (N : News h₀ L s.heap ((e, instObj 662 ed) :: (ed, envO w t1 t2 t3 t4 u1 now q c act) :: (q, qobj ys n) :: (c, cntO cd fb k u4 u5) :: (cd, dictOf [] 0) :: (tn, instObj 929 td) :: (td, tankO w e pq gq room level r1 r2 r3 r4 r5 v1 v2) :: (pq, wqO W pn) :: (wl w 850 e tn W ++ tl)))
    (nd : ([e, ed, q, c, cd, tn, td, pq] ++ (wl w 850 e tn W ++ tl).map (·.1)).Nodup)
    (TY : TupsIn tl ys) (hz : ys.size + W.length < 1000) (D : ∀ x ∈ ys.toList, x.e < k) (D1 : Eids ys) (H : IsHp QE.lt ys)
    (ret : ∀ (S R : List WE) (l' k' : Int) (zs : Array QE) (tl' : List (Addr × Obj)) (n' pn' : Nat) (x4 x2 : Tok) h' tk', Srv (fitsP room) stepP w e tn 850 now W level k ys tl S R l' k' zs tl' →
      ([e, ed, q, c, cd, tn, td, pq] ++ (wl w 850 e tn R ++ tl').map (·.1)).Nodup → TupsIn tl' zs → (∀ x ∈ zs.toList, x.e < k') → Eids zs → IsHp QE.lt zs → Fr h₀ L h' m →
      News h₀ L h' ((e, instObj 662 ed) :: (ed, envO w t1 t2 t3 t4 u1 now q c act) :: (q, qobj zs n') :: (c, cntO cd fb k' x4 u5) :: (cd, dictOf [] 0) :: (tn, instObj 929 td) :: (td, tankO w e pq gq room l' r1 r2 r3 r4 r5 v1 x2) :: (pq, wqO R pn') :: (wl w 850 e tn R ++ tl')) → Rr (.ok (.ret .none)) { s with heap := h', toks := tk' }) :
    codeAny (model prog w) (kTop hd dp un gd cn cs L a ccd cl outer) (.call (.ref 810) ⟨[.ref tn, v], []⟩) Rr s := by
  refine Mine.go_of ?_
  simp (disch := k_dflt (
  k_dflt ktr_enter
  k_steps
  rename Fr _ _ _ _ => F5
  rename News _ _ _ _ => N5
  rename Heap => h5
  obtain ⟨ti, m0, F6⟩ := fr_ex (a := Str.ofString "self") (b := Str.ofString "idx") (x := .ref tn) (i := 0) F5 rfl rfl
  clear F5 N
  unfold Hold
  generalize tk + 1 + 1 = tk5
  induction W generalizing level k ys n pn u4 v2 tl h5 tk5 m0 ti with
  | nil =>
    refine' whl_turn (k := 0) ?hE ?_
    case hE => first | passes_own | with_unfolding_all passes_own
    dsimp only [wl, List.nil_append, wqO, List.map_nil] at N5
    k_steps
    exact ret [] [] level k ys tl n pn u4 v2 _ _ .nil nd TY D D1 H (by with_reducible assumption) (by assumption)
  | cons x W ih =>
    refine' whl_turn (k := 0) ?hE ?_
    case hE => first | passes_own | with_unfolding_all passes_own
    dsimp only [wl, List.cons_append, wqO, List.map_cons] at N5
    rw [List.length_cons] at hz
    have ndS := nd_five nd
    have nd' := nd
    simp only [wl, List.cons_append, List.nil_append, List.map_cons] at nd'
    walk_at "nd"
    k_steps
    refine WhlIf.yes (by rw [decide_eq_true_eq]; omega) ?_
    k_steps
    · unfold Hold
      rename List.Perm _ _ => pm9
      rename IsHp QE.lt _ => hp9
      rename Fr _ _ _ _ => F9
      rename News _ _ _ _ => N9
      rename (∀ p : Addr × Obj, p ∈ (_ : List (Addr × Obj)) → @LT.lt Nat _ p.1 _) => lt9
      obtain ⟨ti9, m9, F9'⟩ := fr_ex (a := Str.ofString "self") (b := Str.ofString "idx") (x := .ref tn) (i := 0) F9 rfl rfl
      refine ih (level := level + x.amt) (k := k + 1) (tl := (_, _) :: (x.e, instObj 850 x.d) :: (x.d, x.done w e tn _ _) :: tl) (N5 := news_rot (A := [_, _, _, _, _, _, _, _]) N9) (F6 := F9') (nd := nd_rot (kx := x.e) (ky := x.d) rfl rfl nd (lt_of_keys lt9 rfl)) (TY := tups_push TY pm9 (fun p hp => .tail _ (.tail _ (.tail _ hp))) (.head _)) (hz := ?_) (D := lt_push D pm9 rfl) (D1 := eids_perm (eids_push D D1 _ _ _ _ _ _ _) pm9) (H := hp9) (ret := ?_) (tk5 := _)
      · have := size_push pm9
        omega
      · intro S R l' k' zs tl' n' pn' x4 x2 h' tk' sv
        exact ret (x :: S) R l' k' zs tl' n' pn' x4 x2 h' tk' (.go (by simp only [decide_eq_true_eq]; omega) pm9 sv)
    · exact ret [] (x :: W) level k ys tl n pn u4 v2 _ _ (.stop (by simp only [decide_eq_false_iff_not]; omega)) nd TY D D1 H (by with_reducible assumption) (by assumption))) only [↓Mine.go_eq]
theorem trig_put {e ed q c cd tn td pq gq : Addr} {now k room level : Int} {t1 t2 t3 t4 u1 u4 u5 r1 r2 r3 r4 r5 v1 v2 : Tok} {act v : Value} {ys : Array QE} {n pn : Nat} {fb : Bool} {tl : List (Addr × Obj)} {W : List WE}
    (B : Below A₀ base outer h₀) (F : Fr h₀ L s.heap m) (X : (Mine.kk.heap_1 w.params).In h₀) (T : Top p loose mean mg mb h₀) (hk : cs.kind = .function) (hdp : dp + 20 < recursionLimit) (hun : un + 100 < cLine)
    (N : News h₀ L s.heap ((e, instObj 662 ed) :: (ed, envO w t1 t2 t3 t4 u1 now q c act) :: (q, qobj ys n) :: (c, cntO cd fb k u4 u5) :: (cd, dictOf [] 0) :: (tn, instObj 929 td) :: (td, tankO w e pq gq room level r1 r2 r3 r4 r5 v1 v2) :: (pq, wqO W pn) :: (wl w 850 e tn W ++ tl)))
    (nd : ([e, ed, q, c, cd, tn, td, pq] ++ (wl w 850 e tn W ++ tl).map (·.1)).Nodup)
    (TY : TupsIn tl ys) (hz : ys.size + W.length < 1000) (D : ∀ x ∈ ys.toList, x.e < k) (D1 : Eids ys) (H : IsHp QE.lt ys)
    (ret : ∀ (S R : List WE) (l' k' : Int) (zs : Array QE) (tl' : List (Addr × Obj)) (n' pn' : Nat) (x4 x2 : Tok) h' tk', Srv (fitsP room) stepP w e tn 850 now W level k ys tl S R l' k' zs tl' →
      ([e, ed, q, c, cd, tn, td, pq] ++ (wl w 850 e tn R ++ tl').map (·.1)).Nodup → TupsIn tl' zs → (∀ x ∈ zs.toList, x.e < k') → Eids zs → IsHp QE.lt zs → Fr h₀ L h' m →
      News h₀ L h' ((e, instObj 662 ed) :: (ed, envO w t1 t2 t3 t4 u1 now q c act) :: (q, qobj zs n') :: (c, cntO cd fb k' x4 u5) :: (cd, dictOf [] 0) :: (tn, instObj 929 td) :: (td, tankO w e pq gq room l' r1 r2 r3 r4 r5 v1 x2) :: (pq, wqO R pn') :: (wl w 850 e tn R ++ tl')) → Q .none { s with heap := h', toks := tk' }) :
    wpAny (model prog w) (kTop hd dp un gd cn cs L a ccd cl outer) (call (.ref 810) [.ref tn, v]) Q E s :=
  wpAny_call (trig_putC B F X T hk hdp hun N nd TY hz D D1 H ret)
theorem trig_getC {Rr : Result → Shared → Prop} {e ed q c cd tn td pq gq : Addr} {now k room level : Int} {t1 t2 t3 t4 u1 u4 u5 r1 r2 r3 r4 r5 v1 v2 : Tok} {act v : Value} {ys : Array QE} {n pn : Nat} {fb : Bool} {tl : List (Addr × Obj)} {W : List WE}
    (B : Below A₀ base outer h₀) (F : Fr h₀ L s.heap m) (X : (Mine.kk.heap_1 w.params).In h₀) (T : Top p loose mean mg mb h₀) (hk : cs.kind = .function) (hdp : dp + 20 < recursionLimit) (hun : un + 100 < cLine)
    (N : News h₀ L s.heap ((e, instObj 662 ed) :: (ed, envO w t1 t2 t3 t4 u1 now q c act) :: (q, qobj ys n) :: (c, cntO cd fb k u4 u5) :: (cd, dictOf [] 0) :: (tn, instObj 929 td) :: (td, tankO w e pq gq room level r1 r2 r3 r4 r5 v1 v2) :: (gq, wqO W pn) :: (wl w 871 e tn W ++ tl)))
    (nd : ([e, ed, q, c, cd, tn, td, gq] ++ (wl w 871 e tn W ++ tl).map (·.1)).Nodup)
    (TY : TupsIn tl ys) (hz : ys.size + W.length < 1000) (D : ∀ x ∈ ys.toList, x.e < k) (D1 : Eids ys) (H : IsHp QE.lt ys)
    (ret : ∀ (S R : List WE) (l' k' : Int) (zs : Array QE) (tl' : List (Addr × Obj)) (n' pn' : Nat) (x4 x2 : Tok) h' tk', Srv fitsG stepG w e tn 871 now W level k ys tl S R l' k' zs tl' →
      ([e, ed, q, c, cd, tn, td, gq] ++ (wl w 871 e tn R ++ tl').map (·.1)).Nodup → TupsIn tl' zs → (∀ x ∈ zs.toList, x.e < k') → Eids zs → IsHp QE.lt zs → Fr h₀ L h' m →
      News h₀ L h' ((e, instObj 662 ed) :: (ed, envO w t1 t2 t3 t4 u1 now q c act) :: (q, qobj zs n') :: (c, cntO cd fb k' x4 u5) :: (cd, dictOf [] 0) :: (tn, instObj 929 td) :: (td, tankO w e pq gq room l' r1 r2 r3 r4 r5 v1 x2) :: (gq, wqO R pn') :: (wl w 871 e tn R ++ tl')) → Rr (.ok (.ret .none)) { s with heap := h', toks := tk' }) :
    codeAny (model prog w) (kTop hd dp un gd cn cs L a ccd cl outer) (.call (.ref 824) ⟨[.ref tn, v], []⟩) Rr s := by
  refine Mine.go_of ?_
  simp (disch := k_dflt (
  k_dflt ktr_enter
  k_steps
  rename Fr _ _ _ _ => F5
  rename News _ _ _ _ => N5
  rename Heap => h5
  obtain ⟨ti, m0, F6⟩ := fr_ex (a := Str.ofString "self") (b := Str.ofString "idx") (x := .ref tn) (i := 0) F5 rfl rfl
  clear F5 N
  unfold Hold
  generalize tk + 1 + 1 = tk5
  induction W generalizing level k ys n pn u4 v2 tl h5 tk5 m0 ti with
  | nil =>
    refine' whl_turn (k := 0) ?hE ?_
    case hE => first | passes_own | with_unfolding_all passes_own
    dsimp only [wl, List.nil_append, wqO, List.map_nil] at N5
    k_steps
    exact ret [] [] level k ys tl n pn u4 v2 _ _ .nil nd TY D D1 H (by with_reducible assumption) (by assumption)
  | cons x W ih =>
    refine' whl_turn (k := 0) ?hE ?_
    case hE => first | passes_own | with_unfolding_all passes_own
    dsimp only [wl, List.cons_append, wqO, List.map_cons] at N5
    rw [List.length_cons] at hz
    have ndS := nd_five nd
    have nd' := nd
    simp only [wl, List.cons_append, List.nil_append, List.map_cons] at nd'
    walk_at "nd"
    k_steps
    refine WhlIf.yes (by rw [decide_eq_true_eq]; omega) ?_
    k_steps
    · unfold Hold
      rename List.Perm _ _ => pm9
      rename IsHp QE.lt _ => hp9
      rename Fr _ _ _ _ => F9
      rename News _ _ _ _ => N9
      rename (∀ p : Addr × Obj, p ∈ (_ : List (Addr × Obj)) → @LT.lt Nat _ p.1 _) => lt9
      obtain ⟨ti9, m9, F9'⟩ := fr_ex (a := Str.ofString "self") (b := Str.ofString "idx") (x := .ref tn) (i := 0) F9 rfl rfl
      refine ih (level := level - x.amt) (k := k + 1) (tl := (_, _) :: (x.e, instObj 871 x.d) :: (x.d, x.done w e tn _ _) :: tl) (N5 := news_rot (A := [_, _, _, _, _, _, _, _]) N9) (F6 := F9') (nd := nd_rot (kx := x.e) (ky := x.d) rfl rfl nd (lt_of_keys lt9 rfl)) (TY := tups_push TY pm9 (fun p hp => .tail _ (.tail _ (.tail _ hp))) (.head _)) (hz := ?_) (D := lt_push D pm9 rfl) (D1 := eids_perm (eids_push D D1 _ _ _ _ _ _ _) pm9) (H := hp9) (ret := ?_) (tk5 := _)
      · have := size_push pm9
        omega
      · intro S R l' k' zs tl' n' pn' x4 x2 h' tk' sv
        exact ret (x :: S) R l' k' zs tl' n' pn' x4 x2 h' tk' (.go (by simp only [decide_eq_true_eq]; omega) pm9 sv)
    · exact ret [] (x :: W) level k ys tl n pn u4 v2 _ _ (.stop (by simp only [decide_eq_false_iff_not]; omega)) nd TY D D1 H (by with_reducible assumption) (by assumption))) only [↓Mine.go_eq]
theorem trig_get {e ed q c cd tn td pq gq : Addr} {now k room level : Int} {t1 t2 t3 t4 u1 u4 u5 r1 r2 r3 r4 r5 v1 v2 : Tok} {act v : Value} {ys : Array QE} {n pn : Nat} {fb : Bool} {tl : List (Addr × Obj)} {W : List WE}
    (B : Below A₀ base outer h₀) (F : Fr h₀ L s.heap m) (X : (Mine.kk.heap_1 w.params).In h₀) (T : Top p loose mean mg mb h₀) (hk : cs.kind = .function) (hdp : dp + 20 < recursionLimit) (hun : un + 100 < cLine)
    (N : News h₀ L s.heap ((e, instObj 662 ed) :: (ed, envO w t1 t2 t3 t4 u1 now q c act) :: (q, qobj ys n) :: (c, cntO cd fb k u4 u5) :: (cd, dictOf [] 0) :: (tn, instObj 929 td) :: (td, tankO w e pq gq room level r1 r2 r3 r4 r5 v1 v2) :: (gq, wqO W pn) :: (wl w 871 e tn W ++ tl)))
    (nd : ([e, ed, q, c, cd, tn, td, gq] ++ (wl w 871 e tn W ++ tl).map (·.1)).Nodup)
    (TY : TupsIn tl ys) (hz : ys.size + W.length < 1000) (D : ∀ x ∈ ys.toList, x.e < k) (D1 : Eids ys) (H : IsHp QE.lt ys)
    (ret : ∀ (S R : List WE) (l' k' : Int) (zs : Array QE) (tl' : List (Addr × Obj)) (n' pn' : Nat) (x4 x2 : Tok) h' tk', Srv fitsG stepG w e tn 871 now W level k ys tl S R l' k' zs tl' →
      ([e, ed, q, c, cd, tn, td, gq] ++ (wl w 871 e tn R ++ tl').map (·.1)).Nodup → TupsIn tl' zs → (∀ x ∈ zs.toList, x.e < k') → Eids zs → IsHp QE.lt zs → Fr h₀ L h' m →
      News h₀ L h' ((e, instObj 662 ed) :: (ed, envO w t1 t2 t3 t4 u1 now q c act) :: (q, qobj zs n') :: (c, cntO cd fb k' x4 u5) :: (cd, dictOf [] 0) :: (tn, instObj 929 td) :: (td, tankO w e pq gq room l' r1 r2 r3 r4 r5 v1 x2) :: (gq, wqO R pn') :: (wl w 871 e tn R ++ tl')) → Q .none { s with heap := h', toks := tk' }) :
    wpAny (model prog w) (kTop hd dp un gd cn cs L a ccd cl outer) (call (.ref 824) [.ref tn, v]) Q E s :=
  wpAny_call (trig_getC B F X T hk hdp hun N nd TY hz D D1 H ret)
end
end Mine
end

section
-- part H1
open PySem PySem.W PyProof.Rows PySem.Spec in
theorem Mine.turn_H1 {p : Program} {w : World} {A : Around} {en : Env} {Q : Flow → Shared → Prop} {E : Value → Shared → Prop} {s : Shared} (h : Q .next s) : wpAny (model p w) A (execs [] en) Q E s := by
  w_top off
  walk1
  exact h
open PySem PySem.W PyProof.Rows PySem.Calls Builtin Builtin.ObjectAttr
namespace Mine
section
variable {prog : Program} {w : World} {A : Around} {E : Value → Shared → Prop} {s : Shared} {K : Frag} {x C f L : Addr} {ox : Obj} {od : Obj} {name : Str} {expr : Bool} {h₀ : Heap} {m : Str → Option Value} {news : List (Addr × Obj)} {es : List DictEntry} {n : Nat} {Q : Value → Shared → Prop} {t : Tok}
theorem by_open (X : K.In s.heap) (I : InstAt s.heap x ox C (some od)) (hga : findIn K (.ref C) "__getattribute__" = some (some (.builtin "object.__getattribute__")))
    (h : wpAny (model prog w) A.in1 (Builtin.«proto.getattr_hooked» ⟨[.ref x, .str name t], []⟩)
      (fun fin s' => match fin with | .done (.ret v) => wpAny (model prog w) A (handedOut v) Q E s' | _ => False) (fun e s' => wpAny (model prog w) A (noteIf false (.ref x) (.str name t) e) (fun _ s'' => E e s'') E s') s) :
    wpAny (model prog w) A (getAttrBy (.ref x) (.str name t) false expr) Q E s := by
  obtain ⟨hh, g, d, tk, os⟩ := s
  have L0 := I.type (M := model prog w)
  have L1 := looks_findIn (M := model prog w) X hga
  unfold getAttrBy
  refine wpAny_holding (wpAny_bind (L0.at (wpAny_bind (L1.at ?_))))
  show wpAny _ _ (getAttrEveryday _ _ _) _ _ _
  refine wpAny_bind (wpAny_onRaise (wpAny_runValue (codeAny_builtin F.plainObj_entry_getattr_hooked (wpAny_mono h (fun fin s' z => ?_) fun _ _ z => z))))
  rcases fin with (_ | _ | _ | _) | _ <;> first | exact z | exact z.elim
theorem by_bind {g a : Value} (X : K.In s.heap) (I : InstAt s.heap x ox C (some od)) (hga : findIn K (.ref C) "__getattribute__" = some (some (.builtin "object.__getattribute__")))
    (hf : findObj K C (some od) name = some (.bind g a)) (hk : findIn K (.ref C) "__getattr__" = some none)
    (h : wpAny (model prog w) A.in1 (call g [a, .ref x, .ref C]) (fun v s' => wpAny (model prog w) A (handedOut v) Q E s') (fun e s' => wpAny (model prog w) A (noteIf false (.ref x) (.str name t) e) (fun _ s'' => E e s'') E s') s) :
    wpAny (model prog w) A (getAttrBy (.ref x) (.str name t) false expr) Q E s := by
  refine by_open X I hga ?_
  obtain ⟨hh', gg, d, tk, os⟩ := s
  have L0 := I.type (M := model prog w)
  have L1 := looks_find (M := model prog w) X I hf
  have L2 := looks_findIn (M := model prog w) X hk
  refine wpAny_bind (wpAny_pure (wpAny_bind (L0.at (wpAny_bind (L1.at (wpAny_bind (L2.at ?_)))))))
  show wpAny _ _ (holding [a] (call g [a, .ref x, .ref C]) >>= ret) _ _ _
  exact wpAny_bind (wpAny_holding (wpAny_mono h (fun v s' z => wpAny_pure z) fun _ _ z => z))
theorem by_bound (F : Fr h₀ L s.heap m) (X₀ : K.In h₀) (N : News h₀ L s.heap news) (I : InstAt s.heap x ox C (some (dictOf es n))) (hg : plainGet K C name = true) (hh : hasDictIn K C = true) (ha : findIn K (.ref C) name = some (some (.ref f))) (hf : isFn K (.ref f) = true)
    (hgf : specialIn K (.ref f) "__get__" = some (some (.builtin "function.__get__"))) (ht : takesIn K (.ref f) = some false) (hc : copiedNames.contains name = false) (hl : getL name es = some none)
    (h : ∀ q h', Fr h₀ L h' m → News h₀ L h' ((q, methodObj (.ref f) (.ref x)) :: news) → (∀ p ∈ news, p.1 < q) → Q (.ref q) { s with heap := h' }) : wpAny (model prog w) A (getAttrBy (.ref x) (.str name t) false expr) Q E s :=
  by_bind (X₀.keeps F.keep) I (plainGet_of hg).1 (findObj_fn hh ha hgf ht hc (by show lookIn name (dictOf es n) = _; rw [lookIn_dict, hl])) (plainGet_of hg).2
    (wpAny_call (fn_get (X₀.keeps F.keep) (beq_iff_eq.mp hf) (handed_on rfl (h s.heap.objs.size _ (F.push _) (N.push F _) fun p hp => Heap.lt_size (N p hp).1))))
theorem kind_hasattr : builtinKind "hasattr" = none := by decide +kernel
theorem plain_hasattr : plainId "hasattr" = true := by decide +kernel
theorem entry_hasattr : entryFor table "hasattr" = some Builtin.«hasattr» := entryFor_of_tree (by kernel_rfl)
theorem args_hasattr (a b : Value) : argsOk "hasattr" ⟨[a, b], []⟩ := by unfold argsOk; kernel_rfl
theorem hasattr_K (F : Fr h₀ L s.heap m) (X₀ : K.In h₀) (N : News h₀ L s.heap news) (I : InstAt s.heap x ox C (some (dictOf es n))) (hmod : subIn K (.ref C) (.type "module") = some false) (hg : plainGet K C name = true) (hh : hasDictIn K C = true) (ha : findIn K (.ref C) name = some (some (.ref f))) (hf : isFn K (.ref f) = true)
    (hgf : specialIn K (.ref f) "__get__" = some (some (.builtin "function.__get__"))) (ht : takesIn K (.ref f) = some false) (hc : copiedNames.contains name = false) (hl : getL name es = some none)
    (h : ∀ q h', Fr h₀ L h' m → News h₀ L h' ((q, methodObj (.ref f) (.ref x)) :: news) → (∀ p ∈ news, p.1 < q) → Q (.bool true) { s with heap := h' }) : wpAny (model prog w) A (call (.builtin "hasattr") [.ref x, .str name t]) Q E s := by
  have X₀' : K.In s.heap := X₀.keeps F.keep
  refine Calls.call_function_entry kind_hasattr plain_hasattr entry_hasattr (args_hasattr _ _) ?_
  unfold Builtin.«hasattr»
  refine wpAny_bind (wpAny_of_eq (a := [Value.ref x, .str name t]) (by first | rfl | kernel_rfl) ?_)
  dsimp only
  refine wpAny_bind (wpAny_of_eq (a := ()) (by first | rfl | kernel_rfl) ?_)
  refine wpAny_ite_split (fun hab => absurd hab (by simp)) (fun _ => ?_)
  refine wpAny_bind (I.type.here ?_)
  dsimp only
  refine wpAny_bind ?_
  refine wpAny_bind (m := asStr? (.str name t)) (wpAny_of_eq (a := some name) (by first | rfl | kernel_rfl) ?_)
  dsimp only
  refine wpAny_bind (wpAny_bind (I.type.here ((looks_subIn X₀' hmod).here ?_)))
  refine wpAny_ite_split (fun _ => ?_) (fun hab => absurd rfl hab)
  refine wpAny_pure ?_
  refine wpAny_ite_split (fun hab => absurd hab (by decide)) (fun _ => ?_)
  refine wpAny_bind (wpAny_bind (wpAny_attempt (by_bound F X₀ N I hg hh ha hf hgf ht hc hl fun q h' F' N' l => ?_)))
  refine wpAny_pure ?_
  refine wpAny_ite_split (fun hab => absurd hab (by simp)) (fun _ => ?_)
  exact wpAny_pure ⟨_, rfl, h q h' F' N' l⟩
theorem units_under_make (A : Around) (C : Addr) (vals : List Value) : (A.under (.builtin "type.__call__" ⟨.ref C :: vals, []⟩)).units = A.units + 1 := rfl
end
end Mine
end

section
-- part E0
open PySem PySem.W PyProof.Rows PySem.Spec in
theorem Mine.turn_E0 {p : Program} {w : World} {A : Around} {en : Env} {Q : Flow → Shared → Prop} {E : Value → Shared → Prop} {s : Shared} (h : Q .next s) : wpAny (model p w) A (execs [] en) Q E s := by
  w_top off
  walk1
  exact h
open PySem PySem.W PyProof.Rows PySem.Calls
namespace Mine
theorem fillE : PySem.Challenge.rw_bp0023_01 = PySem.Challenge.rw_bp0023_01 ∧ Mine.kk.heap_1 = Mine.kk.heap_1 := by
  k_fill
  exact ⟨rfl, rfl⟩
def bodyOf {P : Params} {o : Obj} {fd : FuncData} {bd : List Stmt} (_ : (Mine.kk.heap_1 P).lookup 980 = some o) (_ : o.data = .func fd) (_ : fd.body = .stmts bd) : List Stmt := bd
def oneB (P : Params) : List Stmt := by
  refine' bodyOf (P := P) ?h ?g ?k
  case h => k_is
  case g => exact rfl
  case k => exact rfl
def parmsOf {l : List Stmt} {a : Stmt} {r : List Stmt} {n : Str} {params : Arguments} {body : List Stmt} {x1 x2 x3} {scope : Scope} {x4 x5 x6} (_ : l = a :: Stmt.FunctionDef n params body x1 x2 x3 scope x4 x5 x6 :: r) : Arguments × List Stmt × Scope := (params, body, scope)
def deedX (P : Params) : Arguments × List Stmt × Scope := parmsOf (l := oneB P) rfl
abbrev deedP (P : Params) : Arguments := (deedX P).1
abbrev deedB (P : Params) : List Stmt := (deedX P).2.1
abbrev deedS (P : Params) : Scope := (deedX P).2.2
/-- the nested def of _law_one, made -/
abbrev deedO (P : Params) (told tank state puts number env comes asked amount : Addr) (dc nm : Value) (c' : Addr) (ct : Value) : Obj :=
  fnMade "deed" "_law_one.<locals>.deed" (deedP P) (deedB P) (deedS P) [(Str.ofString "told", told), (Str.ofString "tank", tank), (Str.ofString "state", state), (Str.ofString "puts", puts), (Str.ofString "number", number), (Str.ofString "env", env), (Str.ofString "comes", comes), (Str.ofString "asked", asked), (Str.ofString "amount", amount)] dc nm c' ct
end Mine
end

section
-- part E2
open PySem PySem.W PyProof.Rows PySem.Spec in
theorem Mine.turn_E2 {p : Program} {w : World} {A : Around} {en : Env} {Q : Flow → Shared → Prop} {E : Value → Shared → Prop} {s : Shared} (h : Q .next s) : wpAny (model p w) A (execs [] en) Q E s := by
  w_top off
  walk1
  exact h
open PySem PySem.W PyProof.Rows PySem.Calls
namespace Mine

theorem lt_up {l : List (Addr × Obj)} {d : Addr} (h : ∀ p ∈ l, p.1 < d) : ∀ p ∈ l, p.1 < d + 1 := fun p hp => Nat.lt_succ_of_lt (h p hp)
theorem ltOf {l : List (Addr × Obj)} {a d : Addr} {o : Obj} (h : ∀ p ∈ l, p.1 < d) (hm : (a, o) ∈ l) : a < d := h _ hm
theorem ne_lt {l : List (Addr × Obj)} {a d : Addr} {o : Obj} (h : ∀ p ∈ l, p.1 < d) (hm : (a, o) ∈ l) : a ≠ d := Nat.ne_of_lt (h _ hm)
theorem ne_gt {l : List (Addr × Obj)} {a d : Addr} {o : Obj} (h : ∀ p ∈ l, p.1 < d) (hm : (a, o) ∈ l) : d ≠ a := Nat.ne_of_gt (h _ hm)
theorem lt_through {l : List (Addr × Obj)} {d x : Addr} (h : ∀ p ∈ l, p.1 < d) (h2 : @LT.lt Nat _ d x) : ∀ p ∈ l, p.1 < x := fun p hp => Nat.lt_trans (h p hp) h2
theorem kc_nine {cm : Str → Option Value} {n1 n2 n3 n4 n5 n6 n7 n8 n9 : Str} {c1 c2 c3 c4 c5 c6 c7 c8 c9 : Addr} {cells : List (Addr × Obj)} (x : CellsAre cm [(n1, c1), (n2, c2), (n3, c3), (n4, c4), (n5, c5), (n6, c6), (n7, c7), (n8, c8), (n9, c9)] cells) :
    ∃ o1 o2 o3 o4 o5 o6 o7 o8 o9, cells = [(c1, o1), (c2, o2), (c3, o3), (c4, o4), (c5, o5), (c6, o6), (c7, o7), (c8, o8), (c9, o9)] ∧ o1.data = .cell (cm n1) ∧ o2.data = .cell (cm n2) ∧ o3.data = .cell (cm n3) ∧ o4.data = .cell (cm n4) ∧ o5.data = .cell (cm n5) ∧ o6.data = .cell (cm n6) ∧ o7.data = .cell (cm n7) ∧ o8.data = .cell (cm n8) ∧ o9.data = .cell (cm n9) := by
  cases x with | cons h r => obtain ⟨o2, o3, o4, o5, o6, o7, o8, o9, rfl, h2, h3, h4, h5, h6, h7, h8, h9⟩ := kc_eight r; exact ⟨_, o2, o3, o4, o5, o6, o7, o8, o9, rfl, h, h2, h3, h4, h5, h6, h7, h8, h9⟩

section
variable {prog : Program} {w : World} {A : Around} {E : Value → Shared → Prop} {s : Shared} {h₀ : Heap} {L : Addr} {m : Str → Option Value} {news : List (Addr × Obj)} {g : Obj → List (Addr × Obj)}
theorem pop_K {Q : Value → Shared → Prop} {q : Addr} {n : Nat} {ys : Array QE} {x : QE} (hx : ys[0]? = some x) (F : Fr h₀ L s.heap m) (N : News h₀ L s.heap news) (U : UpdF q (qobj ys n) news g) (T : TupsIn news ys)
    (hz : ys.size < 1000) (D : Eids ys) (H : IsHp QE.lt ys) (hu : A.units + 2 < cLine)
    (h : ∀ zs h', (x :: zs.toList).Perm ys.toList → IsHp QE.lt zs → Fr h₀ L h' m → News h₀ L h' (g (qobj zs (n + 1))) → Q (.ref x.a) { s with heap := h' }) :
    wpAny (model prog w) A (call (.builtin "_heapq.heappop") [.ref q]) Q E s := by
  obtain ⟨pre, post, hl, hg, a, b⟩ := U.split
  have hm := N (q, qobj ys n) (by rw [hl]; exact List.mem_append_right _ (.head _))
  have h0 : 0 < ys.size := by
    rcases Nat.eq_zero_or_pos ys.size with h | h
    · rw [Array.getElem?_eq_none (by omega)] at hx; cases hx
    · exact h
  have e0 : ys[0]! = x := by
    rw [Array.getElem!_eq_getD, Array.getD_eq_getD_getElem?, hx]; rfl
  refine pop_call h0 (Nat.le_of_lt hz) D H hm.1 (fun y hy => (N _ (T y hy)).1) hu fun zs h' p1 p2 p3 p4 => ?_
  rw [e0] at p1 ⊢
  refine h zs h' p1 p2 (F.change p4 hm.2.1 hm.2.2) ?_
  rw [hg]
  exact (show News h₀ L s.heap (pre ++ (q, qobj ys n) :: post) from hl ▸ N).setIn a b p4 p3
end
inductive Skip (ks : List Addr) : List (Addr × Obj) → List (Addr × Obj) → Prop
  | tail {l : List (Addr × Obj)} : (∀ k ∈ ks, ∀ p ∈ l, p.1 ≠ k) → Skip ks l l
  | drop {p : Addr × Obj} {l l' : List (Addr × Obj)} : Skip ks l l' → Skip ks (p :: l) l'
  | keep {p : Addr × Obj} {l l' : List (Addr × Obj)} : (∀ k ∈ ks, p.1 ≠ k) → Skip ks l l' → Skip ks (p :: l) (p :: l')
theorem Skip.sub {ks : List Addr} {l l' : List (Addr × Obj)} (h : Skip ks l l') : ∀ p ∈ l', p ∈ l := by
  induction h with
  | tail _ => exact fun _ h => h
  | drop _ ih => exact fun p hp => .tail _ (ih p hp)
  | keep _ _ ih =>
    intro p hp
    rcases List.mem_cons.mp hp with rfl | hp
    · exact .head _
    · exact .tail _ (ih p hp)
theorem Skip.off {ks : List Addr} {l l' : List (Addr × Obj)} (h : Skip ks l l') : ∀ p ∈ l', ∀ k ∈ ks, p.1 ≠ k := by
  induction h with
  | tail h => exact fun p hp k hk => h k hk p hp
  | drop _ ih => exact ih
  | keep h _ ih =>
    intro p hp
    rcases List.mem_cons.mp hp with rfl | hp
    · exact h
    · exact ih p hp
theorem unrEnd {h₀ : Heap} {L : Addr} {its : List (Addr × Obj)} {rest : (Str → Option Value) → List (Addr × Obj) → Prop} {s₁ : Shared} {h' : Heap} {tk : Nat} {m' : Str → Option Value} {all news' : List (Addr × Obj)} (F : Fr h₀ L h' m') (N : News h₀ L h' all)
    (hI : ∀ p ∈ its, p ∈ all) (S : Skip (its.map (·.1)) all news') (r : rest m' news') : UnrEndW h₀ L s₁ its rest { s₁ with heap := h', toks := tk } :=
  ⟨h', tk, m', news', rfl, F, fun p hp => by
    rcases List.mem_append.mp hp with hp | hp
    · exact N p (hI p hp)
    · exact N p (S.sub p hp), fun p hp q hq => S.off p hp q.1 (List.mem_map_of_mem hq), r⟩

theorem tups_two {l tl : List (Addr × Obj)} {x : Addr × Obj} {ys : Array QE} (T : TupsIn (x :: tl) ys) (hx : x ∈ l) (hs : ∀ p ∈ tl, p ∈ l) : TupsIn l ys := fun y hy => by
  rcases List.mem_cons.mp (T y hy) with h | h
  · rw [h]; exact hx
  · exact hs _ h
theorem tups_pop {tl : List (Addr × Obj)} {r : Addr × Obj} {x : QE} {ys zs : Array QE} (T : TupsIn (r :: tl) ys) (pm : (x :: zs.toList).Perm ys.toList) (D1 : Eids ys) (hr : r = (x.a, x.obj)) : TupsIn tl zs := fun y hy => by
  have hd : ((x :: zs.toList).map QE.e).Nodup := ((pm.map QE.e).nodup_iff).mpr D1
  rcases List.mem_cons.mp (T y (pm.mem_iff.mp (.tail _ hy))) with h | h
  · rw [hr] at h
    have h2 := congrArg Prod.snd h
    dsimp only [QE.obj] at h2
    injection h2 with _ _ h3 _
    injection h3 with h4 _
    have h5 := congrArg Array.toList h4
    simp only [List.cons.injEq, Value.int.injEq] at h5
    have h6 : y.e = x.e := h5.2.2.1.1
    rw [List.map_cons, List.nodup_cons] at hd
    exact absurd (List.mem_map_of_mem hy) (h6 ▸ hd.1)
  · exact h
theorem lt_pop {x : QE} {ys zs : Array QE} {k : Int} (D : ∀ y ∈ ys.toList, y.e < k) (pm : (x :: zs.toList).Perm ys.toList) : ∀ y ∈ zs.toList, y.e < k := fun y hy => D y (pm.mem_iff.mp (.tail _ hy))
theorem eids_pop {x : QE} {ys zs : Array QE} (D1 : Eids ys) (pm : (x :: zs.toList).Perm ys.toList) : Eids zs := by
  have hd : ((x :: zs.toList).map QE.e).Nodup := ((pm.map QE.e).nodup_iff).mpr D1
  rw [List.map_cons, List.nodup_cons] at hd
  exact hd.2
theorem size_pop {x : QE} {ys zs : Array QE} (pm : (x :: zs.toList).Perm ys.toList) : zs.size + 1 = ys.size := by
  have := pm.length_eq
  simpa using this
theorem notin_map {l : List (Addr × Obj)} {a : Addr} (h : ∀ p ∈ l, p.1 ≠ a) : a ∉ l.map (·.1) := fun hm => by
  obtain ⟨p, hp, e⟩ := List.mem_map.mp hm
  exact h p hp e
theorem news_rows {h₀ h : Heap} {L : Addr} {l l' : List (Addr × Obj)} (N : News h₀ L h l) (hs : ∀ p ∈ l', p ∈ l) : News h₀ L h l' := fun p hp => N p (hs p hp)
abbrev listO (vs : Array Value) (n : Nat) : Obj := { cls := .type "list", data := .seq vs n }
/-- a process's dict: waiting for an event; over -/
abbrev prcO (w : World) (t1 t2 t3 t4 : Tok) (e cb st tg : Addr) : Obj := dictOf [en w "env" t1 (.ref e), en w "callbacks" t2 (.ref cb), en w "_generator" t3 (.ref st), en w "_target" t4 (.ref tg)] 4
abbrev endO (w : World) (t1 t2 t3 t4 t5 t6 : Tok) (e cb st : Addr) : Obj := dictOf [en w "env" t1 (.ref e), en w "callbacks" t2 (.ref cb), en w "_generator" t3 (.ref st), en w "_target" t4 .none, en w "_ok" t5 (.bool true), en w "_value" t6 .none] 6
abbrev iniO (w : World) (t1 t2 t3 t4 : Tok) (e cb : Addr) : Obj := dictOf [en w "env" t1 (.ref e), en w "callbacks" t2 (.ref cb), en w "_value" t3 .none, en w "_ok" t4 (.bool true)] 4
abbrev tmoO (w : World) (t1 t2 t3 t4 t5 u : Tok) (e cb : Addr) (d : Int) : Obj := dictOf [en w "env" t1 (.ref e), en w "callbacks" t2 (.ref cb), en w "_value" t3 .none, en w "_delay" t4 (.int d u), en w "_ok" t5 (.bool true)] 5
abbrev untO (w : World) (t1 t2 t3 t4 : Tok) (e cb : Addr) : Obj := dictOf [en w "env" t1 (.ref e), en w "callbacks" t2 (.ref cb), en w "_ok" t3 (.bool true), en w "_value" t4 .none] 4
abbrev stpO (w : World) (t : Tok) (f : Addr) : Obj := dictOf [en w "deed" t (.ref f)] 1
end Mine
end

section
-- part P1
open PySem PySem.W PyProof.Rows PySem.Spec in
theorem Mine.turn_P1 {p : Program} {w : World} {A : Around} {en : Env} {Q : Flow → Shared → Prop} {E : Value → Shared → Prop} {s : Shared} (h : Q .next s) : wpAny (model p w) A (execs [] en) Q E s := by
  w_top off
  walk1
  exact h
open PySem PySem.W PyProof.Rows PySem.Calls
namespace Mine

local macro_rules | `(tactic| walk_at "nd") => `(tactic| ((with_reducible rename List.Nodup _ => nd9); (simp only [List.nodup_cons, List.mem_cons, List.not_mem_nil, not_or, or_false, not_false_eq_true, List.nodup_nil, and_true] at nd9); (repeat (cases ‹_ ∧ _›))))
local macro_rules | `(tactic| walk_at "subl") => `(tactic| (first | exact fun _ h => h | exact fun _ h => List.mem_append_right _ h | (refine sub_cons ?_; walk_at "subl")))
local macro_rules | `(tactic| k_room) => `(tactic| ktr_room)
local macro_rules | `(tactic| walk_at "call builtin:len") => `(tactic| (k_here; (with_reducible show wpAny _ _ (call (Value.builtin "len") [Value.ref _]) _ _ _); k_dflt (refine' len0_K ?N ?m ?z ?_; (case N => k_asm); (case m => k_mem); (case z => walk_at "lenfact"); k_whole)))
local macro_rules | `(tactic| walk_at "call builtin:list.pop") => `(tactic| (k_here; (with_reducible show wpAny _ _ (call (Value.builtin _) [Value.ref _, Value.int 0 _]) _ _ _); k_dflt (refine' pop0_K ?F ?N ?U ?z ?_; (case F => k_asm); (case N => k_asm); (case U => k_upd); (case z => walk_at "lenfact"); k_whole); intro h' F' N'; (try dsimp only at N')))
local macro_rules | `(tactic| walk_at "getItem ref int") => `(tactic| (k_here; (with_reducible show wpAny _ _ (getItem (Value.ref _) (Value.int 0 _)) _ _ _); k_dflt (refine' item0_K ?N ?m ?_; (case N => k_asm); (case m => k_mem); k_whole)))
local macro_rules | `(tactic| walk_at "lenfact") => `(tactic| (simp only [List.length_map]; omega))
local macro_rules | `(tactic| walk_at "WhlRest") => `(tactic| ((with_reducible show WhlRest _ _ _ _ _ _ _ _ _ 0 _); refine' hold_of ?_))
local macro_rules | `(tactic| walk_at "exec While Constant cons nil") => `(tactic| (k_here; refine whl_start 100 ?_))
local macro_rules | `(tactic| walk_at "exec While Compare cons nil") => `(tactic| (k_here; refine whl_start 0 (hold_of ?_)))
local macro_rules | `(tactic| walk_at "schedtail") => `(tactic| ((case N => k_asm); (case e => k_mem); (case d => k_mem); (case U => k_updF); (case V => intro o9; k_updF); (case cd => k_mem); (case B => k_asm); (case F => k_asm); (case X => k_asm); (case T => k_asm); (case hk => first | exact rfl | with_reducible assumption); (case dp => ktr_room); (case un => ktr_units); (case nd => with_reducible assumption); (case TY => first | exact tups_sub (by with_reducible assumption) (by walk_at "subl") | exact tups_two (by with_reducible assumption) (by k_mem) (by walk_at "subl")); (case hz => omega); (case D => with_reducible assumption); (case D1 => with_reducible assumption); (case H => with_reducible assumption); k_whole))
local macro_rules | `(tactic| walk_at "call ref") => `(tactic| (k_here; (with_reducible show wpAny _ _ (call (Value.ref 637) [Value.ref _, Value.ref _]) _ _ _); k_dflt (refine' sched_2 ?B ?F ?X ?T ?hk ?dp ?un ?N ?nd ?U ?V ?e ?d ?cd ?TY ?hz ?D ?D1 ?H ?_; walk_at "schedtail"; intro t9 zs9 x1 x2 x3 x4 h' tk' pm' hp' l1 F' N'; (try dsimp only at N'))))
local macro_rules | `(tactic| walk_at "call ref") => `(tactic| (k_here; (with_reducible show wpAny _ _ (call (Value.ref 637) [Value.ref _, Value.ref _, Value.int _ _]) _ _ _); k_dflt (refine' sched_3 ?B ?F ?X ?T ?hk ?dp ?un ?N ?nd ?U ?V ?e ?d ?cd ?TY ?hz ?D ?D1 ?H ?_; walk_at "schedtail"; intro t9 zs9 x1 x2 x3 x4 h' tk' pm' hp' l1 F' N'; (try dsimp only at N'))))
local macro_rules | `(tactic| walk_at "call ref") => `(tactic| (k_here; (with_reducible show wpAny _ _ (call (Value.ref 637) [Value.ref _, Value.ref _, Value.int _ _, Value.int _ _]) _ _ _); k_dflt (refine' sched_4 ?B ?F ?X ?T ?hk ?dp ?un ?N ?nd ?U ?V ?e ?d ?cd ?TY ?hz ?D ?D1 ?H ?_; walk_at "schedtail"; intro t9 zs9 x1 x2 x3 x4 h' tk' pm' hp' l1 F' N'; (try dsimp only at N'))))
local macro_rules | `(tactic| k_cells $Y:ident) => `(tactic| (have hY := kc_nine $Y; obtain ⟨o1', o2', o3', o4', o5', o6', o7', o8', o9', hE', d1', d2', d3', d4', d5', d6', d7', d8', d9'⟩ := hY; subst hE'; clear $Y))
local macro_rules | `(tactic| walk_at "enterC") => `(tactic| (refine' code_defC ?k1 ?k2 ?k3 ?k4 ?k5 ?kA ?kF ?kK ?k6 ?k7 ?k8 ?k9 ?kB ?kD ?_ ?c2 ?c3 ?c4; (case kA => exact rfl); (case kF => exact rfl); (case kK => assumption); (case k1 => k_asm); (case k2 => k_asm); (case k3 => k_asm); (case k4 => k_asm); (case k5 => k_asm); (case k6 => k_is); (case k7 => k_is); (case k8 => k_room); (case k9 => exact BindsTo.of_eq rfl); (case kB => exact rfl); (case kD => decide +kernel); (case c2 => exact rfl); (case c3 => exact rfl); (case c4 => exact rfl); k_whole; intro g' L' h' tk' cells' FG' F' N' Y' B' X' T' l1; (have l2 := lt_up l1; have l3 := lt_up l2; have l4 := lt_up l3; have l5 := lt_up l4; have l6 := lt_up l5; have l7 := lt_up l6; have l8 := lt_up l7; have l9 := lt_up l8; have l10 := lt_up l9); k_cells Y'; (try simp only [List.cons_append, List.nil_append] at N'); (try dsimp only); (try k_lift B'); (try k_fold)))
local macro_rules | `(tactic| walk_at "call builtin:hasattr") => `(tactic| (k_here; (with_reducible show wpAny _ _ (call (Value.builtin _) [Value.ref _, Value.str _ _]) _ _ _); k_dflt (refine' hasattr_K ?k1 ?k2 ?k3 ?k4 ?kM ?k5 ?k6 ?k7 ?k8 ?k9 ?k10 ?k11 ?k12 ?_; (case k1 => k_asm); (case k2 => k_asm); (case k3 => k_asm); (case k4 => k_inst); (case kM => k_is); (case k5 => k_is); (case k6 => k_is); (case k7 => k_is); (case k8 => k_is); (case k9 => k_is); (case k10 => k_is); (case k11 => decide +kernel); (case k12 => k_get); k_whole; intro q' h' F' N' l1; (try k_lt l1); (try k_sweep))))
local macro_rules | `(tactic| ktr_room) => `(tactic| ((try simp only [depth_under_make, depth_in1, depth_deeper]); (try dsimp only [kTop]); omega))
local macro_rules | `(tactic| ktr_units) => `(tactic| ((try simp only [units_in1, units_deeper, units_under_make, Around.mark_units]); (try dsimp only [kTop]); omega))

local macro_rules | `(tactic| k_lt $h:ident) => `(tactic| skip)
local macro_rules | `(tactic| k_ne) => `(tactic| first | with_reducible assumption | (with_reducible apply Ne.symm; with_reducible assumption) | exact ne_lt (by with_reducible assumption) (by k_mem) | exact ne_gt (by with_reducible assumption) (by k_mem) | exact Nat.ne_of_lt (by with_reducible assumption) | exact Nat.ne_of_gt (by with_reducible assumption))
local macro_rules | `(tactic| k_lt2 $h:ident) => `(tactic| have h8 := lt_through (by with_reducible assumption) $h)
local macro_rules | `(tactic| k_all) => `(tactic| first | with_reducible assumption | exact off_map (by with_reducible assumption) | exact off_of (by with_reducible assumption) (by walk_at "subl"))
local macro_rules | `(tactic| walk_at "call builtin:_heapq.heappop") => `(tactic| (k_here; k_dflt (refine' pop_K ?k0 ?k1 ?k2 ?k3 ?k4 ?k5 ?k6 ?k7 ?k8 ?_; (case k1 => k_asm); (case k2 => k_asm); (case k3 => k_updF); (case k0 => with_reducible assumption); (case k4 => first | exact tups_sub (by with_reducible assumption) (by walk_at "subl") | exact tups_two (by with_reducible assumption) (by k_mem) (by walk_at "subl")); (case k5 => omega); (case k6 => with_reducible assumption); (case k7 => with_reducible assumption); (case k8 => ktr_units); k_whole); intro zs' h' pm' hp' F' N'; (try dsimp only at N'); have TYp := tups_pop (by with_reducible assumption) pm' (by with_reducible assumption) rfl; have Dp := lt_pop (by with_reducible assumption) pm'; have D1p := eids_pop (by with_reducible assumption) pm'; have hzp := size_pop pm'))
local macro_rules | `(tactic| walk_at "exec For Tuple Call cons nil") => `(tactic| (k_here; (rename Fr _ _ _ _ => lF'); (with_unfolding_all refine' For_turns lF' ?_; k_whole)))
local macro_rules | `(tactic| walk_at "call type:enumerate") => `(tactic| (k_here; (with_reducible show wpAny _ _ (call (Value.type _) [Value.ref _]) (fun xv s₁ => wpAny _ _ (pyIter xv) (fun it s₂ => TurnsAt _ _ _ _ _ _ _ _ _ it s₂) _ s₁) _ _); (rename Fr _ _ _ _ => lF'); (with_unfolding_all refine' ktu_enum ?k1 lF' ?k2 ?k3 ?k4 ?k5 ?k6 ?_; (case k1 => rfl); (case k2 => k_asm); (case k3 => k_mem); (case k4 => rfl); (case k5 => first | exact rfl | walk_at "lst0" | walk_at "lst1" | walk_at "lst2"); (case k6 => rfl); k_whole); clear lF'; intro i' l1; have l2 := lt_up l1))
local macro_rules | `(tactic| walk_at "skip") => `(tactic| first
  | ((with_reducible refine' Skip.keep ?ka ?kb); (case ka => (refine an_cons ?_ (an_cons ?_ an_nil) <;> ((try dsimp only); k_ne))); (case kb => walk_at "skip"))
  | ((with_reducible refine' Skip.drop ?kb); (case kb => walk_at "skip"))
  | (refine' Skip.tail ?kt; (case kt => (refine an_cons ?_ (an_cons ?_ an_nil) <;> k_all))))
local macro_rules | `(tactic| walk_at "UnrEndW") => `(tactic| (refine' unrEnd ?k1 ?k2 ?k3 ?k4 ?_; (case k1 => k_asm); (case k2 => k_asm); (case k3 => exact an_cons (by k_mem) (an_cons (by k_mem) an_nil)); (case k4 => (simp only [List.map_cons, List.map_nil]; walk_at "skip")); k_whole; refine And.intro (by k_subL) ?_))

local macro_rules | `(tactic| walk_at "wpAt") => `(tactic| ((try dsimp only); with_unfolding_all (first | (ks_step "execs cons"; refine ks_wpAt_execs_cons ?_) | (ks_step "exec Expr"; refine ks_wpAt_Expr_any ?_) | (ks_step "exec Return"; refine ks_wpAt_Return_some ?_) | (ks_step "eval Call"; refine ks_wpAt_MethodCall ?_))))

local macro_rules | `(tactic| walk_at "wpAt") => `(tactic| ((try dsimp only); ks_step "attributeBase Call"; k_here; k_dflt (refine ks_node (by k_asm) (by k_asm) (by k_asm) (by k_asm) (by k_is) (by rfl) (by rfl) (by k_inst) (by k_is) (by rfl) (by assumption) (by k_is) (by k_is) (by k_is) (by k_is) (by decide) (by rfl) (by rfl) (by rfl) (by rfl) (by assumption) (by first | boot_by_name | rfl | kernel_rfl) ?_; intro so' h' F' N' l1)))

section
variable {prog : Program} {w : World} {p : Program} {loose : List Str} {mean : ExcName → Option Value} {mg mb : Str → Option Value} {hd : Option Value}
    {dp un : Nat} {gd : Option (List Code)} {cn : Str} {cs : Scope} {a : Addr} {ccd : Value} {cl : List (Str × Addr)} {outer : List Env} {A₀ : Around} {base h₀ : Heap} {L : Addr} {m : Str → Option Value} {s : Shared} {Q E : Value → Shared → Prop}

local macro_rules | `(tactic| walk_at "call ref") => `(tactic| (k_here; (with_reducible show wpAny _ _ (call (Value.ref 810) _) _ _ _); refine hold_of ?_))
theorem wl_snoc {w : World} {C env tk : Addr} {x : WE} : ∀ {W : List WE}, wl w C env tk (W ++ [x]) = wl w C env tk W ++ [(x.e, instObj C x.d), (x.d, x.dict w env tk)]
  | [] => rfl
  | y :: W => by
    show (y.e, instObj C y.d) :: (y.d, y.dict w env tk) :: wl w C env tk (W ++ [x]) = _
    rw [wl_snoc]
    rfl
theorem wq_snoc {W : List WE} {x : WE} {n : Nat} : wqO (W ++ [x]) n = { cls := .type "list", data := .seq ((W.map fun x => Value.ref x.e).toArray.push (.ref x.e)) n } := by
  unfold wqO
  simp
theorem sub_snoc {w : World} {C env tk : Addr} {x : WE} {W : List WE} {l rows tl : List (Addr × Obj)} (h1 : ∀ p ∈ wl w C env tk W ++ tl, p ∈ l) (hx : (x.e, instObj C x.d) ∈ l) (hd : (x.d, x.dict w env tk) ∈ l) (hr : ∀ p ∈ rows, p ∈ l) :
    ∀ p ∈ wl w C env tk (W ++ [x]) ++ (rows ++ tl), p ∈ l := fun p hp => by
  rw [wl_snoc] at hp
  rcases List.mem_append.mp hp with hp | hp
  · rcases List.mem_append.mp hp with hp | hp
    · exact h1 p (List.mem_append_left _ hp)
    · rcases List.mem_cons.mp hp with rfl | hp
      · exact hx
      · rw [List.mem_singleton.mp hp]; exact hd
  · rcases List.mem_append.mp hp with hp | hp
    · exact hr p hp
    · exact h1 p (List.mem_append_right _ hp)
theorem nd_snoc {w : World} {C env tk : Addr} {x : WE} {W : List WE} {A : List Addr} {r1 r2 : Addr × Obj} {tl : List (Addr × Obj)} (nd : (r1.1 :: r2.1 :: x.e :: x.d :: (A ++ (wl w C env tk W ++ tl).map (·.1))).Nodup) :
    (A ++ (wl w C env tk (W ++ [x]) ++ ([r1, r2] ++ tl)).map (·.1)).Nodup := by
  refine (List.Perm.nodup_iff ?_).mpr nd
  rw [List.perm_iff_count, wl_snoc]
  intro a
  simp only [List.map_append, List.map_cons, List.map_nil, List.count_append, List.count_cons, List.count_nil]
  omega
local macro_rules | `(tactic| walk_at "notin") => `(tactic| first
  | (refine List.not_mem_cons_of_ne_of_not_mem ?_ ?_; (focus k_ne); walk_at "notin")
  | (refine notin_map ?_; k_all))
local macro_rules | `(tactic| walk_at "newnd") => `(tactic| first | (with_reducible assumption) | (refine List.nodup_cons.mpr (And.intro ?_ ?_); (focus walk_at "notin"); walk_at "newnd"))
local macro_rules | `(tactic| walk_at "rows") => `(tactic| first | (refine an_cons (by k_mem) ?_; walk_at "rows") | (walk_at "subl"))
theorem put_c {e ed q c cd tn td pq gq pr : Addr} {now k room level amt : Int} {t1 t2 t3 t4 u1 u4 u5 r1 r2 r3 r4 r5 v1 v2 au : Tok} {ys : Array QE} {n pn : Nat} {fb : Bool} {tl : List (Addr × Obj)} {W : List WE}
    (B : Below A₀ base outer h₀) (F : Fr h₀ L s.heap m) (X : (Mine.kk.heap_1 w.params).In h₀) (T : Top p loose mean mg mb h₀) (C : CodeHd base 979 975) (hP1 : ((prog.main.file : Str) == ("/claim/cut.py" : Str)) = true) (hP2 : (prog.main.scope.names.lookup ("super" : Str)).isSome = false) (hk : cs.kind = .function) (hdp : dp + 30 < recursionLimit) (hun : un + 200 < cLine)
    (N : News h₀ L s.heap ((e, instObj 662 ed) :: (ed, envO w t1 t2 t3 t4 u1 now q c (.ref pr)) :: (q, qobj ys n) :: (c, cntO cd fb k u4 u5) :: (cd, dictOf [] 0) :: (tn, instObj 929 td) :: (td, tankO w e pq gq room level r1 r2 r3 r4 r5 v1 v2) :: (pq, wqO W pn) :: (wl w 850 e tn W ++ tl)))
    (nd : ([e, ed, q, c, cd, tn, td, pq] ++ (wl w 850 e tn W ++ tl).map (·.1)).Nodup) (ha : 0 < amt)
    (TY : TupsIn tl ys) (hz : ys.size + W.length < 900) (D : ∀ x ∈ ys.toList, x.e < k) (D1 : Eids ys) (H : IsHp QE.lt ys)
    (ret : ∀ (x : WE) (bm : Addr) (nb : Nat) (S R : List WE) (l' k' : Int) (zs : Array QE) (tl' : List (Addr × Obj)) (n' pn' : Nat) (x4 x2 : Tok) h' tk', x.amt = amt → x.pr = pr → Srv (fitsP room) stepP w e tn 850 now (W ++ [x]) level k ys ((x.cb, listO #[.ref bm] nb) :: (bm, methodObj (.ref 824) (.ref tn)) :: tl) S R l' k' zs tl' →
      ([e, ed, q, c, cd, tn, td, pq] ++ (wl w 850 e tn (W ++ [x]) ++ ((x.cb, listO #[.ref bm] nb) :: (bm, methodObj (.ref 824) (.ref tn)) :: tl)).map (·.1)).Nodup →
      ([e, ed, q, c, cd, tn, td, pq] ++ (wl w 850 e tn R ++ tl').map (·.1)).Nodup → TupsIn tl' zs → (∀ x ∈ zs.toList, x.e < k') → Eids zs → IsHp QE.lt zs → Fr h₀ L h' m →
      News h₀ L h' ((e, instObj 662 ed) :: (ed, envO w t1 t2 t3 t4 u1 now q c (.ref pr)) :: (q, qobj zs n') :: (c, cntO cd fb k' x4 u5) :: (cd, dictOf [] 0) :: (tn, instObj 929 td) :: (td, tankO w e pq gq room l' r1 r2 r3 r4 r5 v1 x2) :: (pq, wqO R pn') :: (wl w 850 e tn R ++ tl')) → Q (.ref x.e) { s with heap := h', toks := tk' }) :
    wpAny (model prog w) (kTop none dp un gd cn cs L a ccd cl outer) (call (.ref 905) [.ref tn, .int amt au]) Q E s := by
  refine Mine.go_of ?_
  simp (disch := k_dflt (
  have ndS := nd_five nd
  have nd' := nd
  simp only [List.cons_append, List.nil_append] at nd'
  walk_at "nd"
  refine wpAny_call ?_
  k_dflt ktr_enter
  k_steps
  unfold Hold
  rename News _ _ _ _ => N9
  have hmx := N9
  have hnd : ∀ {x : WE} {r1 r2 : Addr × Obj}, (r1.1 :: r2.1 :: x.e :: x.d :: ([e, ed, q, c, cd, tn, td, pq] ++ (wl w 850 e tn W ++ tl).map (·.1))).Nodup → ([e, ed, q, c, cd, tn, td, pq] ++ (wl w 850 e tn (W ++ [x]) ++ ([r1, r2] ++ tl)).map (·.1)).Nodup := fun h => nd_snoc h
  refine' trig_put (k := k) (W := W ++ [WE.mk _ _ _ pr amt _ _ _ _ _ au]) (tl := [(_, listO #[.ref _] _), (_, methodObj (.ref 824) (.ref tn))] ++ tl) ?B ?F ?X ?T ?hk ?dp ?un (news_rows N9 (an_cons (by k_mem) (an_cons (by k_mem) (an_cons (by k_mem) (an_cons (by k_mem) (an_cons (by k_mem) (an_cons (by k_mem) (an_cons (by k_mem) (an_cons ?pq (sub_snoc ?w1 ?w2 ?w3 ?w4)))))))))) ?nd ?TY ?hz ?D ?D1 ?H ?_
  case w2 => k_mem
  case w3 => k_mem
  case pq => rw [wq_snoc]; k_mem
  case w1 => walk_at "subl"
  case w4 => exact an_cons (by k_mem) (an_cons (by k_mem) an_nil)
  case B => k_asm
  case F => k_asm
  case X => k_asm
  case T => k_asm
  case hk => exact rfl
  case dp => ktr_room
  case un => ktr_units
  case TY => exact fun y hy => .tail _ (.tail _ (TY y hy))
  case hz => simp only [List.length_append, List.length_cons, List.length_nil]; omega
  case D => exact D
  case D1 => exact D1
  case H => exact H
  case nd =>
    refine nd_snoc ?_
    simp only [List.cons_append, List.nil_append]
    walk_at "newnd"
  intro S R l' k' zs tl' n' pn' x4 x2 h' tk' sv nd2 TY2 D2 E2 H2 F2 N2
  k_steps
  refine' ret _ _ _ _ _ _ _ _ _ _ _ _ _ _ _ rfl rfl sv ?q1 nd2 TY2 D2 E2 H2 ?q2 ?q3
  case q2 => with_reducible assumption
  case q3 => assumption
  case q1 =>
    refine hnd ?_
    simp only [List.cons_append, List.nil_append]
    walk_at "newnd")) only [↓Mine.go_eq]
end
end Mine
end

section
-- part G1
open PySem PySem.W PyProof.Rows PySem.Spec in
theorem Mine.turn_G1 {p : Program} {w : World} {A : Around} {en : Env} {Q : Flow → Shared → Prop} {E : Value → Shared → Prop} {s : Shared} (h : Q .next s) : wpAny (model p w) A (execs [] en) Q E s := by
  w_top off
  walk1
  exact h
open PySem PySem.W PyProof.Rows PySem.Calls
namespace Mine

local macro_rules | `(tactic| walk_at "nd") => `(tactic| ((with_reducible rename List.Nodup _ => nd9); (simp only [List.nodup_cons, List.mem_cons, List.not_mem_nil, not_or, or_false, not_false_eq_true, List.nodup_nil, and_true] at nd9); (repeat (cases ‹_ ∧ _›))))
local macro_rules | `(tactic| walk_at "subl") => `(tactic| (first | exact fun _ h => h | exact fun _ h => List.mem_append_right _ h | (refine sub_cons ?_; walk_at "subl")))
local macro_rules | `(tactic| k_room) => `(tactic| ktr_room)
local macro_rules | `(tactic| walk_at "call builtin:len") => `(tactic| (k_here; (with_reducible show wpAny _ _ (call (Value.builtin "len") [Value.ref _]) _ _ _); k_dflt (refine' len0_K ?N ?m ?z ?_; (case N => k_asm); (case m => k_mem); (case z => walk_at "lenfact"); k_whole)))
local macro_rules | `(tactic| walk_at "call builtin:list.pop") => `(tactic| (k_here; (with_reducible show wpAny _ _ (call (Value.builtin _) [Value.ref _, Value.int 0 _]) _ _ _); k_dflt (refine' pop0_K ?F ?N ?U ?z ?_; (case F => k_asm); (case N => k_asm); (case U => k_upd); (case z => walk_at "lenfact"); k_whole); intro h' F' N'; (try dsimp only at N')))
local macro_rules | `(tactic| walk_at "getItem ref int") => `(tactic| (k_here; (with_reducible show wpAny _ _ (getItem (Value.ref _) (Value.int 0 _)) _ _ _); k_dflt (refine' item0_K ?N ?m ?_; (case N => k_asm); (case m => k_mem); k_whole)))
local macro_rules | `(tactic| walk_at "lenfact") => `(tactic| (simp only [List.length_map]; omega))
local macro_rules | `(tactic| walk_at "WhlRest") => `(tactic| ((with_reducible show WhlRest _ _ _ _ _ _ _ _ _ 0 _); refine' hold_of ?_))
local macro_rules | `(tactic| walk_at "exec While Constant cons nil") => `(tactic| (k_here; refine whl_start 100 ?_))
local macro_rules | `(tactic| walk_at "exec While Compare cons nil") => `(tactic| (k_here; refine whl_start 0 (hold_of ?_)))
local macro_rules | `(tactic| walk_at "schedtail") => `(tactic| ((case N => k_asm); (case e => k_mem); (case d => k_mem); (case U => k_updF); (case V => intro o9; k_updF); (case cd => k_mem); (case B => k_asm); (case F => k_asm); (case X => k_asm); (case T => k_asm); (case hk => first | exact rfl | with_reducible assumption); (case dp => ktr_room); (case un => ktr_units); (case nd => with_reducible assumption); (case TY => first | exact tups_sub (by with_reducible assumption) (by walk_at "subl") | exact tups_two (by with_reducible assumption) (by k_mem) (by walk_at "subl")); (case hz => omega); (case D => with_reducible assumption); (case D1 => with_reducible assumption); (case H => with_reducible assumption); k_whole))
local macro_rules | `(tactic| walk_at "call ref") => `(tactic| (k_here; (with_reducible show wpAny _ _ (call (Value.ref 637) [Value.ref _, Value.ref _]) _ _ _); k_dflt (refine' sched_2 ?B ?F ?X ?T ?hk ?dp ?un ?N ?nd ?U ?V ?e ?d ?cd ?TY ?hz ?D ?D1 ?H ?_; walk_at "schedtail"; intro t9 zs9 x1 x2 x3 x4 h' tk' pm' hp' l1 F' N'; (try dsimp only at N'))))
local macro_rules | `(tactic| walk_at "call ref") => `(tactic| (k_here; (with_reducible show wpAny _ _ (call (Value.ref 637) [Value.ref _, Value.ref _, Value.int _ _]) _ _ _); k_dflt (refine' sched_3 ?B ?F ?X ?T ?hk ?dp ?un ?N ?nd ?U ?V ?e ?d ?cd ?TY ?hz ?D ?D1 ?H ?_; walk_at "schedtail"; intro t9 zs9 x1 x2 x3 x4 h' tk' pm' hp' l1 F' N'; (try dsimp only at N'))))
local macro_rules | `(tactic| walk_at "call ref") => `(tactic| (k_here; (with_reducible show wpAny _ _ (call (Value.ref 637) [Value.ref _, Value.ref _, Value.int _ _, Value.int _ _]) _ _ _); k_dflt (refine' sched_4 ?B ?F ?X ?T ?hk ?dp ?un ?N ?nd ?U ?V ?e ?d ?cd ?TY ?hz ?D ?D1 ?H ?_; walk_at "schedtail"; intro t9 zs9 x1 x2 x3 x4 h' tk' pm' hp' l1 F' N'; (try dsimp only at N'))))
local macro_rules | `(tactic| k_cells $Y:ident) => `(tactic| (have hY := kc_nine $Y; obtain ⟨o1', o2', o3', o4', o5', o6', o7', o8', o9', hE', d1', d2', d3', d4', d5', d6', d7', d8', d9'⟩ := hY; subst hE'; clear $Y))
local macro_rules | `(tactic| walk_at "enterC") => `(tactic| (refine' code_defC ?k1 ?k2 ?k3 ?k4 ?k5 ?kA ?kF ?kK ?k6 ?k7 ?k8 ?k9 ?kB ?kD ?_ ?c2 ?c3 ?c4; (case kA => exact rfl); (case kF => exact rfl); (case kK => assumption); (case k1 => k_asm); (case k2 => k_asm); (case k3 => k_asm); (case k4 => k_asm); (case k5 => k_asm); (case k6 => k_is); (case k7 => k_is); (case k8 => k_room); (case k9 => exact BindsTo.of_eq rfl); (case kB => exact rfl); (case kD => decide +kernel); (case c2 => exact rfl); (case c3 => exact rfl); (case c4 => exact rfl); k_whole; intro g' L' h' tk' cells' FG' F' N' Y' B' X' T' l1; (have l2 := lt_up l1; have l3 := lt_up l2; have l4 := lt_up l3; have l5 := lt_up l4; have l6 := lt_up l5; have l7 := lt_up l6; have l8 := lt_up l7; have l9 := lt_up l8; have l10 := lt_up l9); k_cells Y'; (try simp only [List.cons_append, List.nil_append] at N'); (try dsimp only); (try k_lift B'); (try k_fold)))
local macro_rules | `(tactic| walk_at "call builtin:hasattr") => `(tactic| (k_here; (with_reducible show wpAny _ _ (call (Value.builtin _) [Value.ref _, Value.str _ _]) _ _ _); k_dflt (refine' hasattr_K ?k1 ?k2 ?k3 ?k4 ?kM ?k5 ?k6 ?k7 ?k8 ?k9 ?k10 ?k11 ?k12 ?_; (case k1 => k_asm); (case k2 => k_asm); (case k3 => k_asm); (case k4 => k_inst); (case kM => k_is); (case k5 => k_is); (case k6 => k_is); (case k7 => k_is); (case k8 => k_is); (case k9 => k_is); (case k10 => k_is); (case k11 => decide +kernel); (case k12 => k_get); k_whole; intro q' h' F' N' l1; (try k_lt l1); (try k_sweep))))
local macro_rules | `(tactic| ktr_room) => `(tactic| ((try simp only [depth_under_make, depth_in1, depth_deeper]); (try dsimp only [kTop]); omega))
local macro_rules | `(tactic| ktr_units) => `(tactic| ((try simp only [units_in1, units_deeper, units_under_make, Around.mark_units]); (try dsimp only [kTop]); omega))

local macro_rules | `(tactic| k_lt $h:ident) => `(tactic| skip)
local macro_rules | `(tactic| k_ne) => `(tactic| first | with_reducible assumption | (with_reducible apply Ne.symm; with_reducible assumption) | exact ne_lt (by with_reducible assumption) (by k_mem) | exact ne_gt (by with_reducible assumption) (by k_mem) | exact Nat.ne_of_lt (by with_reducible assumption) | exact Nat.ne_of_gt (by with_reducible assumption))
local macro_rules | `(tactic| k_lt2 $h:ident) => `(tactic| have h8 := lt_through (by with_reducible assumption) $h)
local macro_rules | `(tactic| k_all) => `(tactic| first | with_reducible assumption | exact off_map (by with_reducible assumption) | exact off_of (by with_reducible assumption) (by walk_at "subl"))
local macro_rules | `(tactic| walk_at "call builtin:_heapq.heappop") => `(tactic| (k_here; k_dflt (refine' pop_K ?k0 ?k1 ?k2 ?k3 ?k4 ?k5 ?k6 ?k7 ?k8 ?_; (case k1 => k_asm); (case k2 => k_asm); (case k3 => k_updF); (case k0 => with_reducible assumption); (case k4 => first | exact tups_sub (by with_reducible assumption) (by walk_at "subl") | exact tups_two (by with_reducible assumption) (by k_mem) (by walk_at "subl")); (case k5 => omega); (case k6 => with_reducible assumption); (case k7 => with_reducible assumption); (case k8 => ktr_units); k_whole); intro zs' h' pm' hp' F' N'; (try dsimp only at N'); have TYp := tups_pop (by with_reducible assumption) pm' (by with_reducible assumption) rfl; have Dp := lt_pop (by with_reducible assumption) pm'; have D1p := eids_pop (by with_reducible assumption) pm'; have hzp := size_pop pm'))
local macro_rules | `(tactic| walk_at "exec For Tuple Call cons nil") => `(tactic| (k_here; (rename Fr _ _ _ _ => lF'); (with_unfolding_all refine' For_turns lF' ?_; k_whole)))
local macro_rules | `(tactic| walk_at "call type:enumerate") => `(tactic| (k_here; (with_reducible show wpAny _ _ (call (Value.type _) [Value.ref _]) (fun xv s₁ => wpAny _ _ (pyIter xv) (fun it s₂ => TurnsAt _ _ _ _ _ _ _ _ _ it s₂) _ s₁) _ _); (rename Fr _ _ _ _ => lF'); (with_unfolding_all refine' ktu_enum ?k1 lF' ?k2 ?k3 ?k4 ?k5 ?k6 ?_; (case k1 => rfl); (case k2 => k_asm); (case k3 => k_mem); (case k4 => rfl); (case k5 => first | exact rfl | walk_at "lst0" | walk_at "lst1" | walk_at "lst2"); (case k6 => rfl); k_whole); clear lF'; intro i' l1; have l2 := lt_up l1))
local macro_rules | `(tactic| walk_at "skip") => `(tactic| first
  | ((with_reducible refine' Skip.keep ?ka ?kb); (case ka => (refine an_cons ?_ (an_cons ?_ an_nil) <;> ((try dsimp only); k_ne))); (case kb => walk_at "skip"))
  | ((with_reducible refine' Skip.drop ?kb); (case kb => walk_at "skip"))
  | (refine' Skip.tail ?kt; (case kt => (refine an_cons ?_ (an_cons ?_ an_nil) <;> k_all))))
local macro_rules | `(tactic| walk_at "UnrEndW") => `(tactic| (refine' unrEnd ?k1 ?k2 ?k3 ?k4 ?_; (case k1 => k_asm); (case k2 => k_asm); (case k3 => exact an_cons (by k_mem) (an_cons (by k_mem) an_nil)); (case k4 => (simp only [List.map_cons, List.map_nil]; walk_at "skip")); k_whole; refine And.intro (by k_subL) ?_))

local macro_rules | `(tactic| walk_at "wpAt") => `(tactic| ((try dsimp only); with_unfolding_all (first | (ks_step "execs cons"; refine ks_wpAt_execs_cons ?_) | (ks_step "exec Expr"; refine ks_wpAt_Expr_any ?_) | (ks_step "exec Return"; refine ks_wpAt_Return_some ?_) | (ks_step "eval Call"; refine ks_wpAt_MethodCall ?_))))

local macro_rules | `(tactic| walk_at "wpAt") => `(tactic| ((try dsimp only); ks_step "attributeBase Call"; k_here; k_dflt (refine ks_node (by k_asm) (by k_asm) (by k_asm) (by k_asm) (by k_is) (by rfl) (by rfl) (by k_inst) (by k_is) (by rfl) (by assumption) (by k_is) (by k_is) (by k_is) (by k_is) (by decide) (by rfl) (by rfl) (by rfl) (by rfl) (by assumption) (by first | boot_by_name | rfl | kernel_rfl) ?_; intro so' h' F' N' l1)))

section
variable {prog : Program} {w : World} {p : Program} {loose : List Str} {mean : ExcName → Option Value} {mg mb : Str → Option Value} {hd : Option Value}
    {dp un : Nat} {gd : Option (List Code)} {cn : Str} {cs : Scope} {a : Addr} {ccd : Value} {cl : List (Str × Addr)} {outer : List Env} {A₀ : Around} {base h₀ : Heap} {L : Addr} {m : Str → Option Value} {s : Shared} {Q E : Value → Shared → Prop}

local macro_rules | `(tactic| walk_at "call ref") => `(tactic| (k_here; (with_reducible show wpAny _ _ (call (Value.ref 824) _) _ _ _); refine hold_of ?_))
local macro_rules | `(tactic| walk_at "notin") => `(tactic| first
  | (refine List.not_mem_cons_of_ne_of_not_mem ?_ ?_; (focus k_ne); walk_at "notin")
  | (refine notin_map ?_; k_all))
local macro_rules | `(tactic| walk_at "newnd") => `(tactic| first | (with_reducible assumption) | (refine List.nodup_cons.mpr (And.intro ?_ ?_); (focus walk_at "notin"); walk_at "newnd"))
local macro_rules | `(tactic| walk_at "rows") => `(tactic| first | (refine an_cons (by k_mem) ?_; walk_at "rows") | (walk_at "subl"))
theorem get_c {e ed q c cd tn td pq gq pr : Addr} {now k room level amt : Int} {t1 t2 t3 t4 u1 u4 u5 r1 r2 r3 r4 r5 v1 v2 au : Tok} {ys : Array QE} {n pn : Nat} {fb : Bool} {tl : List (Addr × Obj)} {W : List WE}
    (B : Below A₀ base outer h₀) (F : Fr h₀ L s.heap m) (X : (Mine.kk.heap_1 w.params).In h₀) (T : Top p loose mean mg mb h₀) (C : CodeHd base 979 975) (hP1 : ((prog.main.file : Str) == ("/claim/cut.py" : Str)) = true) (hP2 : (prog.main.scope.names.lookup ("super" : Str)).isSome = false) (hk : cs.kind = .function) (hdp : dp + 30 < recursionLimit) (hun : un + 200 < cLine)
    (N : News h₀ L s.heap ((e, instObj 662 ed) :: (ed, envO w t1 t2 t3 t4 u1 now q c (.ref pr)) :: (q, qobj ys n) :: (c, cntO cd fb k u4 u5) :: (cd, dictOf [] 0) :: (tn, instObj 929 td) :: (td, tankO w e pq gq room level r1 r2 r3 r4 r5 v1 v2) :: (gq, wqO W pn) :: (wl w 871 e tn W ++ tl)))
    (nd : ([e, ed, q, c, cd, tn, td, gq] ++ (wl w 871 e tn W ++ tl).map (·.1)).Nodup) (ha : 0 < amt)
    (TY : TupsIn tl ys) (hz : ys.size + W.length < 900) (D : ∀ x ∈ ys.toList, x.e < k) (D1 : Eids ys) (H : IsHp QE.lt ys)
    (ret : ∀ (x : WE) (bm : Addr) (nb : Nat) (S R : List WE) (l' k' : Int) (zs : Array QE) (tl' : List (Addr × Obj)) (n' pn' : Nat) (x4 x2 : Tok) h' tk', x.amt = amt → x.pr = pr → Srv fitsG stepG w e tn 871 now (W ++ [x]) level k ys ((x.cb, listO #[.ref bm] nb) :: (bm, methodObj (.ref 810) (.ref tn)) :: tl) S R l' k' zs tl' →
      ([e, ed, q, c, cd, tn, td, gq] ++ (wl w 871 e tn (W ++ [x]) ++ ((x.cb, listO #[.ref bm] nb) :: (bm, methodObj (.ref 810) (.ref tn)) :: tl)).map (·.1)).Nodup →
      ([e, ed, q, c, cd, tn, td, gq] ++ (wl w 871 e tn R ++ tl').map (·.1)).Nodup → TupsIn tl' zs → (∀ x ∈ zs.toList, x.e < k') → Eids zs → IsHp QE.lt zs → Fr h₀ L h' m →
      News h₀ L h' ((e, instObj 662 ed) :: (ed, envO w t1 t2 t3 t4 u1 now q c (.ref pr)) :: (q, qobj zs n') :: (c, cntO cd fb k' x4 u5) :: (cd, dictOf [] 0) :: (tn, instObj 929 td) :: (td, tankO w e pq gq room l' r1 r2 r3 r4 r5 v1 x2) :: (gq, wqO R pn') :: (wl w 871 e tn R ++ tl')) → Q (.ref x.e) { s with heap := h', toks := tk' }) :
    wpAny (model prog w) (kTop none dp un gd cn cs L a ccd cl outer) (call (.ref 912) [.ref tn, .int amt au]) Q E s := by
  refine Mine.go_of ?_
  simp (disch := k_dflt (
  have ndS := nd_five nd
  have nd' := nd
  simp only [List.cons_append, List.nil_append] at nd'
  walk_at "nd"
  refine wpAny_call ?_
  k_dflt ktr_enter
  k_steps
  unfold Hold
  rename News _ _ _ _ => N9
  have hmx := N9
  have hnd : ∀ {x : WE} {r1 r2 : Addr × Obj}, (r1.1 :: r2.1 :: x.e :: x.d :: ([e, ed, q, c, cd, tn, td, gq] ++ (wl w 871 e tn W ++ tl).map (·.1))).Nodup → ([e, ed, q, c, cd, tn, td, gq] ++ (wl w 871 e tn (W ++ [x]) ++ ([r1, r2] ++ tl)).map (·.1)).Nodup := fun h => nd_snoc h
  refine' trig_get (k := k) (W := W ++ [WE.mk _ _ _ pr amt _ _ _ _ _ au]) (tl := [(_, listO #[.ref _] _), (_, methodObj (.ref 810) (.ref tn))] ++ tl) ?B ?F ?X ?T ?hk ?dp ?un (news_rows N9 (an_cons (by k_mem) (an_cons (by k_mem) (an_cons (by k_mem) (an_cons (by k_mem) (an_cons (by k_mem) (an_cons (by k_mem) (an_cons (by k_mem) (an_cons ?pq (sub_snoc ?w1 ?w2 ?w3 ?w4)))))))))) ?nd ?TY ?hz ?D ?D1 ?H ?_
  case w2 => k_mem
  case w3 => k_mem
  case pq => rw [wq_snoc]; k_mem
  case w1 => walk_at "subl"
  case w4 => exact an_cons (by k_mem) (an_cons (by k_mem) an_nil)
  case B => k_asm
  case F => k_asm
  case X => k_asm
  case T => k_asm
  case hk => exact rfl
  case dp => ktr_room
  case un => ktr_units
  case TY => exact fun y hy => .tail _ (.tail _ (TY y hy))
  case hz => simp only [List.length_append, List.length_cons, List.length_nil]; omega
  case D => exact D
  case D1 => exact D1
  case H => exact H
  case nd =>
    refine nd_snoc ?_
    simp only [List.cons_append, List.nil_append]
    walk_at "newnd"
  intro S R l' k' zs tl' n' pn' x4 x2 h' tk' sv nd2 TY2 D2 E2 H2 F2 N2
  k_steps
  refine' ret _ _ _ _ _ _ _ _ _ _ _ _ _ _ _ rfl rfl sv ?q1 nd2 TY2 D2 E2 H2 ?q2 ?q3
  case q2 => with_reducible assumption
  case q3 => assumption
  case q1 =>
    refine hnd ?_
    simp only [List.cons_append, List.nil_append]
    walk_at "newnd")) only [↓Mine.go_eq]
end
end Mine
end

section
-- part K2
open PySem PySem.W PyProof.Rows PySem.Spec in
theorem Mine.turn_K2 {p : Program} {w : World} {A : Around} {en : Env} {Q : Flow → Shared → Prop} {E : Value → Shared → Prop} {s : Shared} (h : Q .next s) : wpAny (model p w) A (execs [] en) Q E s := by
  w_top off
  walk1
  exact h
open PySem PySem.W PyProof.Rows PySem.Calls PyProof.V PySem.Spec
namespace Mine

section
variable {M : Model} {A : Around} {E : Value → Shared → Prop} {s' : Shared} {base g g₂ h : Heap} {outer : List Env} {L a e t : Addr} {m : Str → Option Value} {env : Env} {Q : Unit → Shared → Prop} {news : List (Addr × Obj)}
theorem leave_raiseX {cls : Value} {vs : List Value} (K : Below A base outer g) (hx : Heap.MadeExcOf h s'.heap e cls vs) (F : Fr g L h m) (N : News g L h news) (hf : env.frame = some L) (hke : env.scope.kind = .function)
    (hQ : ∀ h' t, RaisedS base g outer e cls t vs news h' → g.UpToSlots h' → Q () { s' with heap := h' }) :
    wpAny M (A.deeper env) (leaving env (.ref e)) Q E s' := by
  have K' := pushX K F hf hke
  have hmm : ∀ b, b ∈ (env :: outer).filterMap (·.frame) → b = L ∨ b ∈ outer.filterMap (·.frame) := fun b hm => by
    obtain ⟨env', he, hf'⟩ := List.mem_filterMap.mp hm
    rcases List.mem_cons.mp he with rfl | he
    · exact .inl (Option.some.inj (hf'.symm.trans hf))
    · exact .inr (List.mem_filterMap.mpr ⟨env', he, hf'⟩)
  have hin : ∀ env' ∈ (env :: outer), ∀ b, env'.frame = some b → b ∈ (env :: outer).filterMap (·.frame) := fun env he b hb => List.mem_filterMap.mpr ⟨env, he, hb⟩
  have st : base.StaysIn (hideAll h ((env :: outer).filterMap (·.frame))) := fun b o q => hideAll_get _ (K'.stays b o q) fun hm => by
    rw [(K'.frames.mem hm).1] at q; cases q
  have sg : ∀ b o, g.get? b = some o → b ∉ outer.filterMap (·.frame) → (hideAll h ((env :: outer).filterMap (·.frame))).get? b = some o := fun b o q nm => hideAll_get _ (F.keep b o q) fun hm => by
    rcases hmm b hm with z | z
    · rw [z, kts_self F] at q
      cases q
    · exact nm z
  have hl : ∀ q ∈ news, (hideAll h ((env :: outer).filterMap (·.frame))).get? q.1 = some q.2 ∧ g.get? q.1 = none ∧ base.get? q.1 = none := fun q hq => by
    refine ⟨hideAll_get _ (N q hq).1 fun hm => ?_, (N q hq).2.2, fresh_of_stays K.stays (N q hq).2.2⟩
    rcases hmm _ hm with z | z
    · exact (N q hq).2.1 z
    · obtain ⟨o, ho, _⟩ := (K.frames.mem z).2
      rw [(N q hq).2.2] at ho; cases ho
  exact wpAny_leaves_madeW K'.stack hf (fun b o q => of_hideAll _ q) (funFrames_hide K'.frames hin) hx fun h' t x1 x2 x3 x4 =>
    have R : RaisedS base g outer e cls t vs news h' := ⟨⟨_, st, sg, hl, x1, x3⟩, x2⟩
    hQ h' t R (((Heap.UpToSlots.of_keeps F.keep).trans (Heap.UpToSlots.of_keeps hx.keeps)).trans x4)
end
theorem isExc_stop : isSubtype (.type "StopIteration") (.type "BaseException") = pure true := by rw [isSubtype_type]; kernel_rfl
theorem notTuple_stop : isSubtype (.type ((Manifest.find? "StopIteration").elim "type" fun x => x.metatype)) (.type "tuple") = pure false := by
  rw [show ((Manifest.find? "StopIteration").elim "type" fun x => x.metatype) = "type" from by kernel_rfl, isSubtype_type]; kernel_rfl

/-- a call's contract: inside it an exception may fly and be caught, so the frames around it may be made objects -/
def CallT (prog : Program) (w : World) (D U : Nat) (fn : Value) (args : List Value) (rows : List (Addr × Obj)) (R : Value → List (Addr × Obj) → Prop) : Prop :=
  ∀ ⦃p : Program⦄ ⦃loose : List Str⦄ ⦃mean : ExcName → Option Value⦄ ⦃mg mb : Str → Option Value⦄ ⦃dp un : Nat⦄ ⦃gd : Option (List Code)⦄ ⦃cn : Str⦄ ⦃cs : Scope⦄ ⦃a : Addr⦄ ⦃ccd : Value⦄ ⦃outer : List Env⦄ ⦃A₀ : Around⦄ ⦃base h₀ : Heap⦄ ⦃L : Addr⦄ ⦃m : Str → Option Value⦄ ⦃s : Shared⦄ ⦃Q E : Value → Shared → Prop⦄,
    Below A₀ base outer h₀ → Fr h₀ L s.heap m → (Mine.kk.heap_1 w.params).In base → Top p loose mean mg mb base → CodeHd base 979 975 → KtsDicts (outer.filterMap (·.frame)) h₀ → cs.kind = .function → dp + D < recursionLimit → un + U < cLine → News h₀ L s.heap rows →
    (∀ v rows' h' tk' g', R v rows' → KtsTurn (outer.filterMap (·.frame)) h₀ g' → Below A₀ base outer g' → KtsDicts (outer.filterMap (·.frame)) g' → Fr g' L h' m → News g' L h' rows' → Q v { s with heap := h', toks := tk' }) → wpAny (model prog w) (kTop none dp un gd cn cs L a ccd [] outer) (call fn args) Q E s
/-- ... of a call that raises StopIteration -/
def CallS (prog : Program) (w : World) (D U : Nat) (fn : Value) (args : List Value) (rows : List (Addr × Obj)) (R : List (Addr × Obj) → Prop) : Prop :=
  ∀ ⦃p : Program⦄ ⦃loose : List Str⦄ ⦃mean : ExcName → Option Value⦄ ⦃mg mb : Str → Option Value⦄ ⦃dp un : Nat⦄ ⦃gd : Option (List Code)⦄ ⦃cn : Str⦄ ⦃cs : Scope⦄ ⦃a : Addr⦄ ⦃ccd : Value⦄ ⦃cl : List (Str × Addr)⦄ ⦃outer : List Env⦄ ⦃A₀ : Around⦄ ⦃base h₀ : Heap⦄ ⦃L : Addr⦄ ⦃m : Str → Option Value⦄ ⦃s : Shared⦄ ⦃Q E : Value → Shared → Prop⦄,
    Below A₀ base outer h₀ → Fr h₀ L s.heap m → (Mine.kk.heap_1 w.params).In h₀ → Top p loose mean mg mb h₀ → CodeHd base 979 975 → cs.kind = .function → dp + D < recursionLimit → un + U < cLine → News h₀ L s.heap rows →
    (∀ x t G rows' h' tk', R rows' → Fr h₀ L G m → RaisedS base G (envX cn cs L a ccd cl :: outer) x (.type "StopIteration") t [] rows' h' → G.UpToSlots h' → E (.ref x) { s with heap := h', toks := tk' }) → wpAny (model prog w) (kTop none dp un gd cn cs L a ccd cl outer) (call fn args) Q E s
/-- a call's contract -/
def CallOk (prog : Program) (w : World) (D U : Nat) (fn : Value) (args : List Value) (rows : List (Addr × Obj)) (R : Value → List (Addr × Obj) → Prop) : Prop :=
  ∀ ⦃p : Program⦄ ⦃loose : List Str⦄ ⦃mean : ExcName → Option Value⦄ ⦃mg mb : Str → Option Value⦄ ⦃dp un : Nat⦄ ⦃gd : Option (List Code)⦄ ⦃cn : Str⦄ ⦃cs : Scope⦄ ⦃a : Addr⦄ ⦃ccd : Value⦄ ⦃cl : List (Str × Addr)⦄ ⦃outer : List Env⦄ ⦃A₀ : Around⦄ ⦃base h₀ : Heap⦄ ⦃L : Addr⦄ ⦃m : Str → Option Value⦄ ⦃s : Shared⦄ ⦃Q E : Value → Shared → Prop⦄,
    Below A₀ base outer h₀ → Fr h₀ L s.heap m → (Mine.kk.heap_1 w.params).In h₀ → Top p loose mean mg mb h₀ → CodeHd base 979 975 → cs.kind = .function → dp + D < recursionLimit → un + U < cLine → News h₀ L s.heap rows →
    (∀ v rows' h' tk', R v rows' → Fr h₀ L h' m → News h₀ L h' rows' → Q v { s with heap := h', toks := tk' }) → wpAny (model prog w) (kTop none dp un gd cn cs L a ccd cl outer) (call fn args) Q E s
/-- the same of a code that is run -/
def CodeOk (prog : Program) (w : World) (D U : Nat) (fn : Value) (args : List Value) (rows : List (Addr × Obj)) (R : Value → List (Addr × Obj) → Prop) : Prop :=
  ∀ ⦃p : Program⦄ ⦃loose : List Str⦄ ⦃mean : ExcName → Option Value⦄ ⦃mg mb : Str → Option Value⦄ ⦃dp un : Nat⦄ ⦃gd : Option (List Code)⦄ ⦃cn : Str⦄ ⦃cs : Scope⦄ ⦃a : Addr⦄ ⦃ccd : Value⦄ ⦃cl : List (Str × Addr)⦄ ⦃outer : List Env⦄ ⦃A₀ : Around⦄ ⦃base h₀ : Heap⦄ ⦃L : Addr⦄ ⦃m : Str → Option Value⦄ ⦃s : Shared⦄ ⦃Rr : Result → Shared → Prop⦄,
    Below A₀ base outer h₀ → Fr h₀ L s.heap m → (Mine.kk.heap_1 w.params).In h₀ → Top p loose mean mg mb h₀ → CodeHd base 979 975 → cs.kind = .function → dp + D < recursionLimit → un + U < cLine → News h₀ L s.heap rows →
    (∀ v rows' h' tk', R v rows' → Fr h₀ L h' m → News h₀ L h' rows' → Rr (.ok (.ret v)) { s with heap := h', toks := tk' }) → codeAny (model prog w) (kTop none dp un gd cn cs L a ccd cl outer) (.call fn ⟨args, []⟩) Rr s
theorem CodeOk.call {prog : Program} {w : World} {D U : Nat} {fn : Value} {args : List Value} {rows : List (Addr × Obj)} {R : Value → List (Addr × Obj) → Prop} (h : CodeOk prog w D U fn args rows R) : CallOk prog w D U fn args rows R :=
  fun _ _ _ _ _ _ _ _ _ _ _ _ _ _ _ _ _ _ _ _ _ _ B F X T C hk hd hu N ret => wpAny_call (h B F X T C hk hd hu N ret)
theorem CallOk.turn {prog : Program} {w : World} {D U : Nat} {fn : Value} {args : List Value} {rows : List (Addr × Obj)} {R : Value → List (Addr × Obj) → Prop} (h : CallOk prog w D U fn args rows R) : CallT prog w D U fn args rows R :=
  fun _ _ _ _ _ _ _ _ _ _ _ _ _ _ _ _ _ _ _ _ _ B F X T C DD hk hd hu N ret => h B F (X.keeps B.stays) (T.keeps B.stays) C hk hd hu N fun v rows' h' tk' r F' N' => ret v rows' h' tk' _ r KtsTurn.refl B DD F' N'
/-- what a call leaves -/
def LeavesRows (rows : List (Addr × Obj)) (R : List (Addr × Obj) → Prop) (rows' : List (Addr × Obj)) : Prop := ∃ tl', rows' = rows ++ tl' ∧ (rows'.map (·.1)).Nodup ∧ R tl'
theorem attr_stop : ExcAttrFacts "StopIteration" where
  ga := .of (owner := "BaseException") (n := "__getattribute__") (by rw [typeLookup_type, builtinLookup_eq_fast]; kernel_rfl) (by decide +kernel) (by decide +kernel) (by decide +kernel)
    (by first | exact .inl (by decide +kernel) | exact .inr (by decide +kernel)) (by rw [isSubtype_type]; kernel_rfl)
  lkArgs := by rw [typeLookup_type, builtinLookup_eq_fast]; kernel_rfl
  sub := by rw [isSubtype_type]; kernel_rfl
section
variable {prog : Program} {w : World} {A : Around} {E : Value → Shared → Prop} {s : Shared} {h₀ : Heap} {L e t : Addr} {news : List (Addr × Obj)} {oe ot : Obj} {ws : Array Value} {nt : Nat}
theorem exc_args {expr : Bool} {Q : Value → Shared → Prop} (N : News h₀ L s.heap news) (hm : (e, oe) ∈ news) (hc : oe.cls = .type "StopIteration") (hd : oe.data = .fields ws) (h0 : ws[0]? = some (.ref t)) (h : Q (.ref t) { s with toks := s.toks + 1 }) :
    wpAny (model prog w) A (getAttr (.ref e) ("args" : Str) expr) Q E s := by
  obtain ⟨hp, g, d, tk, os⟩ := s
  exact args_attr attr_stop (N _ hm).1 hc hd h0 h
theorem exc_len {Q : Value → Shared → Prop} (N : News h₀ L s.heap news) (hm : (t, ot) ∈ news) (hc : ot.cls = .type "tuple") (hd : ot.data = .seq ([] : List Value).toArray nt) (h : Q (.int 0 (s.toks + 1)) { s with toks := s.toks + 1 + 1 }) :
    wpAny (model prog w) A (call (.builtin "len") [.ref t]) Q E s :=
  PyProof.Rows.len_tuple ⟨ot, (N _ hm).1, hc, nt, hd⟩ (by decide) h
end
theorem news_app {h₀ h : Heap} {L : Addr} {a b : List (Addr × Obj)} (N : News h₀ L h a) (M : News h₀ L h b) : News h₀ L h (a ++ b) := fun p hp => (List.mem_append.mp hp).elim (N p) (M p)
theorem news_got {h₀ h : Heap} {L e t : Addr} {a b : List (Addr × Obj)} {cls : Value} {vs : List Value} (N : News h₀ L h a) (M : News h₀ L h b) (G : Got a e t cls vs) : ∃ oe ot ws nt, News h₀ L h ((e, oe) :: (t, ot) :: b) ∧ oe.cls = cls ∧ oe.data = .fields ws ∧ ws[0]? = some (.ref t) ∧ ot.cls = .type "tuple" ∧ ot.data = .seq vs.toArray nt := by
  obtain ⟨oe, ot, ws, nt, h1, h2, r⟩ := G
  exact ⟨oe, ot, ws, nt, fun p hp => by
    rcases List.mem_cons.mp hp with rfl | hp
    · exact N _ h1
    rcases List.mem_cons.mp hp with rfl | hp
    · exact N _ h2
    exact M p hp, r⟩
theorem raised_e {base G h : Heap} {l : List Env} {e t : Addr} {cls : Value} {vs : List Value} {news : List (Addr × Obj)} (R : RaisedS base G l e cls t vs news h) : ∀ q ∈ news, q.1 ≠ e := fun q hq z => by
  obtain ⟨⟨B, _, _, hl, hfl, _⟩, _⟩ := R
  have := (hl q hq).1
  rw [z, hfl.2.1] at this
  cases this
theorem raised_t {base G h : Heap} {l : List Env} {e t : Addr} {cls : Value} {vs : List Value} {news : List (Addr × Obj)} (R : RaisedS base G l e cls t vs news h) : ∀ q ∈ news, q.1 ≠ t := fun q hq z => by
  obtain ⟨⟨B, _, _, hl, _, hn⟩, _⟩ := R
  have := (hl q hq).1
  rw [z, hn] at this
  cases this
theorem ne_all {l : List (Addr × Obj)} {a x : Addr} {o : Obj} (h : ∀ q ∈ l, q.1 ≠ x) (hm : (a, o) ∈ l) : a ≠ x := h _ hm
theorem ne_all' {l : List (Addr × Obj)} {a x : Addr} {o : Obj} (h : ∀ q ∈ l, q.1 ≠ x) (hm : (a, o) ∈ l) : x ≠ a := (h _ hm).symm
theorem fillK2 : PySem.Challenge.rw_bp0023_01 = PySem.Challenge.rw_bp0023_01 ∧ Mine.kk.heap_1 = Mine.kk.heap_1 := by
  k_fill
  exact ⟨rfl, rfl⟩
/-- a class of events: its instances' own attributes are read from their dicts -/
structure EvC (P : Params) (C : Addr) : Prop where
  c1 : hasDictIn (Mine.kk.heap_1 P) C = true
  c2 : plainGet (Mine.kk.heap_1 P) C ("callbacks" : Str) = true
  c3 : findIn (Mine.kk.heap_1 P) (.ref C) ("callbacks" : Str) = some none
  c4 : plainGet (Mine.kk.heap_1 P) C ("_ok" : Str) = true
  c5 : findIn (Mine.kk.heap_1 P) (.ref C) ("_ok" : Str) = some none
  c6 : plainGet (Mine.kk.heap_1 P) C ("_value" : Str) = true
  c7 : findIn (Mine.kk.heap_1 P) (.ref C) ("_value" : Str) = some (some (.ref 65))
  c8 : findIn (Mine.kk.heap_1 P) (.ref C) ("__setattr__" : Str) = some (some (.builtin "object.__setattr__"))
  c9 : plainOver (Mine.kk.heap_1 P) C = true
  c10 : takerIn (Mine.kk.heap_1 P) C ("callbacks" : Str) = some none
theorem evc_ini {P : Params} : EvC P 229 := EvC.mk (by k_is) (by k_is) (by k_is) (by k_is) (by k_is) (by k_is) (by k_is) (by k_is) (by k_is) (by k_is)
theorem evc_tmo {P : Params} : EvC P 210 := EvC.mk (by k_is) (by k_is) (by k_is) (by k_is) (by k_is) (by k_is) (by k_is) (by k_is) (by k_is) (by k_is)
theorem evc_put {P : Params} : EvC P 850 := EvC.mk (by k_is) (by k_is) (by k_is) (by k_is) (by k_is) (by k_is) (by k_is) (by k_is) (by k_is) (by k_is)
theorem evc_get {P : Params} : EvC P 871 := EvC.mk (by k_is) (by k_is) (by k_is) (by k_is) (by k_is) (by k_is) (by k_is) (by k_is) (by k_is) (by k_is)
theorem evc_prc {P : Params} : EvC P 301 := EvC.mk (by k_is) (by k_is) (by k_is) (by k_is) (by k_is) (by k_is) (by k_is) (by k_is) (by k_is) (by k_is)
theorem evc_unt {P : Params} : EvC P 181 := EvC.mk (by k_is) (by k_is) (by k_is) (by k_is) (by k_is) (by k_is) (by k_is) (by k_is) (by k_is) (by k_is)
end Mine
end

section
-- part SC
open PySem PySem.W PyProof.Rows PySem.Spec in
theorem Mine.turn_SC {p : Program} {w : World} {A : Around} {en : Env} {Q : Flow → Shared → Prop} {E : Value → Shared → Prop} {s : Shared} (h : Q .next s) : wpAny (model p w) A (execs [] en) Q E s := by
  w_top off
  walk1
  exact h
open PySem PySem.W PyProof.Rows PySem.Calls PyProof.V PySem.Spec
namespace Mine
noncomputable def on1 (p x : Addr × Obj) : Nat := @ite _ (x = p) (Classical.propDecidable _) 1 0
noncomputable def cp (p : Addr × Obj) : List (Addr × Obj) → Nat
  | [] => 0
  | x :: l => cp p l + on1 p x
theorem cp_nil {p : Addr × Obj} : cp p [] = 0 := rfl
theorem cp_cons {p x : Addr × Obj} {l : List (Addr × Obj)} : cp p (x :: l) = cp p l + on1 p x := rfl
theorem cp_app {p : Addr × Obj} {l r : List (Addr × Obj)} : cp p (l ++ r) = cp p l + cp p r := by
  induction l with
  | nil => simp [cp_nil]
  | cons x l ih => rw [List.cons_append, cp_cons, cp_cons, ih]; omega
theorem cp_pos {p : Addr × Obj} {l : List (Addr × Obj)} : p ∈ l ↔ 0 < cp p l := by
  induction l with
  | nil => simp [cp_nil]
  | cons x l ih =>
    rw [List.mem_cons, cp_cons, ih]
    unfold on1
    by_cases h : x = p
    · rw [if_pos h]
      exact ⟨fun _ => Nat.lt_of_lt_of_le Nat.zero_lt_one (Nat.le_add_left _ _), fun _ => .inl h.symm⟩
    · rw [if_neg h]
      exact ⟨fun e => e.elim (fun e => absurd e.symm h) id, .inr⟩
theorem sub_cnt {l r : List (Addr × Obj)} (h : ∀ p, cp p l ≤ cp p r) : ∀ p ∈ l, p ∈ r := fun p hp => cp_pos.mpr (Nat.lt_of_lt_of_le (cp_pos.mp hp) (h p))
end Mine
end

section
-- part T1
open PySem PySem.W PyProof.Rows PySem.Spec in
theorem Mine.turn_T1 {p : Program} {w : World} {A : Around} {en : Env} {Q : Flow → Shared → Prop} {E : Value → Shared → Prop} {s : Shared} (h : Q .next s) : wpAny (model p w) A (execs [] en) Q E s := by
  w_top off
  walk1
  exact h
open PySem PySem.W PyProof.Rows PySem.Calls PyProof.V PySem.Spec
namespace Mine

section
variable {prog : Program} {w : World} {A : Around} {E : Value → Shared → Prop} {s : Shared} {env : Env} {body : List Stmt} {Q : Flow → Shared → Prop}
/-- what is left of a for over an enumerated list, where the ground may turn in each turn -/
def RestT (prog : Program) (w : World) (A : Around) (E : Value → Shared → Prop) (Tg : Heap → Prop) (env : Env) (target : PySem.Expr) (body : List Stmt) (Q : Flow → Shared → Prop) (s : Shared) (I l : Addr) (lo : Obj) : List Value → Nat → Heap → (Str → Option Value) → List (Addr × Obj) → Prop
  | [], _, g, m, news => ∀ h tk, Fr g env.locals h m → News g env.locals h news → Q .next { s with heap := h, toks := tk }
  | v :: r, i, g, m, news => ∀ T t h tk o1 o2, IsTup h T #[.int ((i : Nat) : Int) t, v] → Fr g env.locals h m → News g env.locals h ((I + 1, o1) :: (I, o2) :: news) →
      wpAny (model prog w) A (assign target env (.ref T)) (fun _ s₂ => wpAny (model prog w) A (execs body env) (fun f s₃ => match f with
        | .ret v => Q (.ret v) s₃
        | .brk => Q .next s₃
        | _ => ∃ g' h' tk' m' news', s₃ = { s with heap := h', toks := tk' } ∧ Tg g' ∧ Fr g' env.locals h' m' ∧ News g' env.locals h' ((I + 1, o1) :: (I, o2) :: news') ∧ (l, lo) ∈ news' ∧ (∀ p ∈ news', p.1 ≠ I + 1 ∧ p.1 ≠ I) ∧
          RestT prog w A E Tg env target body Q s I l lo r (i + 1) g' m' news') E s₂) E { s with heap := h, toks := tk }

theorem enumT {elts : List PySem.Expr} {k : Nat} {pos : Pos} {l : Addr} {lo : Obj} {vs : List Value} {n : Nat} {m₀ : Str → Option Value} {news : List (Addr × Obj)} {h₀ : Heap} (Tg : Heap → Prop)
    (hh : A.handled = none) (F : Fr h₀ env.locals s.heap m₀) (N : News h₀ env.locals s.heap news) (hm : (l, lo) ∈ news) (hc : lo.cls = .type "list") (hd : lo.data = .seq vs.toArray n) (hT : Tg h₀) (hTn : ∀ g, Tg g → ∀ b, h₀.get? b = none → g.get? b = none)
    (hE : PassesOwn (model prog w) A env E)
    (rest : ∀ I : Addr, (∀ p ∈ news, p.1 < I) → RestT prog w A E Tg env (.Tuple elts k pos) body Q s I l lo vs 0 h₀ m₀ news) :
    wpAny (model prog w) A (call (.type "enumerate") [.ref l]) (fun xv s₁ => wpAny (model prog w) A (pyIter xv) (fun it s₂ =>
      codeAny (model prog w) A (.forLoop (.Tuple elts k pos) it body [] env) (fun r s' => match r with | .ok f => Q f s' | .error e => cameBackBy (model prog w) A env E e s') s₂) E s₁) E s := by
  have hax := N _ hm
  have hl : s.heap.IsList l vs.toArray := ⟨lo, hax.1, hc, n, hd⟩
  have hlt : l < s.heap.objs.size := Heap.lt_size hax.1
  have hLs : env.locals < s.heap.objs.size := F.ns.lt
  have hL1 : env.locals ≠ s.heap.objs.size + 1 := ktu_ne 1 hLs
  have hL0 : env.locals ≠ s.heap.objs.size := Nat.ne_of_lt hLs
  refine call_enumerate_list hl fun h' hE' hI hsz hk => ?_
  refine wpAny_pyIter_enum hE' ?_
  have W := KTurns.ofWalksU (elts := elts) (k := k) (pos := pos) (WalksT.enumerate (prog := prog) (w := w) (A := A) hh (s.heap.objs.size + 1) s.heap.objs.size l (Nat.succ_ne_self _) (ktu_ne 1 hlt) (Nat.ne_of_lt hlt) vs.toArray).toU
  have n1 : ∀ g, Tg g → g.get? (s.heap.objs.size + 1) = none := fun g hg => hTn g hg _ (ktu_new F (Nat.le_add_right _ _))
  have n0 : ∀ g, Tg g → g.get? s.heap.objs.size = none := fun g hg => hTn g hg _ (ktu_new F (Nat.le_refl _))
  have hR := rest _ fun p hp => Heap.lt_size (N p hp).1
  refine codeAny_forLoop_any (fun k' s' => ∃ i g h m news' tk, s' = { s with heap := h, toks := tk } ∧ ((∃ old, IsEnum h (s.heap.objs.size + 1) s.heap.objs.size ((i : Nat) : Int) old) ∧ h.IsListIter s.heap.objs.size l i ∧ h.IsList l vs.toArray) ∧ Tg g ∧
    Fr g env.locals h m ∧ News g env.locals h news' ∧ (l, lo) ∈ news' ∧ (∀ p ∈ news', p.1 ≠ s.heap.objs.size + 1 ∧ p.1 ≠ s.heap.objs.size) ∧ RestT prog w A E Tg env (.Tuple elts k pos) body Q s s.heap.objs.size l lo (vs.drop i) i g m news' ∧ i ≤ vs.length ∧ k' = vs.length - i) ?turn vs.length
    ⟨0, h₀, h', m₀, news, s.toks, rfl, ⟨⟨.none, hE'⟩, hI, hl.at fun o e => hk l o e⟩, hT, F.keeps hk, N.grown hk, hm, fun p hp => ⟨ktu_ne 1 (Heap.lt_size (N p hp).1), Nat.ne_of_lt (Heap.lt_size (N p hp).1)⟩, by rw [List.drop_zero]; exact hR, Nat.zero_le _, by omega⟩
  rintro k' s' ⟨i, g, h, m, news', tk, rfl, hst, hTg, F', N', hm', hoff, hrest, hi, rfl⟩
  have next : ∀ h₁ : Heap, (∀ b o, b ∉ [s.heap.objs.size + 1, s.heap.objs.size] → h.get? b = some o → h₁.get? b = some o) → Fr g env.locals h₁ m ∧ News g env.locals h₁ news' := fun h₁ hk₁ => by
    refine ⟨⟨F'.ns.at' fun o e => hk₁ _ o (by simp [hL1, hL0]) e, fun b o e => hk₁ b o (fun hb => ?_) (F'.keep b o e), F'.above⟩, fun p hp => ⟨hk₁ _ _ (fun hb => ?_) (N' p hp).1, (N' p hp).2⟩⟩
    · rcases List.mem_cons.mp hb with q | hb
      · rw [q, n1 g hTg] at e; cases e
      · rw [List.mem_singleton.mp hb, n0 g hTg] at e; cases e
    · rcases List.mem_cons.mp hb with q | hb
      · exact (hoff p hp).1 q
      · exact (hoff p hp).2 (List.mem_singleton.mp hb)
  by_cases hlt' : i < vs.length
  · refine W.item i _ _ _ (by simpa using hlt') hst fun v h₁ tk₁ hMd hk₁ => ?_
    refine W.go i v _ _ _ hMd fun h₂ hP hst₂ hk₂ => ?_
    obtain ⟨F₂, N₂⟩ := next h₂ fun b o hb x => hk₂ b o hb (hk₁ b o hb x)
    obtain ⟨T, vals, rfl, ⟨t, x, hx, rfl⟩, hTu⟩ := hP
    have hdrop : vs.drop i = x :: vs.drop (i + 1) := by
      rw [List.drop_eq_getElem_cons hlt']
      congr 1
      have hx' : vs[i]? = some x := by simpa using hx
      rw [List.getElem?_eq_getElem hlt'] at hx'
      exact Option.some.inj hx'
    rw [hdrop] at hrest
    have hst2 := hst₂
    obtain ⟨⟨old, he2⟩, ⟨o2, ho2, hc2, hd2⟩, hl2⟩ := hst₂
    obtain ⟨o1, ho1⟩ : ∃ o1, h₂.get? (s.heap.objs.size + 1) = some o1 := ⟨_, he2⟩
    have N₃ : News g env.locals h₂ ((s.heap.objs.size + 1, o1) :: (s.heap.objs.size, o2) :: news') := fun p hp => by
      rcases List.mem_cons.mp hp with rfl | hp
      · exact ⟨ho1, hL1.symm, n1 g hTg⟩
      rcases List.mem_cons.mp hp with rfl | hp
      · exact ⟨ho2, hL0.symm, n0 g hTg⟩
      exact N₂ p hp
    refine wpAny_mono (hrest T t h₂ tk₁ o1 o2 hTu F₂ N₃) (fun _ s₂ h₂' => wpAny_mono (wpAny_passesOwn hE h₂') (fun f s₃ h₃ => ?_) fun _ _ e => e) hE
    have fin : (∃ g' h' tk' m' news'', s₃ = { s with heap := h', toks := tk' } ∧ Tg g' ∧ Fr g' env.locals h' m' ∧ News g' env.locals h' ((s.heap.objs.size + 1, o1) :: (s.heap.objs.size, o2) :: news'') ∧ (l, lo) ∈ news'' ∧ (∀ p ∈ news'', p.1 ≠ s.heap.objs.size + 1 ∧ p.1 ≠ s.heap.objs.size) ∧
        RestT prog w A E Tg env (.Tuple elts k pos) body Q s s.heap.objs.size l lo (vs.drop (i + 1)) (i + 1) g' m' news'') → ∃ m', m' < vs.length - i ∧ ∃ i' g h m news'' tk, s₃ = { s with heap := h, toks := tk } ∧ ((∃ old, IsEnum h (s.heap.objs.size + 1) s.heap.objs.size ((i' : Nat) : Int) old) ∧ h.IsListIter s.heap.objs.size l i' ∧ h.IsList l vs.toArray) ∧ Tg g ∧
    Fr g env.locals h m ∧ News g env.locals h news'' ∧ (l, lo) ∈ news'' ∧ (∀ p ∈ news'', p.1 ≠ s.heap.objs.size + 1 ∧ p.1 ≠ s.heap.objs.size) ∧ RestT prog w A E Tg env (.Tuple elts k pos) body Q s s.heap.objs.size l lo (vs.drop i') i' g m news'' ∧ i' ≤ vs.length ∧ m' = vs.length - i' := by
      rintro ⟨g', h', tk', m', news'', rfl, hTg', F'', N'', hm'', hoff'', r⟩
      refine ⟨vs.length - (i + 1), by omega, i + 1, g', h', m', news'', tk', rfl, W.frame (i + 1) h₂ h' hst2 (fun b hb o e => ?_), hTg', F'', fun p hp => N'' p (.tail _ (.tail _ hp)), hm'', hoff'', r, hlt', rfl⟩
      rcases List.mem_cons.mp hb with rfl | hb
      · rw [ho1] at e; rw [← e]; exact (N'' _ (.head _)).1
      rcases List.mem_cons.mp hb with rfl | hb
      · rw [ho2] at e; rw [← e]; exact (N'' _ (.tail _ (.head _))).1
      rw [List.mem_singleton.mp hb] at e ⊢
      have e1 := (N₂ _ hm').1
      rw [e1] at e
      rw [← e]
      exact (N'' _ (.tail _ (.tail _ hm''))).1
    cases f with
    | ret v => exact h₃
    | brk => exact h₃
    | cont => exact fin h₃
    | next => exact fin h₃
  · have hin : i = vs.length := by omega
    subst hin
    refine W.done _ _ _ (by simpa using hst) fun h₁ tk₁ hk₁ => wpAny_execs_nil ?_
    obtain ⟨F₁, N₁⟩ := next h₁ hk₁
    rw [List.drop_length] at hrest
    exact hrest h₁ tk₁ F₁ N₁
end
end Mine
end

section
open PySem PySem.W PyProof.Rows PySem.Spec in
theorem Mine.turn_gA {p : Program} {w : World} {A : Around} {en : Env} {Q : Flow → Shared → Prop} {E : Value → Shared → Prop} {s : Shared} (h : Q .next s) : wpAny (model p w) A (execs [] en) Q E s := by
  w_top off
  walk1
  exact h
open PySem PySem.W PyProof.Rows PySem.Calls PyProof.V PySem.Spec
namespace Mine
local macro_rules | `(tactic| walk_at "nd") => `(tactic| ((with_reducible rename List.Nodup _ => nd9); (simp only [List.nodup_cons, List.mem_cons, List.not_mem_nil, not_or, or_false, not_false_eq_true, List.nodup_nil, and_true] at nd9); (repeat (cases ‹_ ∧ _›))))
local macro_rules | `(tactic| walk_at "subl") => `(tactic| (first | exact fun _ h => h | exact fun _ h => List.mem_append_right _ h | (refine sub_cons ?_; walk_at "subl")))
local macro_rules | `(tactic| k_room) => `(tactic| ktr_room)
local macro_rules | `(tactic| walk_at "call builtin:len") => `(tactic| (k_here; (with_reducible show wpAny _ _ (call (Value.builtin "len") [Value.ref _]) _ _ _); k_dflt (refine' len0_K ?N ?m ?z ?_; (case N => k_asm); (case m => k_mem); (case z => walk_at "lenfact"); k_whole)))
local macro_rules | `(tactic| walk_at "call builtin:list.pop") => `(tactic| (k_here; (with_reducible show wpAny _ _ (call (Value.builtin _) [Value.ref _, Value.int 0 _]) _ _ _); k_dflt (refine' pop0_K ?F ?N ?U ?z ?_; (case F => k_asm); (case N => k_asm); (case U => k_upd); (case z => walk_at "lenfact"); k_whole); intro h' F' N'; (try dsimp only at N')))
local macro_rules | `(tactic| walk_at "getItem ref int") => `(tactic| (k_here; (with_reducible show wpAny _ _ (getItem (Value.ref _) (Value.int 0 _)) _ _ _); k_dflt (refine' item0_K ?N ?m ?_; (case N => k_asm); (case m => k_mem); k_whole)))
local macro_rules | `(tactic| walk_at "lenfact") => `(tactic| (simp only [List.length_map]; omega))
local macro_rules | `(tactic| walk_at "WhlRest") => `(tactic| ((with_reducible show WhlRest _ _ _ _ _ _ _ _ _ 0 _); refine' hold_of ?_))
local macro_rules | `(tactic| walk_at "exec While Constant cons nil") => `(tactic| (k_here; refine whl_start 100 ?_))
local macro_rules | `(tactic| walk_at "exec While Compare cons nil") => `(tactic| (k_here; refine whl_start 0 (hold_of ?_)))
local macro_rules | `(tactic| walk_at "schedtail") => `(tactic| ((case N => k_asm); (case e => k_mem); (case d => k_mem); (case U => k_updF); (case V => intro o9; k_updF); (case cd => k_mem); (case B => k_asm); (case F => k_asm); (case X => k_asm); (case T => k_asm); (case hk => first | exact rfl | with_reducible assumption); (case dp => ktr_room); (case un => ktr_units); (case nd => with_reducible assumption); (case TY => first | exact tups_sub (by with_reducible assumption) (by walk_at "subl") | exact tups_two (by with_reducible assumption) (by k_mem) (by walk_at "subl")); (case hz => omega); (case D => with_reducible assumption); (case D1 => with_reducible assumption); (case H => with_reducible assumption); k_whole))
local macro_rules | `(tactic| walk_at "call ref") => `(tactic| (k_here; (with_reducible show wpAny _ _ (call (Value.ref 637) [Value.ref _, Value.ref _]) _ _ _); k_dflt (refine' sched_2 ?B ?F ?X ?T ?hk ?dp ?un ?N ?nd ?U ?V ?e ?d ?cd ?TY ?hz ?D ?D1 ?H ?_; walk_at "schedtail"; intro t9 zs9 x1 x2 x3 x4 h' tk' pm' hp' l1 F' N'; (try dsimp only at N'))))
local macro_rules | `(tactic| walk_at "call ref") => `(tactic| (k_here; (with_reducible show wpAny _ _ (call (Value.ref 637) [Value.ref _, Value.ref _, Value.int _ _]) _ _ _); k_dflt (refine' sched_3 ?B ?F ?X ?T ?hk ?dp ?un ?N ?nd ?U ?V ?e ?d ?cd ?TY ?hz ?D ?D1 ?H ?_; walk_at "schedtail"; intro t9 zs9 x1 x2 x3 x4 h' tk' pm' hp' l1 F' N'; (try dsimp only at N'))))
local macro_rules | `(tactic| walk_at "call ref") => `(tactic| (k_here; (with_reducible show wpAny _ _ (call (Value.ref 637) [Value.ref _, Value.ref _, Value.int _ _, Value.int _ _]) _ _ _); k_dflt (refine' sched_4 ?B ?F ?X ?T ?hk ?dp ?un ?N ?nd ?U ?V ?e ?d ?cd ?TY ?hz ?D ?D1 ?H ?_; walk_at "schedtail"; intro t9 zs9 x1 x2 x3 x4 h' tk' pm' hp' l1 F' N'; (try dsimp only at N'))))
local macro_rules | `(tactic| k_cells $Y:ident) => `(tactic| (have hY := kc_nine $Y; obtain ⟨o1', o2', o3', o4', o5', o6', o7', o8', o9', hE', d1', d2', d3', d4', d5', d6', d7', d8', d9'⟩ := hY; subst hE'; clear $Y))
local macro_rules | `(tactic| walk_at "enterC") => `(tactic| (refine' code_defC ?k1 ?k2 ?k3 ?k4 ?k5 ?kA ?kF ?kK ?k6 ?k7 ?k8 ?k9 ?kB ?kD ?_ ?c2 ?c3 ?c4; (case kA => exact rfl); (case kF => exact rfl); (case kK => assumption); (case k1 => k_asm); (case k2 => k_asm); (case k3 => k_asm); (case k4 => k_asm); (case k5 => k_asm); (case k6 => k_is); (case k7 => k_is); (case k8 => k_room); (case k9 => exact BindsTo.of_eq rfl); (case kB => exact rfl); (case kD => decide +kernel); (case c2 => exact rfl); (case c3 => exact rfl); (case c4 => exact rfl); k_whole; intro g' L' h' tk' cells' FG' F' N' Y' B' X' T' l1; (have l2 := lt_up l1; have l3 := lt_up l2; have l4 := lt_up l3; have l5 := lt_up l4; have l6 := lt_up l5; have l7 := lt_up l6; have l8 := lt_up l7; have l9 := lt_up l8; have l10 := lt_up l9); k_cells Y'; (try simp only [List.cons_append, List.nil_append] at N'); (try dsimp only); (try k_lift B'); (try k_fold)))
local macro_rules | `(tactic| walk_at "call builtin:hasattr") => `(tactic| (k_here; (with_reducible show wpAny _ _ (call (Value.builtin _) [Value.ref _, Value.str _ _]) _ _ _); k_dflt (refine' hasattr_K ?k1 ?k2 ?k3 ?k4 ?kM ?k5 ?k6 ?k7 ?k8 ?k9 ?k10 ?k11 ?k12 ?_; (case k1 => k_asm); (case k2 => k_asm); (case k3 => k_asm); (case k4 => k_inst); (case kM => k_is); (case k5 => k_is); (case k6 => k_is); (case k7 => k_is); (case k8 => k_is); (case k9 => k_is); (case k10 => k_is); (case k11 => decide +kernel); (case k12 => k_get); k_whole; intro q' h' F' N' l1; (try k_lt l1); (try k_sweep))))
local macro_rules | `(tactic| ktr_room) => `(tactic| ((try simp only [depth_under_make, depth_in1, depth_deeper]); (try dsimp only [kTop]); omega))
local macro_rules | `(tactic| ktr_units) => `(tactic| ((try simp only [units_in1, units_deeper, units_under_make, Around.mark_units]); (try dsimp only [kTop]); omega))

local macro_rules | `(tactic| k_lt $h:ident) => `(tactic| skip)
local macro_rules | `(tactic| k_ne) => `(tactic| first | with_reducible assumption | (with_reducible apply Ne.symm; with_reducible assumption) | exact ne_lt (by with_reducible assumption) (by k_mem) | exact ne_gt (by with_reducible assumption) (by k_mem) | exact Nat.ne_of_lt (by with_reducible assumption) | exact Nat.ne_of_gt (by with_reducible assumption))
local macro_rules | `(tactic| k_lt2 $h:ident) => `(tactic| have h8 := lt_through (by with_reducible assumption) $h)
local macro_rules | `(tactic| k_all) => `(tactic| first | with_reducible assumption | exact off_map (by with_reducible assumption) | exact off_of (by with_reducible assumption) (by walk_at "subl"))
local macro_rules | `(tactic| walk_at "call builtin:_heapq.heappop") => `(tactic| (k_here; k_dflt (refine' pop_K ?k0 ?k1 ?k2 ?k3 ?k4 ?k5 ?k6 ?k7 ?k8 ?_; (case k1 => k_asm); (case k2 => k_asm); (case k3 => k_updF); (case k0 => with_reducible assumption); (case k4 => first | exact tups_sub (by with_reducible assumption) (by walk_at "subl") | exact tups_two (by with_reducible assumption) (by k_mem) (by walk_at "subl")); (case k5 => omega); (case k6 => with_reducible assumption); (case k7 => with_reducible assumption); (case k8 => ktr_units); k_whole); intro zs' h' pm' hp' F' N'; (try dsimp only at N'); have TYp := tups_pop (by with_reducible assumption) pm' (by with_reducible assumption) rfl; have Dp := lt_pop (by with_reducible assumption) pm'; have D1p := eids_pop (by with_reducible assumption) pm'; have hzp := size_pop pm'))
local macro_rules | `(tactic| walk_at "exec For Tuple Call cons nil") => `(tactic| (k_here; (rename Fr _ _ _ _ => lF'); (with_unfolding_all refine' For_turns lF' ?_; k_whole)))
local macro_rules | `(tactic| walk_at "call type:enumerate") => `(tactic| (k_here; (with_reducible show wpAny _ _ (call (Value.type _) [Value.ref _]) (fun xv s₁ => wpAny _ _ (pyIter xv) (fun it s₂ => TurnsAt _ _ _ _ _ _ _ _ _ it s₂) _ s₁) _ _); (rename Fr _ _ _ _ => lF'); (with_unfolding_all refine' ktu_enum ?k1 lF' ?k2 ?k3 ?k4 ?k5 ?k6 ?_; (case k1 => rfl); (case k2 => k_asm); (case k3 => k_mem); (case k4 => rfl); (case k5 => first | exact rfl | walk_at "lst0" | walk_at "lst1" | walk_at "lst2"); (case k6 => rfl); k_whole); clear lF'; intro i' l1; have l2 := lt_up l1))
local macro_rules | `(tactic| walk_at "skip") => `(tactic| first
  | ((with_reducible refine' Skip.keep ?ka ?kb); (case ka => (refine an_cons ?_ (an_cons ?_ an_nil) <;> ((try dsimp only); k_ne))); (case kb => walk_at "skip"))
  | ((with_reducible refine' Skip.drop ?kb); (case kb => walk_at "skip"))
  | (refine' Skip.tail ?kt; (case kt => (refine an_cons ?_ (an_cons ?_ an_nil) <;> k_all))))
local macro_rules | `(tactic| walk_at "UnrEndW") => `(tactic| (refine' unrEnd ?k1 ?k2 ?k3 ?k4 ?_; (case k1 => k_asm); (case k2 => k_asm); (case k3 => exact an_cons (by k_mem) (an_cons (by k_mem) an_nil)); (case k4 => (simp only [List.map_cons, List.map_nil]; walk_at "skip")); k_whole; refine And.intro (by k_subL) ?_))
local macro_rules | `(tactic| walk_at "notin") => `(tactic| first
  | (refine List.not_mem_cons_of_ne_of_not_mem ?_ ?_; (focus k_ne); walk_at "notin")
  | (refine notin_map ?_; k_all))
local macro_rules | `(tactic| walk_at "newnd") => `(tactic| first | (with_reducible assumption) | (refine List.nodup_cons.mpr (And.intro ?_ ?_); (focus walk_at "notin"); walk_at "newnd"))
local macro_rules | `(tactic| walk_at "rowo") => `(tactic| first | (with_reducible exact sub_refl9) | ((with_reducible refine an_cons ?_ ?_); (focus k_mem); walk_at "rowo") | (walk_at "subl"))
local macro_rules | `(tactic| walk_at "rows") => `(tactic| first | (with_reducible exact sub_refl9) | (refine sub_cnt fun p9 => ?_; simp only [cp_app, cp_cons, cp_nil, Nat.zero_add, Nat.add_zero]; omega) | (walk_at "rowo"))

local macro_rules | `(tactic| walk_at "wpAt") => `(tactic| ((try dsimp only); with_unfolding_all (first | (ks_step "execs cons"; refine ks_wpAt_execs_cons ?_) | (ks_step "exec Expr"; refine ks_wpAt_Expr_any ?_) | (ks_step "exec Return"; refine ks_wpAt_Return_some ?_) | (ks_step "eval Call"; refine ks_wpAt_MethodCall ?_))))
local macro_rules | `(tactic| walk_at "wpAt") => `(tactic| ((try dsimp only); ks_step "attributeBase Call"; k_here; k_dflt (refine ks_node (by k_asm) (by k_asm) (by k_asm) (by k_asm) (by k_is) (by rfl) (by rfl) (by k_inst) (by k_is) (by rfl) (by assumption) (by k_is) (by k_is) (by k_is) (by k_is) (by decide) (by rfl) (by rfl) (by rfl) (by rfl) (by assumption) (by first | boot_by_name | rfl | kernel_rfl) ?_; intro so' h' F' N' l1)))
section
-- part K1
open PySem PySem.W PyProof.Rows PySem.Spec in
theorem turn_K1 {p : Program} {w : World} {A : Around} {en : Env} {Q : Flow → Shared → Prop} {E : Value → Shared → Prop} {s : Shared} (h : Q .next s) : wpAny (model p w) A (execs [] en) Q E s := by
  w_top off
  walk1
  exact h
open PySem PySem.W PyProof.Rows PySem.Calls PyProof.V PySem.Spec

local macro_rules | `(tactic| k_is) => `(tactic| with_reducible assumption)
local macro_rules | `(tactic| k_get) => `(tactic| with_reducible assumption)
local macro_rules | `(tactic| walk_at "call ref") => `(tactic| (k_here; (with_reducible show wpAny _ _ (call (Value.ref _) [Value.none, Value.none]) _ _ _); refine hold_of ?_))
section
variable {prog : Program} {w : World}
/-- what a deed gives back to the process that it belongs to -/
def GivesEv (w : World) (rows : List (Addr × Obj)) (R : Addr → Addr → Addr → List DictEntry → Nat → Addr → Array Value → Nat → List (Addr × Obj) → Prop) (v : Value) (rows' : List (Addr × Obj)) : Prop :=
  ∃ x C d es n cb vs nb tl', v = .ref x ∧ rows' = (x, instObj C d) :: (d, dictOf es n) :: (cb, listO vs nb) :: (rows ++ tl') ∧ (rows'.map (·.1)).Nodup ∧ EvC w.params C ∧ getL ("callbacks" : Str) es = some (some (.ref cb)) ∧ vs.size < 100 ∧ R x C d es n cb vs nb tl'
theorem resume_ok {D U : Nat} {e ed pr pd st sd ev d f q c tg l2 C k1 k2 k3 k4 k5 k6 k7 k8 k9 c' : Addr} {es : List DictEntry} {n : Nat} {now : Int} {t1 t2 t3 t4 u1 d1 d2 d3 d4 g1 : Tok} {act dc nm ct : Value} {tl : List (Addr × Obj)} {R : Addr → Addr → Addr → List DictEntry → Nat → Addr → Array Value → Nat → List (Addr × Obj) → Prop}
    (hC : EvC w.params C) (hok : getL ("_ok" : Str) es = some (some (.bool true))) (hva : getL ("_value" : Str) es = some (some .none))
    (nd : ([e, ed, pr, pd, st, sd, f, ev, d] ++ tl.map (·.1)).Nodup)
    (deed : CallOk prog w D U (.ref f) [.none, .none] ((e, instObj 662 ed) :: (ed, envO w t1 t2 t3 t4 u1 now q c (.ref pr)) :: (pr, instObj 301 pd) :: (pd, prcO w d1 d2 d3 d4 e l2 st tg) :: (st, instObj 962 sd) :: (sd, stpO w g1 f) :: (f, deedO w.params k1 k2 k3 k4 k5 k6 k7 k8 k9 dc nm c' ct) :: (ev, instObj C d) :: (d, dictOf es n) :: tl)
      (GivesEv w [(e, instObj 662 ed), (ed, envO w t1 t2 t3 t4 u1 now q c (.ref pr)), (pr, instObj 301 pd), (pd, prcO w d1 d2 d3 d4 e l2 st tg)] R)) :
    CallOk prog w (D + 20) (U + 100) (.ref pr) [.ref ev] ((e, instObj 662 ed) :: (ed, envO w t1 t2 t3 t4 u1 now q c act) :: (pr, instObj 301 pd) :: (pd, prcO w d1 d2 d3 d4 e l2 st tg) :: (st, instObj 962 sd) :: (sd, stpO w g1 f) :: (f, deedO w.params k1 k2 k3 k4 k5 k6 k7 k8 k9 dc nm c' ct) :: (ev, instObj C d) :: (d, dictOf es n) :: tl)
      (fun v rows' => v = .none ∧ ∃ x C d es n cb vs nb nb' tl', R x C d es n cb vs nb tl' ∧ rows' = (x, instObj C d) :: (d, dictOf es n) :: (cb, listO (vs.push (.ref pr)) nb') :: (e, instObj 662 ed) :: (ed, envO w t1 t2 t3 t4 u1 now q c .none) :: (pr, instObj 301 pd) :: (pd, prcO w d1 d2 d3 d4 e l2 st x) :: tl' ∧ (rows'.map (·.1)).Nodup) := by
  intro p loose mean mg mb dp un gd cn cs a ccd cl outer A₀ base h₀ L m s Q E B F X T C0 hk hdp hun N ret
  refine Mine.go_of ?_
  simp (disch := k_dflt (
  have nd' := nd
  simp only [List.cons_append, List.nil_append] at nd'
  walk_at "nd"
  obtain ⟨c1, c2, c3, c4, c5, c6, c7, c8, c9, c10⟩ := hC
  refine wpAny_call ?_
  refine' kco_code ?k1 ?k2 ?k3 ?k4 ?k5 ?k6 ?_
  case k1 => k_in
  case k2 => k_inst
  case k3 => rfl
  case k4 => k_is
  case k5 => k_is
  case k6 => k_is
  try dsimp only
  k_dflt ktr_enter
  k_steps
  unfold Hold
  rename News _ _ _ _ => N9
  refine' deed ?B ?F ?X ?T ?C ?hk ?dp ?un ?N ?ret
  case B => k_asm
  case F => k_asm
  case X => k_asm
  case T => k_asm
  case C => k_asm
  case hk => exact rfl
  case dp => ktr_room
  case un => ktr_units
  case N => exact news_rows N9 (by walk_at "rows")
  clear N9 nd
  intro v9 rows9 h9' tk9 hR9 F9 N9
  obtain ⟨x9, C9, d9, es9, n9, cb9, vs9, nb9, tl9, rfl, rfl, nd, hC9, hcb9, hvs9, hR9⟩ := hR9
  have nd' := nd
  simp only [List.cons_append, List.nil_append, List.map_cons] at nd'
  walk_at "nd"
  obtain ⟨c1, c2, c3, c4, c5, c6, c7, c8, c9, c10⟩ := hC9
  dsimp only [List.cons_append, List.nil_append] at N9
  k_steps
  refine' ret _ _ _ _ ⟨rfl, x9, C9, d9, es9, n9, cb9, vs9, nb9, _, tl9, hR9, rfl, ?nd⟩ ?F ?N
  case F => with_reducible assumption
  case N => assumption
  case nd => exact nd)) only [↓Mine.go_eq]
end
end

section
-- part Q1
open PySem PySem.W PyProof.Rows PySem.Spec in
theorem turn_Q1 {p : Program} {w : World} {A : Around} {en : Env} {Q : Flow → Shared → Prop} {E : Value → Shared → Prop} {s : Shared} (h : Q .next s) : wpAny (model p w) A (execs [] en) Q E s := by
  w_top off
  walk1
  exact h
open PySem PySem.W PyProof.Rows PySem.Calls PyProof.V PySem.Spec

local macro_rules | `(tactic| walk_at "enterN") => `(tactic| (refine' code_nest ?k1 ?k2 ?k3 ?k4 ?k5 ?kA ?kF ?kK ?k6 ?k7 ?k8 ?k9 ?kB ?_ ?c2 ?c3 ?c4 ?c5; (case kA => exact rfl); (case kF => exact rfl); (case kK => assumption); (case k1 => k_asm); (case k2 => k_asm); (case k3 => k_asm); (case k4 => k_asm); (case k5 => k_asm); (case k6 => k_mem); (case k7 => exact codeRec_news (by k_asm) (by k_mem) (by assumption) (by assumption)); (case k8 => k_room); (case k9 => exact BindsTo.of_eq rfl); (case c5 => decide); (case kB => exact locs rfl); (case c2 => exact rfl); (case c3 => exact rfl); (case c4 => exact rfl); k_whole; intro g' L' h' FG' F' N' B' X' T'; (try dsimp only); (try k_lift B'); (try k_fold)))
section
variable {prog : Program} {w : World}
/-- a deed's first call: it waits for its time -/
theorem deed_one {e ed q c cd f c' sl k1 k2 k3 k4 k5 k6 k7 k8 k9 : Addr} {now k comes : Int} {t1 t2 t3 t4 u1 u4 u5 cu qt : Tok} {act dc nm ct : Value} {oc o3 o6 o7 : Obj} {vs : Array Value} {ys : Array QE} {n n3 : Nat} {fb : Bool} {tl : List (Addr × Obj)}
    (hoc : oc.data = .fields vs) (hvs : vs[1]? = some (.str "_law_one.<locals>.deed" qt)) (h3 : o3.data = .cell (some (.ref sl))) (h6 : o6.data = .cell (some (.ref e))) (h7 : o7.data = .cell (some (.int comes cu))) (hcm : 0 ≤ comes)
    (nd : ([e, ed, q, c, cd, f, c', sl, k3, k6, k7] ++ tl.map (·.1)).Nodup)
    (TY0 : TupsIn tl ys) (hz : ys.size < 900) (D : ∀ x ∈ ys.toList, x.e < k) (D1 : Eids ys) (H : IsHp QE.lt ys) :
    CallOk prog w 30 200 (.ref f) [.none, .none] ((e, instObj 662 ed) :: (ed, envO w t1 t2 t3 t4 u1 now q c act) :: (q, qobj ys n) :: (c, cntO cd fb k u4 u5) :: (cd, dictOf [] 0) :: (f, deedO w.params k1 k2 k3 k4 k5 k6 k7 k8 k9 dc nm c' ct) :: (c', oc) :: (sl, listO #[] n3) :: (k3, o3) :: (k6, o6) :: (k7, o7) :: tl)
      (fun v rows => ∃ (tt te td tb : Addr) (zs : Array QE) (x1 x2 x3 x4 y1 y2 y3 y4 y5 : Tok) (n' n3' n1' : Nat), v = .ref te ∧ zs.toList.Perm (ys.push ⟨tt, now + comes, 1, k, x1, x2, x3, .ref te⟩).toList ∧ IsHp QE.lt zs ∧
        (rows.map (·.1)).Nodup ∧ rows = (te, instObj 210 td) :: (td, tmoO w y1 y2 y3 y4 y5 cu e tb comes) :: (tb, listO #[] n1') :: (tt, tupo (now + comes) 1 k x1 x2 x3 (.ref te)) :: (e, instObj 662 ed) :: (ed, envO w t1 t2 t3 t4 u1 now q c act) :: (q, qobj zs n') :: (c, cntO cd fb (k + 1) x4 u5) :: (cd, dictOf [] 0) ::
          (f, deedO w.params k1 k2 k3 k4 k5 k6 k7 k8 k9 dc nm c' ct) :: (c', oc) :: (sl, listO #[.none] n3') :: (k3, o3) :: (k6, o6) :: (k7, o7) :: tl) := by
  intro p loose mean mg mb dp un gd cn cs a ccd cl outer A₀ base h₀ L m s Q E B F X T C0 hk hdp hun N ret
  refine Mine.go_of ?_
  simp (disch := k_dflt (
  have ndS := nd_five nd
  have nd' := nd
  simp only [List.cons_append, List.nil_append] at nd'
  walk_at "nd"
  dsimp only [deedO, deedP, deedB, deedS, deedX, parmsOf] at N
  refine wpAny_call ?_
  k_dflt (walk_at "enterN")
  k_steps
  refine' ret _ _ _ _ ⟨_, _, _, _, _, _, _, _, _, _, _, _, _, _, _, _, _, rfl, ?p1, ?p2, ?p3, rfl⟩ ?F ?N
  case p1 => with_reducible assumption
  case p2 => with_reducible assumption
  case F => with_reducible assumption
  case N => exact news_rows (by with_reducible assumption) (by walk_at "rows")
  case p3 =>
    simp only [List.map_cons]
    walk_at "newnd")) only [↓Mine.go_eq]
end
end

section
-- part Q2
open PySem PySem.W PyProof.Rows PySem.Spec in
theorem turn_Q2 {p : Program} {w : World} {A : Around} {en : Env} {Q : Flow → Shared → Prop} {E : Value → Shared → Prop} {s : Shared} (h : Q .next s) : wpAny (model p w) A (execs [] en) Q E s := by
  w_top off
  walk1
  exact h
open PySem PySem.W PyProof.Rows PySem.Calls PyProof.V PySem.Spec

theorem at_stored {kvs : List (Int × Value)} {k : Int} {v : Value} (h : valueAt kvs k = none) : valueAt (stored kvs k v) k = some v := by
  rw [stored_absent h]
  unfold valueAt at h ⊢
  rw [List.find?_append]
  cases e : kvs.find? (fun kv => decide (kv.1 = k)) with
  | none => simp
  | some y => rw [e] at h; cases h
local macro_rules | `(tactic| walk_at "enterN") => `(tactic| (refine' code_nest ?k1 ?k2 ?k3 ?k4 ?k5 ?kA ?kF ?kK ?k6 ?k7 ?k8 ?k9 ?kB ?_ ?c2 ?c3 ?c4 ?c5; (case kA => exact rfl); (case kF => exact rfl); (case kK => assumption); (case k1 => k_asm); (case k2 => k_asm); (case k3 => k_asm); (case k4 => k_asm); (case k5 => k_asm); (case k6 => k_mem); (case k7 => exact codeRec_news (by k_asm) (by k_mem) (by assumption) (by assumption)); (case k8 => k_room); (case k9 => exact BindsTo.of_eq rfl); (case c5 => decide); (case kB => exact locs rfl); (case c2 => exact rfl); (case c3 => exact rfl); (case c4 => exact rfl); k_whole; intro g' L' h' FG' F' N' B' X' T'; (try dsimp only); (try k_lift B'); (try k_fold)))
local macro_rules | `(tactic| walk_at "setItem ref int") => `(tactic| (k_here; k_dflt (refine' kda_set (knd := PySem.intKind _ _) ?F ?N ?U ?d (intKind_is _ _ _ _) ?z ?_; (case F => k_asm); (case N => k_asm); (case U => k_updF); (case d => k_asm); (case z => rw [sizeLine_eq]; omega)); intro h' o' F' N' hd'; (try dsimp only at N')))
local macro_rules | `(tactic| walk_at "subscriptTail") => `(tactic| (k_here; (with_reducible show wpAny _ _ (subscriptTail _ _ (Value.ref _) (Value.int _ _)) _ _ _); k_dflt (refine' kda_item (knd := PySem.intKind _ _) ?N ?m ?d (intKind_is _ _ _ _) ?l ?_; (case N => k_asm); (case m => k_mem); (case d => with_reducible assumption); (case l => first | with_reducible assumption | exact at_stored (by with_reducible assumption)); k_whole)))
local macro_rules | `(tactic| walk_at "call ref") => `(tactic| (k_here; (with_reducible show wpAny _ _ (call (Value.ref 905) _) _ _ _); refine hold_of ?_))
local macro_rules | `(tactic| walk_at "call ref") => `(tactic| (k_here; (with_reducible show wpAny _ _ (call (Value.ref 912) _) _ _ _); refine hold_of ?_))
section
variable {prog : Program} {w : World}
/-- a deed's second call: it asks the tank, and waits for what it asked -/
theorem deed_two {D U : Nat} {tn td pq gq e f c' sl k1 k2 k3 k4 k5 k6 k7 k8 k9 ask : Addr} {num amt room level : Int} {r1 r2 r3 r4 r5 v1 v2 nu au qt : Tok} {dc nm ct : Value} {oc o2 o3 o4 o5 o8 o9 oa : Obj} {vs : Array Value} {n3 : Nat} {kvs : List (Int × Value)} {tl : List (Addr × Obj)} {R : Addr → List (Addr × Obj) → Prop}
    (hoc : oc.data = .fields vs) (hvs : vs[1]? = some (.str "_law_one.<locals>.deed" qt)) (h2 : o2.data = .cell (some (.ref tn))) (h3 : o3.data = .cell (some (.ref sl))) (h4 : o4.data = .cell (some (.bool true))) (h5 : o5.data = .cell (some (.int num nu))) (h8 : o8.data = .cell (some (.ref ask))) (h9 : o9.data = .cell (some (.int amt au)))
    (hoa : oa.IsDictOf (PySem.intKind prog w) kvs) (hab : valueAt kvs num = none) (hkz : kvs.length < 100)
    (nd : ([tn, td, ask, f, c', sl, k2, k3, k4, k5, k8, k9] ++ tl.map (·.1)).Nodup)
    (hput : CallOk prog w D U (.ref 905) [.ref tn, .int amt au] ((tn, instObj 929 td) :: (td, tankO w e pq gq room level r1 r2 r3 r4 r5 v1 v2) :: (ask, oa) :: (f, deedO w.params k1 k2 k3 k4 k5 k6 k7 k8 k9 dc nm c' ct) :: (c', oc) :: (sl, listO #[.none, .none] (n3 + 1)) :: (k2, o2) :: (k3, o3) :: (k4, o4) :: (k5, o5) :: (k8, o8) :: (k9, o9) :: tl)
      (fun v rows' => ∃ x tl', v = .ref x ∧ rows' = (ask, oa) :: (f, deedO w.params k1 k2 k3 k4 k5 k6 k7 k8 k9 dc nm c' ct) :: (c', oc) :: (sl, listO #[.none, .none] (n3 + 1)) :: (k5, o5) :: (k8, o8) :: tl' ∧ (rows'.map (·.1)).Nodup ∧ R x tl')) :
    CallOk prog w (D + 20) (U + 100) (.ref f) [.none, .none] ((tn, instObj 929 td) :: (td, tankO w e pq gq room level r1 r2 r3 r4 r5 v1 v2) :: (ask, oa) :: (f, deedO w.params k1 k2 k3 k4 k5 k6 k7 k8 k9 dc nm c' ct) :: (c', oc) :: (sl, listO #[.none] n3) :: (k2, o2) :: (k3, o3) :: (k4, o4) :: (k5, o5) :: (k8, o8) :: (k9, o9) :: tl)
      (fun v rows' => ∃ x tl' o', v = .ref x ∧ o'.IsDictOf (PySem.intKind prog w) (stored kvs num (.ref x)) ∧ rows' = (ask, o') :: (f, deedO w.params k1 k2 k3 k4 k5 k6 k7 k8 k9 dc nm c' ct) :: (c', oc) :: (sl, listO #[.none, .none] (n3 + 1)) :: (k5, o5) :: (k8, o8) :: tl' ∧ (rows'.map (·.1)).Nodup ∧ R x tl') := by
  intro p loose mean mg mb dp un gd cn cs a ccd cl outer A₀ base h₀ L m s Q E B F X T C0 hk hdp hun N ret
  refine Mine.go_of ?_
  simp (disch := k_dflt (
  have nd' := nd
  simp only [List.cons_append, List.nil_append] at nd'
  walk_at "nd"
  dsimp only [deedO, deedP, deedB, deedS, deedX, parmsOf] at N
  refine wpAny_call ?_
  k_dflt (walk_at "enterN")
  k_steps
  unfold Hold
  rename News _ _ _ _ => N9
  refine' hput ?B ?F ?X ?T ?C ?hk ?dp ?un ?N ?ret
  case B => k_asm
  case F => k_asm
  case X => k_asm
  case T => k_asm
  case C => k_asm
  case hk => exact rfl
  case dp => ktr_room
  case un => ktr_units
  case N => exact N9
  clear N9 nd
  intro v9 rows9 h9' tk9 hR9 F9 N9
  obtain ⟨x9, tl9, rfl, rfl, nd, hR9⟩ := hR9
  have nd' := nd
  simp only [List.map_cons] at nd'
  walk_at "nd"
  dsimp only [deedO, deedP, deedB, deedS, deedX, parmsOf] at N9
  k_steps
  refine' ret _ _ _ _ ⟨x9, tl9, _, rfl, ?d, rfl, ?nd, hR9⟩ ?F ?N
  case d => with_reducible assumption
  case nd => exact nd
  case F => with_reducible assumption
  case N => assumption)) only [↓Mine.go_eq]
end
section
variable {prog : Program} {w : World}
/-- a deed's second call: the same of one who takes out, and waits for what it asked -/
theorem deed_twoG {D U : Nat} {tn td pq gq e f c' sl k1 k2 k3 k4 k5 k6 k7 k8 k9 ask : Addr} {num amt room level : Int} {r1 r2 r3 r4 r5 v1 v2 nu au qt : Tok} {dc nm ct : Value} {oc o2 o3 o4 o5 o8 o9 oa : Obj} {vs : Array Value} {n3 : Nat} {kvs : List (Int × Value)} {tl : List (Addr × Obj)} {R : Addr → List (Addr × Obj) → Prop}
    (hoc : oc.data = .fields vs) (hvs : vs[1]? = some (.str "_law_one.<locals>.deed" qt)) (h2 : o2.data = .cell (some (.ref tn))) (h3 : o3.data = .cell (some (.ref sl))) (h4 : o4.data = .cell (some (.bool false))) (h5 : o5.data = .cell (some (.int num nu))) (h8 : o8.data = .cell (some (.ref ask))) (h9 : o9.data = .cell (some (.int amt au)))
    (hoa : oa.IsDictOf (PySem.intKind prog w) kvs) (hab : valueAt kvs num = none) (hkz : kvs.length < 100)
    (nd : ([tn, td, ask, f, c', sl, k2, k3, k4, k5, k8, k9] ++ tl.map (·.1)).Nodup)
    (hput : CallOk prog w D U (.ref 912) [.ref tn, .int amt au] ((tn, instObj 929 td) :: (td, tankO w e pq gq room level r1 r2 r3 r4 r5 v1 v2) :: (ask, oa) :: (f, deedO w.params k1 k2 k3 k4 k5 k6 k7 k8 k9 dc nm c' ct) :: (c', oc) :: (sl, listO #[.none, .none] (n3 + 1)) :: (k2, o2) :: (k3, o3) :: (k4, o4) :: (k5, o5) :: (k8, o8) :: (k9, o9) :: tl)
      (fun v rows' => ∃ x tl', v = .ref x ∧ rows' = (ask, oa) :: (f, deedO w.params k1 k2 k3 k4 k5 k6 k7 k8 k9 dc nm c' ct) :: (c', oc) :: (sl, listO #[.none, .none] (n3 + 1)) :: (k5, o5) :: (k8, o8) :: tl' ∧ (rows'.map (·.1)).Nodup ∧ R x tl')) :
    CallOk prog w (D + 20) (U + 100) (.ref f) [.none, .none] ((tn, instObj 929 td) :: (td, tankO w e pq gq room level r1 r2 r3 r4 r5 v1 v2) :: (ask, oa) :: (f, deedO w.params k1 k2 k3 k4 k5 k6 k7 k8 k9 dc nm c' ct) :: (c', oc) :: (sl, listO #[.none] n3) :: (k2, o2) :: (k3, o3) :: (k4, o4) :: (k5, o5) :: (k8, o8) :: (k9, o9) :: tl)
      (fun v rows' => ∃ x tl' o', v = .ref x ∧ o'.IsDictOf (PySem.intKind prog w) (stored kvs num (.ref x)) ∧ rows' = (ask, o') :: (f, deedO w.params k1 k2 k3 k4 k5 k6 k7 k8 k9 dc nm c' ct) :: (c', oc) :: (sl, listO #[.none, .none] (n3 + 1)) :: (k5, o5) :: (k8, o8) :: tl' ∧ (rows'.map (·.1)).Nodup ∧ R x tl') := by
  intro p loose mean mg mb dp un gd cn cs a ccd cl outer A₀ base h₀ L m s Q E B F X T C0 hk hdp hun N ret
  refine Mine.go_of ?_
  simp (disch := k_dflt (
  have nd' := nd
  simp only [List.cons_append, List.nil_append] at nd'
  walk_at "nd"
  dsimp only [deedO, deedP, deedB, deedS, deedX, parmsOf] at N
  refine wpAny_call ?_
  k_dflt (walk_at "enterN")
  k_steps
  unfold Hold
  rename News _ _ _ _ => N9
  refine' hput ?B ?F ?X ?T ?C ?hk ?dp ?un ?N ?ret
  case B => k_asm
  case F => k_asm
  case X => k_asm
  case T => k_asm
  case C => k_asm
  case hk => exact rfl
  case dp => ktr_room
  case un => ktr_units
  case N => exact N9
  clear N9 nd
  intro v9 rows9 h9' tk9 hR9 F9 N9
  obtain ⟨x9, tl9, rfl, rfl, nd, hR9⟩ := hR9
  have nd' := nd
  simp only [List.map_cons] at nd'
  walk_at "nd"
  dsimp only [deedO, deedP, deedB, deedS, deedX, parmsOf] at N9
  k_steps
  refine' ret _ _ _ _ ⟨x9, tl9, _, rfl, ?d, rfl, ?nd, hR9⟩ ?F ?N
  case d => with_reducible assumption
  case nd => exact nd
  case F => with_reducible assumption
  case N => assumption)) only [↓Mine.go_eq]
end
end

section
-- part Q3
open PySem PySem.W PyProof.Rows PySem.Spec in
theorem turn_Q3 {p : Program} {w : World} {A : Around} {en : Env} {Q : Flow → Shared → Prop} {E : Value → Shared → Prop} {s : Shared} (h : Q .next s) : wpAny (model p w) A (execs [] en) Q E s := by
  w_top off
  walk1
  exact h
open PySem PySem.W PyProof.Rows PySem.Calls PyProof.V PySem.Spec

local macro_rules | `(tactic| walk_at "enterN") => `(tactic| (refine' code_nest ?k1 ?k2 ?k3 ?k4 ?k5 ?kA ?kF ?kK ?k6 ?k7 ?k8 ?k9 ?kB ?_ ?c2 ?c3 ?c4 ?c5; (case kA => exact rfl); (case kF => exact rfl); (case kK => assumption); (case k1 => k_asm); (case k2 => k_asm); (case k3 => k_asm); (case k4 => k_asm); (case k5 => k_asm); (case k6 => k_mem); (case k7 => exact codeRec_news (by k_asm) (by k_mem) (by assumption) (by assumption)); (case k8 => k_room); (case k9 => exact BindsTo.of_eq rfl); (case c5 => decide); (case kB => exact locs rfl); (case c2 => exact rfl); (case c3 => exact rfl); (case c4 => exact rfl); k_whole; intro g' L' h' FG' F' N' B' X' T'; (try dsimp only); (try k_lift B'); (try k_fold)))
local macro_rules | `(tactic| walk_at "setItem ref int") => `(tactic| (k_here; k_dflt (refine' kda_set (knd := PySem.intKind _ _) ?F ?N ?U ?d (intKind_is _ _ _ _) ?z ?_; (case F => k_asm); (case N => k_asm); (case U => k_updF); (case d => k_asm); (case z => rw [sizeLine_eq]; omega)); intro h' o' F' N' hd'; (try dsimp only at N')))
local macro_rules | `(tactic| walk_at "exec Raise some none") => `(tactic| (k_here; k_dflt (refine' owsi_raiseC ?hh ?hx ?_; (case hh => exact rfl); (case hx => (refine' nameX_B ?F ?X ?T ?e ?v ?n ?_ ?a ?b; (case F => k_asm); (case X => k_asm); (case T => k_asm); (case a => exact rfl); (case b => exact rfl); (case e => k_is); (case v => boot_by_name); (case n => decide); exact ⟨rfl, rfl⟩))); intro hx9 e9 mx9))
local macro_rules | `(tactic| walk_at "leaving ref") => `(tactic| (k_here; k_dflt (refine' leave_raiseX ?B ?M ?F ?N ?hf ?hk ?_; (case M => exact Heap.MadeExc.of (by assumption)); (case F => k_asm); (case N => k_asm); (case B => k_asm); (case hf => exact rfl); (case hk => exact rfl); k_whole); intro h' t' R' U'))
section
variable {prog : Program} {w : World}
/-- a deed's last call: it tells its time and stops -/
theorem deed_end {e ed q c cd f c' sl k1 k2 k3 k4 k5 k6 k7 k8 k9 tol : Addr} {now num : Int} {t1 t2 t3 t4 u1 nu qt : Tok} {act dc nm ct : Value} {oc o1 o3 o5 o6 ot : Obj} {kvs : List (Int × Value)} {vs : Array Value} {n3 : Nat} {tl : List (Addr × Obj)}
    (hoc : oc.data = .fields vs) (hvs : vs[1]? = some (.str "_law_one.<locals>.deed" qt)) (h1 : o1.data = .cell (some (.ref tol))) (h3 : o3.data = .cell (some (.ref sl))) (h5 : o5.data = .cell (some (.int num nu))) (h6 : o6.data = .cell (some (.ref e)))
    (hot : ot.IsDictOf (PySem.intKind prog w) kvs) (hkz : kvs.length < 100)
    (nd : ([e, ed, tol, f, c', sl, k1, k3, k5, k6] ++ tl.map (·.1)).Nodup) :
    CallS prog w 30 200 (.ref f) [.none, .none] ((e, instObj 662 ed) :: (ed, envO w t1 t2 t3 t4 u1 now q c act) :: (tol, ot) :: (f, deedO w.params k1 k2 k3 k4 k5 k6 k7 k8 k9 dc nm c' ct) :: (c', oc) :: (sl, listO #[.none, .none] n3) :: (k1, o1) :: (k3, o3) :: (k5, o5) :: (k6, o6) :: tl)
      (fun rows => ∃ o' n3', o'.IsDictOf (PySem.intKind prog w) (stored kvs num (.int now u1)) ∧ rows = (e, instObj 662 ed) :: (ed, envO w t1 t2 t3 t4 u1 now q c act) :: (tol, o') :: (f, deedO w.params k1 k2 k3 k4 k5 k6 k7 k8 k9 dc nm c' ct) :: (c', oc) :: (sl, listO #[.none, .none, .none] n3') :: (k1, o1) :: (k3, o3) :: (k5, o5) :: (k6, o6) :: tl) := by
  intro p loose mean mg mb dp un gd cn cs a ccd cl outer A₀ base h₀ L m s Q E B F X T C0 hk hdp hun N ret
  refine Mine.go_of ?_
  simp (disch := k_dflt (
  have nd' := nd
  simp only [List.cons_append, List.nil_append] at nd'
  walk_at "nd"
  dsimp only [deedO, deedP, deedB, deedS, deedX, parmsOf] at N
  refine wpAny_call ?_
  k_dflt (walk_at "enterN")
  k_steps
  rename RaisedS _ _ _ _ _ _ _ _ _ => R9
  refine' ret _ _ _ _ _ _ ⟨_, _, ?d, rfl⟩ ?F R9 ?U
  case d => with_reducible assumption
  case F => with_reducible assumption
  case U => with_reducible assumption)) only [↓Mine.go_eq]
end
end

section
-- part R1
open PySem PySem.W PyProof.Rows PySem.Spec in
theorem turn_R1 {p : Program} {w : World} {A : Around} {en : Env} {Q : Flow → Shared → Prop} {E : Value → Shared → Prop} {s : Shared} (h : Q .next s) : wpAny (model p w) A (execs [] en) Q E s := by
  w_top off
  walk1
  exact h
open PySem PySem.W PyProof.Rows PySem.Calls PyProof.V PySem.Spec

local macro_rules | `(tactic| k_is) => `(tactic| with_reducible assumption)
local macro_rules | `(tactic| k_get) => `(tactic| with_reducible assumption)
local macro_rules | `(tactic| walk_at "call ref") => `(tactic| (k_here; (with_reducible show wpAny _ _ (call (Value.ref _) [Value.none, Value.none]) _ _ _); refine hold_of ?_))
local macro_rules | `(tactic| walk_at "enterT") => `(tactic| (refine' code_defS ?k1 ?k2 ?k3 ?k4 ?k5 ?XB ?TB ?D ?T0 ?kA ?k6 ?k7 ?k8 ?k9 ?kB ?_ ?cK ?c2 ?c3 ?c4 ?c5; (case kA => exact rfl); (case k2 => k_asm); (case k1 => k_asm); (case XB => assumption); (case TB => assumption); (case D => assumption); (case T0 => exact KtsTurn.refl); (case k3 => k_asm); (case k4 => k_asm); (case k5 => k_asm); (case k6 => k_is); (case k7 => k_is); (case k8 => k_room); (case k9 => exact BindsTo.of_eq rfl); (case kB => exact locs rfl); (case cK => assumption); (case c2 => exact rfl); (case c3 => exact rfl); (case c4 => exact rfl); (case c5 => decide); k_whole; intro g' L' h' FG' F' N' B' X' T' D'; (try dsimp only); (try k_lift B'); (try k_fold)))
local macro_rules | `(tactic| walk_at "noteFrame ref") => `(tactic| (k_here; have rn1' := raised_e (by assumption); have rn2' := raised_t (by assumption); k_dflt (refine' caught_SB (T' := "StopIteration") ?R ?F ?K ?U ?XB ?TB ?D ?T0 ?ex PyProof.Rows.Boot.«StopIteration» ?hn isExc_stop notTuple_stop ?hs ?_; (case R => assumption); (case F => assumption); (case K => assumption); (case U => assumption); (case XB => assumption); (case TB => assumption); (case D => assumption); (case T0 => first | assumption | exact KtsTurn.refl); (case hs => exact owsi_facts.sub); (case ex => k_is); (case hn => decide); k_whole); intro h' g' n₂ tk' T' F' N₂ G' N' K' X' P' D'; (try k_lift K'); obtain ⟨oe', ot', ws', nt', N9', hc9', hd9', h09', hoc9', hod9'⟩ := news_got N₂ N' G'; clear N₂ N' G'))
local macro_rules | `(tactic| walk_at "getAttr ref") => `(tactic| (k_here; (with_reducible show wpAny _ _ (getAttr (Value.ref _) ("args" : Str) _) _ _ _); k_dflt (refine' exc_args ?N ?m ?c ?d ?h ?_; (case N => k_asm); (case m => k_mem); (case c => with_reducible assumption); (case d => with_reducible assumption); (case h => with_reducible assumption); k_whole)))
local macro_rules | `(tactic| walk_at "call builtin:len") => `(tactic| (k_here; (with_reducible show wpAny _ _ (call (Value.builtin "len") [Value.ref _]) _ _ _); k_dflt (refine' exc_len ?N ?m ?c ?d ?_; (case N => k_asm); (case m => k_mem); (case c => with_reducible assumption); (case d => with_reducible assumption); k_whole)))
local macro_rules | `(tactic| k_ne) => `(tactic| first | exact ne_all (by with_reducible assumption) (by k_mem) | exact ne_all' (by with_reducible assumption) (by k_mem))
section
variable {prog : Program} {w : World}
theorem resume_end {D U : Nat} {e ed pr pd st sd ev d f q c cd tg l2 C k1 k2 k3 k4 k5 k6 k7 k8 k9 c' : Addr} {es : List DictEntry} {n qn : Nat} {now k : Int} {t1 t2 t3 t4 u1 u4 u5 d1 d2 d3 d4 g1 : Tok} {act dc nm ct : Value} {ys : Array QE} {fb : Bool} {tl : List (Addr × Obj)} {R : List (Addr × Obj) → Prop}
    (hC : EvC w.params C) (hok : getL ("_ok" : Str) es = some (some (.bool true))) (hva : getL ("_value" : Str) es = some (some .none))
    (nd : ([e, ed, q, c, cd, pr, pd, st, sd, f, ev, d] ++ tl.map (·.1)).Nodup) (hz : ys.size < 900) (DE : ∀ x ∈ ys.toList, x.e < k) (D1 : Eids ys) (H : IsHp QE.lt ys) (hR : ∀ tl', R tl' → TupsIn tl' ys)
    (deed : CallS prog w D U (.ref f) [.none, .none] ((e, instObj 662 ed) :: (ed, envO w t1 t2 t3 t4 u1 now q c (.ref pr)) :: (q, qobj ys qn) :: (c, cntO cd fb k u4 u5) :: (cd, dictOf [] 0) :: (pr, instObj 301 pd) :: (pd, prcO w d1 d2 d3 d4 e l2 st tg) :: (st, instObj 962 sd) :: (sd, stpO w g1 f) :: (f, deedO w.params k1 k2 k3 k4 k5 k6 k7 k8 k9 dc nm c' ct) :: (ev, instObj C d) :: (d, dictOf es n) :: tl)
      (LeavesRows [(e, instObj 662 ed), (ed, envO w t1 t2 t3 t4 u1 now q c (.ref pr)), (q, qobj ys qn), (c, cntO cd fb k u4 u5), (cd, dictOf [] 0), (pr, instObj 301 pd), (pd, prcO w d1 d2 d3 d4 e l2 st tg)] R)) :
    CallT prog w (D + 30) (U + 200) (.ref pr) [.ref ev] ((e, instObj 662 ed) :: (ed, envO w t1 t2 t3 t4 u1 now q c act) :: (q, qobj ys qn) :: (c, cntO cd fb k u4 u5) :: (cd, dictOf [] 0) :: (pr, instObj 301 pd) :: (pd, prcO w d1 d2 d3 d4 e l2 st tg) :: (st, instObj 962 sd) :: (sd, stpO w g1 f) :: (f, deedO w.params k1 k2 k3 k4 k5 k6 k7 k8 k9 dc nm c' ct) :: (ev, instObj C d) :: (d, dictOf es n) :: tl)
      (fun v rows' => v = .none ∧ ∃ (t : Addr) (zs : Array QE) (x1 x2 x3 x4 y5 y6 : Tok) (qn' : Nat) (tl' : List (Addr × Obj)), R tl' ∧ zs.toList.Perm (ys.push ⟨t, now + 0, 1, k, x1, x2, x3, .ref pr⟩).toList ∧ IsHp QE.lt zs ∧
        rows' = (t, tupo (now + 0) 1 k x1 x2 x3 (.ref pr)) :: (e, instObj 662 ed) :: (ed, envO w t1 t2 t3 t4 u1 now q c .none) :: (q, qobj zs qn') :: (c, cntO cd fb (k + 1) x4 u5) :: (cd, dictOf [] 0) :: (pr, instObj 301 pd) :: (pd, endO w d1 d2 d3 d4 y5 y6 e l2 st) :: tl' ∧ (rows'.map (·.1)).Nodup) := by
  intro p loose mean mg mb dp un gd cn cs a ccd outer A₀ base h₀ L m s Q E B F XB TB C0 DD hk hdp hun N ret
  refine Mine.go_of ?_
  simp (disch := k_dflt (
  have X := XB.keeps B.stays
  have T := TB.keeps B.stays
  have ndS := nd_five nd
  have nd' := nd
  simp only [List.cons_append, List.nil_append] at nd'
  walk_at "nd"
  obtain ⟨c1, c2, c3, c4, c5, c6, c7, c8, c9, c10⟩ := hC
  refine wpAny_call ?_
  refine' kco_code ?k1 ?k2 ?k3 ?k4 ?k5 ?k6 ?_
  case k1 => k_in
  case k2 => k_inst
  case k3 => rfl
  case k4 => k_is
  case k5 => k_is
  case k6 => k_is
  try dsimp only
  k_dflt (walk_at "enterT")
  k_steps
  unfold Hold
  rename News _ _ _ _ => N9
  refine' deed ?B ?F ?X ?T ?C ?hk ?dp ?un ?N ?ret
  case B => k_asm
  case F => k_asm
  case X => k_asm
  case T => k_asm
  case C => k_asm
  case hk => exact rfl
  case dp => ktr_room
  case un => ktr_units
  case N => exact news_rows N9 (by walk_at "rows")
  clear N9 nd
  intro x9 t9 G9 rows9 h9' tk9 hR9 F9 R9 U9
  obtain ⟨tl9, rfl, nd, hR9⟩ := hR9
  have TY9 := hR _ hR9
  have nd' := nd
  simp only [List.cons_append, List.nil_append, List.map_cons] at nd'
  revert R9
  walk_at "nd"
  dsimp only [List.cons_append, List.nil_append]
  intro R9
  k_steps
  refine' ret _ _ _ _ _ ⟨rfl, _, _, _, _, _, _, _, _, _, tl9, hR9, ?p1, ?p2, rfl, ?nd⟩ ?kT ?kB ?kD ?kF ?kN
  case p1 => with_reducible assumption
  case p2 => with_reducible assumption
  case kF => with_reducible assumption
  case kT => with_reducible assumption
  case kB => with_reducible assumption
  case kD => with_reducible assumption
  case kN => exact news_rows (by with_reducible assumption) (by walk_at "rows")
  case nd =>
    simp only [List.map_cons]
    walk_at "newnd")) only [↓Mine.go_eq]
end
end

section
-- part U1
open PySem PySem.W PyProof.Rows PySem.Spec in
theorem turn_U1 {p : Program} {w : World} {A : Around} {en : Env} {Q : Flow → Shared → Prop} {E : Value → Shared → Prop} {s : Shared} (h : Q .next s) : wpAny (model p w) A (execs [] en) Q E s := by
  w_top off
  walk1
  exact h
open PySem PySem.W PyProof.Rows PySem.Calls PyProof.V PySem.Spec

/-- the grounds that a frame may stand on -/
def TgOf (A : Around) (base : Heap) (outer : List Env) (h₀ g : Heap) : Prop := KtsTurn (outer.filterMap (·.frame)) h₀ g ∧ Below A base outer g ∧ KtsDicts (outer.filterMap (·.frame)) g
theorem tg_none {A : Around} {base : Heap} {outer : List Env} {h₀ : Heap} : ∀ g, TgOf A base outer h₀ g → ∀ b, h₀.get? b = none → g.get? b = none := fun _ h b e => h.1.none_ b e
theorem getL_some {n : Str} {es : List DictEntry} {o : Option Value} (h : getL n es = some o) : (getL n es).isSome = true := by rw [h]; rfl
section
variable {prog : Program} {w : World} {A A₁ : Around} {E : Value → Shared → Prop} {s : Shared} {env : Env} {body : List Stmt} {Q : Flow → Shared → Prop} {base : Heap} {outer : List Env}
theorem enumTg {elts : List PySem.Expr} {k : Nat} {pos : Pos} {l : Addr} {lo : Obj} {vs : List Value} {n : Nat} {m₀ : Str → Option Value} {news : List (Addr × Obj)} {h₀ : Heap}
    (hh : A.handled = none) (F : Fr h₀ env.locals s.heap m₀) (N : News h₀ env.locals s.heap news) (hm : (l, lo) ∈ news) (hc : lo.cls = .type "list") (hd : lo.data = .seq vs.toArray n) (B : Below A₁ base outer h₀) (D : KtsDicts (outer.filterMap (·.frame)) h₀)
    (hE : PassesOwn (model prog w) A env E)
    (rest : ∀ I : Addr, (∀ p ∈ news, p.1 < I) → RestT prog w A E (TgOf A₁ base outer h₀) env (.Tuple elts k pos) body Q s I l lo vs 0 h₀ m₀ news) :
    wpAny (model prog w) A (call (.type "enumerate") [.ref l]) (fun xv s₁ => wpAny (model prog w) A (pyIter xv) (fun it s₂ =>
      codeAny (model prog w) A (.forLoop (.Tuple elts k pos) it body [] env) (fun r s' => match r with | .ok f => Q f s' | .error e => cameBackBy (model prog w) A env E e s') s₂) E s₁) E s :=
  enumT (TgOf A₁ base outer h₀) hh F N hm hc hd ⟨KtsTurn.refl, B, D⟩ tg_none hE rest
end
theorem off_two {A B : List (Addr × Obj)} {x y : Addr × Obj} (nd : ((A ++ x :: y :: B).map (·.1)).Nodup) : ∀ p ∈ A ++ B, p.1 ≠ x.1 ∧ p.1 ≠ y.1 := fun p hp => by
  have h1 : ((x :: y :: (A ++ B)).map (·.1)).Nodup := by
    refine (List.Perm.nodup_iff (List.Perm.map _ ?_)).mp nd
    exact (List.perm_middle).trans (.cons _ List.perm_middle)
  simp only [List.map_cons, List.nodup_cons, List.mem_cons, not_or] at h1
  have hm : p.1 ∈ (A ++ B).map (·.1) := List.mem_map_of_mem hp
  exact ⟨fun e => h1.1.2 (e ▸ hm), fun e => h1.2.1 (e ▸ hm)⟩
theorem nd_off_two {A B : List (Addr × Obj)} {x y : Addr × Obj} (nd : ((A ++ x :: y :: B).map (·.1)).Nodup) : ((A ++ B).map (·.1)).Nodup := by
  have h1 : ((x :: y :: (A ++ B)).map (·.1)).Nodup := (List.Perm.nodup_iff (List.Perm.map _ ((List.perm_middle).trans (.cons _ List.perm_middle)))).mp nd
  simp only [List.map_cons, List.nodup_cons] at h1
  exact h1.2.2
local macro_rules | `(tactic| k_is) => `(tactic| with_reducible assumption)
local macro_rules | `(tactic| k_get) => `(tactic| with_reducible assumption)
local macro_rules | `(tactic| walk_at "enterT") => `(tactic| (refine' code_defS ?k1 ?k2 ?k3 ?k4 ?k5 ?XB ?TB ?D ?T0 ?kA ?k6 ?k7 ?k8 ?k9 ?kB ?_ ?cK ?c2 ?c3 ?c4 ?c5; (case kA => exact rfl); (case k2 => k_asm); (case k1 => k_asm); (case XB => assumption); (case TB => assumption); (case D => assumption); (case T0 => exact KtsTurn.refl); (case k3 => k_asm); (case k4 => k_asm); (case k5 => k_asm); (case k6 => k_is); (case k7 => k_is); (case k8 => k_room); (case k9 => exact BindsTo.of_eq rfl); (case kB => exact locs rfl); (case cK => assumption); (case c2 => exact rfl); (case c3 => exact rfl); (case c4 => exact rfl); (case c5 => decide); k_whole; intro g' L' h' FG' F' N' B' X' T' D'; (try dsimp only); (try k_lift B'); (try k_fold)))
local macro_rules | `(tactic| walk_at "setAttr ref") => `(tactic| (k_here; (with_reducible show wpAny _ _ (setAttr (Value.ref _) (PySem.Str.ofString "callbacks") _) _ _ _); k_dflt (refine' set_dict ?k1 ?k2 ?k3 ?k4 ?k5 ?k6 ?k7 ?k8 ?k9 ?k10 ?k11 ?k12 ?k13 ?_; (case k1 => k_asm); (case k2 => k_asm); (case k3 => k_asm); (case k4 => k_inst); (case k5 => exact rfl); (case k6 => k_is); (case k7 => k_is); (case k8 => k_is); (case k9 => k_is); (case k10 => exact getL_some (by with_reducible assumption)); (case k11 => apply_assumption); (case k12 => k_upd); (case k13 => with_reducible assumption); k_whole; intro h' F' N'; (try dsimp only at N'))))
local macro_rules | `(tactic| walk_at "exec For Tuple Call cons nil") => `(tactic| (k_here; with_unfolding_all refine' wpAny_For ?_; k_whole))
local macro_rules | `(tactic| walk_at "call builtin:_heapq.heappop") => `(tactic| (k_here; k_dflt (refine' pop_K ?k0 ?k1 ?k2 ?k3 ?k4 ?k5 ?k6 ?k7 ?k8 ?_; (case k1 => k_asm); (case k2 => k_asm); (case k3 => k_updF); (case k0 => with_reducible assumption); (case k4 => first | exact tups_sub (by with_reducible assumption) (by walk_at "subl") | exact tups_two (by with_reducible assumption) (by k_mem) (by walk_at "subl")); (case k5 => omega); (case k6 => with_reducible assumption); (case k7 => with_reducible assumption); (case k8 => ktr_units); k_whole); intro zs' h' pm' hp' F' N'; (try dsimp only at N'); have TYp := tups_pop (by with_reducible assumption) pm' (by with_reducible assumption) rfl; have D1p := eids_pop (by with_reducible assumption) pm'; have hzp := size_pop pm'))
local macro_rules | `(tactic| walk_at "call type:enumerate") => `(tactic| (k_here; with_unfolding_all refine' enumTg ?hh ?F ?N ?m ?c ?d ?B ?D ?E ?_; (case hh => with_unfolding_all rfl); (case F => k_asm); (case N => k_asm); (case m => k_mem); (case c => rfl); (case d => rfl); (case B => k_asm); (case D => k_asm); (case E => passes_own); refine hold_of ?_))
local macro_rules | `(tactic| walk_at "call ref") => `(tactic| (k_here; (with_reducible show wpAny _ _ (call (Value.ref _) [Value.ref _]) _ _ _); refine hold_of ?_))
local macro_rules | `(tactic| walk_at "Exists") => `(tactic| refine hold_of ?_)
section
variable {prog : Program} {w : World}
theorem step_one {D U : Nat} {e ed q c ta ev d lb pr pd C : Addr} {es es' pes : List DictEntry} {n n' qn nb pn : Nat} {now t pp ee : Int} {t1 t2 t3 t4 u1 a1 a2 a3 : Tok} {act : Value} {ys : Array QE} {tl : List (Addr × Obj)} {R : Array QE → List (Addr × Obj) → Prop}
    (hC : EvC w.params C) (hcb : getL ("callbacks" : Str) es = some (some (.ref lb))) (hput : ∀ tk, (putL ("callbacks" : Str) (PyData.keyHash w.params ("callbacks" : Str)) (.str ("callbacks" : Str) tk) .none es, putN ("callbacks" : Str) es n) = (es', n')) (hln : es'.length ≤ 1000) (hok : getL ("_ok" : Str) es' = some (some (.bool true)))
    (nd : ([e, ed, q, ta, ev, d, lb, pr, pd] ++ tl.map (·.1)).Nodup) (hx : ys[0]? = some ⟨ta, t, pp, ee, a1, a2, a3, .ref ev⟩)
    (TY0 : TupsIn ((ta, tupo t pp ee a1 a2 a3 (.ref ev)) :: tl) ys) (hz : ys.size < 900) (D1 : Eids ys) (H : IsHp QE.lt ys)
    (cb : ∀ (ws : Array QE) (xt : List (Addr × Obj)), (QE.mk ta t pp ee a1 a2 a3 (.ref ev) :: ws.toList).Perm ys.toList → IsHp QE.lt ws → ([e, ed, q, ev, d, lb, pr, pd] ++ (xt ++ tl).map (·.1)).Nodup → CallT prog w D U (.ref pr) [.ref ev]
      ((e, instObj 662 ed) :: (ed, envO w t1 t2 t3 t4 a1 t q c act) :: (q, qobj ws (qn + 1)) :: (ev, instObj C d) :: (d, dictOf es' n') :: (lb, listO #[.ref pr] nb) :: (pr, instObj 301 pd) :: (pd, dictOf pes pn) :: (xt ++ tl))
      (fun v rows' => v = .none ∧ LeavesRows ((e, instObj 662 ed) :: (ev, instObj C d) :: (d, dictOf es' n') :: (lb, listO #[.ref pr] nb) :: xt) (R ws) rows')) :
    CallT prog w (D + 20) (U + 100) (.ref 651) [.ref e] ((e, instObj 662 ed) :: (ed, envO w t1 t2 t3 t4 u1 now q c act) :: (q, qobj ys qn) :: (ta, tupo t pp ee a1 a2 a3 (.ref ev)) :: (ev, instObj C d) :: (d, dictOf es n) :: (lb, listO #[.ref pr] nb) :: (pr, instObj 301 pd) :: (pd, dictOf pes pn) :: tl)
      (fun v rows' => v = .none ∧ ∃ (ws : Array QE), (QE.mk ta t pp ee a1 a2 a3 (.ref ev) :: ws.toList).Perm ys.toList ∧ IsHp QE.lt ws ∧ LeavesRows [(e, instObj 662 ed), (ev, instObj C d), (d, dictOf es' n'), (lb, listO #[.ref pr] nb)] (R ws) rows') := by
  intro p loose mean mg mb dp un gd cn cs a ccd outer A₀ base h₀ L m s Q E B F XB TB C0 DD hk hdp hun N ret
  refine Mine.go_of ?_
  simp (disch := k_dflt (
  have X := XB.keeps B.stays
  have T := TB.keeps B.stays
  have nd' := nd
  simp only [List.cons_append, List.nil_append] at nd'
  walk_at "nd"
  obtain ⟨c1, c2, c3, c4, c5, c6, c7, c8, c9, c10⟩ := hC
  refine wpAny_call ?_
  k_dflt (walk_at "enterT")
  k_steps
  unfold Hold
  intro I9 l1
  have l2 := lt_up l1
  unfold RestT
  intro T9 t9 h9 tk9 o19 o29 hT9 F9 N9
  k_steps
  unfold Hold
  rename News _ _ _ _ => N8
  rename List.Perm _ _ => pm9
  rename IsHp QE.lt _ => hp9
  refine' cb _ [(I9 + 1, o19), (I9, o29)] pm9 hp9 ?nd ?B ?F ?XB ?TB ?C ?DD ?hk ?dp ?un ?N ?ret
  case nd =>
    simp only [List.cons_append, List.nil_append, List.map_cons]
    walk_at "newnd"
  case B => k_asm
  case F => k_asm
  case XB => exact XB
  case TB => exact TB
  case C => exact C0
  case DD => k_asm
  case hk => exact rfl
  case dp => ktr_room
  case un => ktr_units
  case N => exact news_rows N8 (by simp only [List.cons_append, List.nil_append]; walk_at "rows")
  clear N8
  intro v8 rows8 h8 tk8 g8 hR8 T8 B8 D8 F8 N8
  obtain ⟨rfl, tl8, rfl, nd8, hR8⟩ := hR8
  have X8 := XB.keeps B8.stays
  have P8 := TB.keeps B8.stays
  k_steps
  unfold Hold
  refine ⟨g8, _, _, _, [(e, instObj 662 ed), (ev, instObj C d), (d, dictOf es' n'), (lb, listO #[.ref pr] nb)] ++ tl8, rfl, ⟨T8, B8, D8⟩, F8, ?N, ?m, ?o, ?r⟩
  case N => exact news_rows N8 (by simp only [List.cons_append, List.nil_append]; walk_at "rows")
  case m => simp only [List.cons_append, List.nil_append]; k_mem
  case o => exact off_two (x := (I9 + 1, o19)) (y := (I9, o29)) nd8
  clear N8
  unfold RestT
  intro h7 tk7 F7 N7
  have nd7 := nd_off_two (A := [(e, instObj 662 ed), (ev, instObj C d), (d, dictOf es' n'), (lb, listO #[.ref pr] nb)]) (x := (I9 + 1, o19)) (y := (I9, o29)) nd8
  dsimp only [List.cons_append, List.nil_append] at N7
  k_steps
  refine' ret _ _ _ _ _ ⟨rfl, _, pm9, hp9, tl8, rfl, nd7, hR8⟩ ?kT ?kB ?kD ?kF ?kN
  case kT => with_reducible assumption
  case kB => with_reducible assumption
  case kD => with_reducible assumption
  case kF => with_reducible assumption
  case kN => assumption)) only [↓Mine.go_eq]
theorem step_zero {e ed q c ta ev d lb C : Addr} {es es' : List DictEntry} {n n' qn nb : Nat} {now t pp ee : Int} {t1 t2 t3 t4 u1 a1 a2 a3 : Tok} {act : Value} {ys : Array QE} {tl : List (Addr × Obj)}
    (hC : EvC w.params C) (hcb : getL ("callbacks" : Str) es = some (some (.ref lb))) (hput : ∀ tk, (putL ("callbacks" : Str) (PyData.keyHash w.params ("callbacks" : Str)) (.str ("callbacks" : Str) tk) .none es, putN ("callbacks" : Str) es n) = (es', n')) (hln : es'.length ≤ 1000) (hok : getL ("_ok" : Str) es' = some (some (.bool true)))
    (nd : ([e, ed, q, ta, ev, d, lb] ++ tl.map (·.1)).Nodup) (hx : ys[0]? = some ⟨ta, t, pp, ee, a1, a2, a3, .ref ev⟩)
    (TY0 : TupsIn ((ta, tupo t pp ee a1 a2 a3 (.ref ev)) :: tl) ys) (hz : ys.size < 900) (D1 : Eids ys) (H : IsHp QE.lt ys) :
    CallT prog w 20 100 (.ref 651) [.ref e] ((e, instObj 662 ed) :: (ed, envO w t1 t2 t3 t4 u1 now q c act) :: (q, qobj ys qn) :: (ta, tupo t pp ee a1 a2 a3 (.ref ev)) :: (ev, instObj C d) :: (d, dictOf es n) :: (lb, listO #[] nb) :: tl)
      (fun v rows' => v = .none ∧ ∃ (ws : Array QE), (QE.mk ta t pp ee a1 a2 a3 (.ref ev) :: ws.toList).Perm ys.toList ∧ IsHp QE.lt ws ∧ rows' = (e, instObj 662 ed) :: (ed, envO w t1 t2 t3 t4 a1 t q c act) :: (q, qobj ws (qn + 1)) :: (ev, instObj C d) :: (d, dictOf es' n') :: (lb, listO #[] nb) :: tl) := by
  intro p loose mean mg mb dp un gd cn cs a ccd outer A₀ base h₀ L m s Q E B F XB TB C0 DD hk hdp hun N ret
  refine Mine.go_of ?_
  simp (disch := k_dflt (
  have X := XB.keeps B.stays
  have T := TB.keeps B.stays
  have nd' := nd
  simp only [List.cons_append, List.nil_append] at nd'
  walk_at "nd"
  obtain ⟨c1, c2, c3, c4, c5, c6, c7, c8, c9, c10⟩ := hC
  refine wpAny_call ?_
  k_dflt (walk_at "enterT")
  k_steps
  unfold Hold
  intro I9 l1
  unfold RestT
  intro h7 tk7 F7 N7
  rename List.Perm _ _ => pm9
  rename IsHp QE.lt _ => hp9
  k_steps
  refine' ret _ _ _ _ _ ⟨rfl, _, pm9, hp9, rfl⟩ ?kT ?kB ?kD ?kF ?kN
  case kT => exact KtsTurn.refl
  case kB => exact B
  case kD => exact DD
  case kF => with_reducible assumption
  case kN => exact news_rows (by assumption) (by walk_at "rows"))) only [↓Mine.go_eq]
end
end

section
-- part V1
open PySem PySem.W PyProof.Rows PySem.Spec in
theorem turn_V1 {p : Program} {w : World} {A : Around} {en : Env} {Q : Flow → Shared → Prop} {E : Value → Shared → Prop} {s : Shared} (h : Q .next s) : wpAny (model p w) A (execs [] en) Q E s := by
  w_top off
  walk1
  exact h
open PySem PySem.W PyProof.Rows PySem.Calls PyProof.V PySem.Spec

/-- a code that raises StopSimulation(None) -/
def CodeSS (prog : Program) (w : World) (D U : Nat) (fn : Value) (args : List Value) (rows : List (Addr × Obj)) (R : List (Addr × Obj) → Prop) : Prop :=
  ∀ ⦃p : Program⦄ ⦃loose : List Str⦄ ⦃mean : ExcName → Option Value⦄ ⦃mg mb : Str → Option Value⦄ ⦃dp un : Nat⦄ ⦃gd : Option (List Code)⦄ ⦃cn : Str⦄ ⦃cs : Scope⦄ ⦃a : Addr⦄ ⦃ccd : Value⦄ ⦃cl : List (Str × Addr)⦄ ⦃outer : List Env⦄ ⦃A₀ : Around⦄ ⦃base h₀ : Heap⦄ ⦃L : Addr⦄ ⦃m : Str → Option Value⦄ ⦃s : Shared⦄ ⦃Rr : Result → Shared → Prop⦄,
    Below A₀ base outer h₀ → Fr h₀ L s.heap m → (Mine.kk.heap_1 w.params).In h₀ → Top p loose mean mg mb h₀ → CodeHd base 979 975 → cs.kind = .function → dp + D < recursionLimit → un + U < cLine → News h₀ L s.heap rows →
    (∀ x t G rows' h' tk', R rows' → Fr h₀ L G m → RaisedS base G (envX cn cs L a ccd cl :: outer) x (.ref 499) t [.none] rows' h' → G.UpToSlots h' → Rr (.error (.ref x)) { s with heap := h', toks := tk' }) → codeAny (model prog w) (kTop none dp un gd cn cs L a ccd cl outer) (.call fn ⟨args, []⟩) Rr s
section
variable {prog : Program} {w : World} {A : Around} {E : Value → Shared → Prop} {s : Shared} {h₀ : Heap} {L : Addr} {m mg : Str → Option Value} {env : Env}
  {x y : Str} {C : Addr} {B newId initId : String} {bm : List Value} {np cpos pos : Pos} {Q : Flow → Shared → Prop}
/-- a class of exceptions that a local name holds is raised -/
theorem raise_local {e₀ : PySem.Expr} {rest : List PySem.Expr} (F : Fr h₀ L s.heap m) (O : OwnCls x C bm newId mg h₀) (FB : ExcBaseFacts B newId initId bm) (hh : A.handled = none)
    (hx : wpAny (model prog w) A (eval (.Name y np) env) (fun v s₁ => v = .ref C ∧ s₁ = s) E s)
    (he : starEach (e₀ :: rest) env = (false, eval e₀ env) :: starEach rest env)
    (hplain : (backTo cpos (starEach rest env)).any (·.1) = false)
    (h : wpAny (model prog w) A (spliced (backTo cpos (starEach (e₀ :: rest) env))) (fun vs s₂ => vs.length ≤ sizeLine ∧ (∀ b o, h₀.get? b = some o → s₂.heap.get? b = some o) ∧
      ∀ h' e, Heap.MadeExcOf s₂.heap h' e (.ref C) vs → E (.ref e) { s₂ with heap := h' }) E s) :
    wpAny (model prog w) A (exec (.Raise (some (.Call (.Name y np) (e₀ :: rest) [] cpos)) none pos) env) Q E s := by
  obtain ⟨tl, N, nm, q, bs, hdct, sn, sub, ab, col, dd, k0, k1, k2, k3, k5, mN, hC, hN, hni, T⟩ := O.obj
  refine wpAny_Raise_call_subT (C := C) (nm := nm) (q := q) (N := N) (bs := bs) (bm := tl) (hdct := hdct) (sn := sn) (sub := sub) (ab := ab) (col := col) (dd := dd) (k0 := k0) (k1 := k1) (k2 := k2) (k3 := k3) (k5 := k5)
    FB (mN := mN) (T.hasType FB.hasBase) hh (by rw [he]; show (false || (backTo cpos (starEach rest env)).any (·.1)) = false; rw [hplain]; rfl) hni (wpAny_mono hx (fun v s₁ hv => ⟨hv.1, ?_⟩) fun _ _ y => y)
  obtain ⟨_, rfl⟩ := hv
  rw [he] at h ⊢
  exact Calls.evalArgs_plain (wpAny_mono h (fun vs s₂ h₂ => ⟨rfl, h₂.1, h₂.2.1 _ _ hC, hN.keeps h₂.2.1, T.keeps h₂.2.1, h₂.2.2⟩) fun _ _ y => y)
end
local macro_rules | `(tactic| walk_at "exec Raise some none") => `(tactic| (k_here; k_dflt (refine' raise_local (x := ("StopSimulation" : Str)) (C := 499) ?F (own_of_in ?X (topRead_of ?T) ?e ?q) PySem.F.excBase_Exception ?hh ?hx ?he ?hp ?_; (case F => k_asm); (case X => k_asm); (case T => k_asm); (case e => k_is); (case q => k_exc); (case hh => exact rfl); (case hx => (refine' ld ?k1 ?k2 ?_; (case k1 => k_asm); (case k2 => exact rfl); exact ⟨rfl, rfl⟩)); (case he => exact rfl); (case hp => exact rfl))))
local macro_rules | `(tactic| walk_at "And") => `(tactic| ((with_reducible show @LE.le Nat _ _ _ ∧ _); refine hold_of ?_))
local macro_rules | `(tactic| walk_at "leaving ref") => `(tactic| (k_here; k_dflt (refine' leave_raiseX ?B ?M ?F ?N ?hf ?hk ?_; (case M => assumption); (case F => k_asm); (case N => k_asm); (case B => k_asm); (case hf => exact rfl); (case hk => exact rfl); k_whole); intro h' t' R' U'))
section
variable {prog : Program} {w : World}
theorem cb_stop {e ev d : Addr} {b1 b2 b3 b4 : Tok} {tl : List (Addr × Obj)} (nd : ([ev, d] ++ tl.map (·.1)).Nodup) :
    CodeSS prog w 20 100 (.ref 493) [.ref 499, .ref ev] ((ev, instObj 181 d) :: (d, dictOf [en w "env" b1 (.ref e), en w "callbacks" b2 .none, en w "_ok" b3 (.bool true), en w "_value" b4 .none] 4) :: tl)
      (fun rows => rows = (ev, instObj 181 d) :: (d, dictOf [en w "env" b1 (.ref e), en w "callbacks" b2 .none, en w "_ok" b3 (.bool true), en w "_value" b4 .none] 4) :: tl) := by
  intro p loose mean mg mb dp un gd cn cs a ccd cl outer A₀ base h₀ L m s Rr B F X T C0 hk hdp hun N ret
  refine Mine.go_of ?_
  simp (disch := k_dflt (
  have nd' := nd
  simp only [List.cons_append, List.nil_append] at nd'
  walk_at "nd"
  k_dflt ktr_enter
  k_steps
  unfold Hold
  rename Fr _ _ _ _ => F9
  refine ⟨by rw [sizeLine_eq]; simp, F9.keep, fun hx9 e9 mx9 => ?_⟩
  k_steps
  rename RaisedS _ _ _ _ _ _ _ _ _ => R9
  refine' ret _ _ _ _ _ _ rfl ?F R9 ?U
  case F => with_reducible assumption
  case U => with_reducible assumption)) only [↓Mine.go_eq]
end
end

section
-- part V2
open PySem PySem.W PyProof.Rows PySem.Spec in
theorem turn_V2 {p : Program} {w : World} {A : Around} {en : Env} {Q : Flow → Shared → Prop} {E : Value → Shared → Prop} {s : Shared} (h : Q .next s) : wpAny (model p w) A (execs [] en) Q E s := by
  w_top off
  walk1
  exact h
open PySem PySem.W PyProof.Rows PySem.Calls PyProof.V PySem.Spec

section
variable {prog : Program} {w : World} {A : Around} {E : Value → Shared → Prop} {s : Shared} {g : Heap} {L : Addr} {m : Str → Option Value} {news : List (Addr × Obj)} {env : Env} {e T : Addr} {oe oT : Obj} {ws ts : Array Value} {gg : Obj → List (Addr × Obj)}
/-- a raise without words: what is being handled flies again -/
theorem raise_bare {pos : Pos} {Q : Flow → Shared → Prop} (hh : A.handled = some (.ref e)) (F : Fr g L s.heap m) (N : News g L s.heap news) (hm : (e, oe) ∈ news) (hd : oe.data = .fields ws) (h1 : ws[1]? = some (.ref T)) (U : UpdF T oT news gg) (hTd : oT.data = .fields ts) (h3 : ts[3]? = some .none)
    (hf : env.frame = some L)
    (h : ∀ h' oT', oT'.data = .fields (ts.setIfInBounds 3 (rawInt L)) → Fr g L h' m → News g L h' (gg oT') → E (.ref e) { s with heap := h' }) :
    wpAny (model prog w) A (exec (.Raise none none pos) env) Q E s := by
  obtain ⟨pre, post, hl, hg, a, b⟩ := U.split
  have hmT := N (T, oT) (by rw [hl]; exact List.mem_append_right _ (.head _))
  show wpAny (model prog w) A (do standAt pos; raiseStmt env none none) Q E s
  refine wpAny_bind (wpAny_standAt ?_)
  unfold raiseStmt
  dsimp only
  refine wpAny_bind (wpAny_handled ?_)
  rw [hh]
  dsimp only
  refine wpAny_bind (wpAny_rule ?_)
  refine wpAny_bind (wpAny_field (N _ hm).1 hd h1 ?_)
  rw [if_neg (show ¬ ((Value.ref T == Value.none) = true) from by simp)]
  unfold setFlight
  refine wpAny_bind (wpAny_bind (wpAny_field (N _ hm).1 hd h1 ?_))
  rw [if_pos (show (Value.ref T != Value.none) = true from by simp)]
  refine wpAny_setField hmT.1 hTd (Array.getElem?_eq_some_iff.mp h3).1 (wpAny_throw ?_)
  have hd3 := Obj.data_mapFields hTd (·.setIfInBounds 3 (env.frame.elim Value.none fun f => rawInt f))
  have hup := Heap.get?_update_self (Obj.mapFields (·.setIfInBounds 3 (env.frame.elim Value.none fun f => rawInt f))) hmT.1 (Obj.isFreed_of_fields hd3)
  have hsb : Heap.SameBut T s.heap (s.heap.update T (Obj.mapFields (·.setIfInBounds 3 (env.frame.elim Value.none fun f => rawInt f)))) := ⟨Heap.size_after_update .., fun b hb => Heap.get?_update_other _ _ (Ne.symm hb)⟩
  refine h _ _ (by rw [hd3, hf]; rfl) (F.change hsb hmT.2.1 hmT.2.2) ?_
  rw [hg]
  exact (show News g L s.heap (pre ++ (T, oT) :: post) from hl ▸ N).setIn a b hsb hup
end
section
variable {M : Model} {A : Around} {E : Value → Shared → Prop} {s' : Shared} {base g : Heap} {outer : List Env} {L e T t : Addr} {m : Str → Option Value} {env : Env} {Q : Unit → Shared → Prop} {news : List (Addr × Obj)} {oe oT ot : Obj} {ws ts : Array Value} {nt : Nat}
theorem leave_again {cls : Value} {vs : List Value} (K : Below A base outer g) (F : Fr g L s'.heap m) (N : News g L s'.heap ((e, oe) :: (T, oT) :: (t, ot) :: news)) (hf : env.frame = some L) (hke : env.scope.kind = .function)
    (hc : oe.cls = cls) (hd : oe.data = .fields ws) (h0 : ws[0]? = some (.ref t)) (h1 : ws[1]? = some (.ref T)) (hTd : oT.data = .fields ts) (h3 : ts[3]? = some (rawInt L)) (hoc : ot.cls = .type "tuple") (hod : ot.data = .seq vs.toArray nt)
    (hn : ∀ q ∈ news, q.1 ≠ e ∧ q.1 ≠ T ∧ q.1 ≠ t) (hTe : T ≠ e)
    (hQ : ∀ h', RaisedS base g outer e cls t vs news h' → g.UpToSlots h' → Q () { s' with heap := h' }) :
    wpAny M (A.deeper env) (leaving env (.ref e)) Q E s' := by
  have K' := pushX K F hf hke
  have ee := N _ (.head _)
  have eT := N _ (.tail _ (.head _))
  have et := N _ (.tail _ (.tail _ (.head _)))
  have hmm : ∀ b, b ∈ (env :: outer).filterMap (·.frame) → b = L ∨ b ∈ outer.filterMap (·.frame) := fun b hm => by
    obtain ⟨env', he, hf'⟩ := List.mem_filterMap.mp hm
    rcases List.mem_cons.mp he with rfl | he
    · exact .inl (Option.some.inj (hf'.symm.trans hf))
    · exact .inr (List.mem_filterMap.mpr ⟨env', he, hf'⟩)
  have hin : ∀ env' ∈ (env :: outer), ∀ b, env'.frame = some b → b ∈ [e, T, t] ++ (env :: outer).filterMap (·.frame) := fun env he b hb => List.mem_append_right _ (List.mem_filterMap.mpr ⟨env, he, hb⟩)
  have be : ∀ x, x ∈ [e, T, t] → g.get? x = none := fun x hx => by
    rcases List.mem_cons.mp hx with rfl | hx
    · exact ee.2.2
    rcases List.mem_cons.mp hx with rfl | hx
    · exact eT.2.2
    rw [List.mem_singleton.mp hx]; exact et.2.2
  have st : base.StaysIn (hideAll s'.heap ([e, T, t] ++ (env :: outer).filterMap (·.frame))) := fun b o q => hideAll_get _ (K'.stays b o q) fun hm => by
    rcases List.mem_append.mp hm with hm | hm
    · rw [fresh_of_stays K.stays (be b hm)] at q; cases q
    · rw [(K'.frames.mem hm).1] at q; cases q
  have sg : ∀ b o, g.get? b = some o → b ∉ outer.filterMap (·.frame) → (hideAll s'.heap ([e, T, t] ++ (env :: outer).filterMap (·.frame))).get? b = some o := fun b o q nm => hideAll_get _ (F.keep b o q) fun hm => by
    rcases List.mem_append.mp hm with hm | hm
    · rw [be b hm] at q; cases q
    rcases hmm b hm with z | z
    · rw [z, kts_self F] at q
      cases q
    · exact nm z
  have hl : ∀ q ∈ news, (hideAll s'.heap ([e, T, t] ++ (env :: outer).filterMap (·.frame))).get? q.1 = some q.2 ∧ g.get? q.1 = none ∧ base.get? q.1 = none := fun q hq => by
    have nq := N q (.tail _ (.tail _ (.tail _ hq)))
    refine ⟨hideAll_get _ nq.1 fun hm => ?_, nq.2.2, fresh_of_stays K.stays nq.2.2⟩
    rcases List.mem_append.mp hm with hm | hm
    · have := hn q hq
      rcases List.mem_cons.mp hm with z | hm
      · exact this.1 z
      rcases List.mem_cons.mp hm with z | hm
      · exact this.2.1 z
      exact this.2.2 (List.mem_singleton.mp hm)
    rcases hmm _ hm with z | z
    · exact nq.2.1 z
    · obtain ⟨o, ho, _⟩ := (K.frames.mem z).2
      rw [nq.2.2] at ho; cases ho
  have hide : ∀ x ∈ [e, T, t], (hideAll s'.heap ([e, T, t] ++ (env :: outer).filterMap (·.frame))).get? x = none := fun x hx => hideAll_none _ (List.mem_append_left _ hx)
  have tr : s'.heap.TracedAtW (hideAll s'.heap ([e, T, t] ++ (env :: outer).filterMap (·.frame))) e cls (.ref t) (rawInt L) :=
    ⟨oe, ws, T, oT, ts, ee.1, ⟨hc, h0⟩, hd, h1, hide T (by simp), hTe, eT.1, hTd, h3⟩
  have held : Heap.HeldW (hideAll s'.heap ([e, T, t] ++ (env :: outer).filterMap (·.frame))) (env :: outer) e cls (.ref t) L s'.heap :=
    ⟨fun b o q => of_hideAll _ q, hide e (by simp), funFrames_hide K'.frames hin, tr⟩
  unfold leaving
  refine wpAny_bind (wpAny_noteFrame_againW hf tr (wpAny_landsW held fun h' hfl up => ?_))
  obtain ⟨k1, k2, ⟨_, _, k3⟩, k4⟩ := hfl
  refine hQ h' ⟨⟨_, st, sg, hl, ⟨k1, k2, k3, k4⟩, hide t (by simp)⟩, ?_⟩ ((Heap.UpToSlots.of_keeps F.keep).trans up)
  exact Heap.TupAt.of_slots ⟨ot, nt, et.1, hoc, hod⟩ up
end
section
variable {prog : Program} {w : World} {A₀ : Around} {E : Value → Shared → Prop} {s' : Shared} {base g g₀ G : Heap} {outer : List Env} {L a e t C : Addr} {m : Str → Option Value} {name : Str} {scope : Scope} {cd : Value}
  {vs : List Value} {b₀ : Stmt} {suite : List Stmt} {pos np : Pos} {rest : List ExceptHandler} {Q : Flow → Shared → Prop} {news : List (Addr × Obj)} {KF : Frag}
  {p : Program} {loose : List Str} {mean : ExcName → Option Value} {mg mb : Str → Option Value} {x : Str}
/-- an exception of an own class is caught, and its traceback is kept in sight -/
theorem caught_keep (R : RaisedS base G (envOf name scope L a cd :: outer) e (.ref C) t vs news s'.heap) (F : Fr g L G m) (K : Below A₀ base outer g) (hsm : G.UpToSlots s'.heap) (XB : KF.In base) (TB : Top p loose mean mg mb base)
    (D : KtsDicts (outer.filterMap (·.frame)) g) (T0 : KtsTurn (outer.filterMap (·.frame)) g₀ g)
    (ex : nsIn KF mainGlobals x = some (some (.ref C))) (q : ktsIn KF C "BaseException" = true)
    (k : ∀ h' g' oe T oT ot ws ts nt, KtsTurn (outer.filterMap (·.frame)) g₀ g' → Fr g' L h' m → News g' L h' ((e, oe) :: (T, oT) :: (t, ot) :: news) → oe.cls = .ref C → oe.data = .fields ws → ws[0]? = some (.ref t) → ws[1]? = some (.ref T) → oT.data = .fields ts → ts[3]? = some .none →
      ot.cls = .type "tuple" → ot.data = .seq vs.toArray nt → (∀ q ∈ news, q.1 ≠ e ∧ q.1 ≠ T ∧ q.1 ≠ t) → T ≠ e → t ≠ e → t ≠ T → Below A₀ base outer g' → KF.In g' → Top p loose mean mg mb g' → KtsDicts (outer.filterMap (·.frame)) g' →
      wpAny (model prog w) ((A₀.deeper (envOf name scope L a cd)).mark (some (.ref e))) (execs (b₀ :: suite) (envOf name scope L a cd)) Q E { s' with heap := h' })
    (hE : PassesOwnAt (model prog w) ((A₀.deeper (envOf name scope L a cd)).mark (some (.ref e))) (A₀.deeper (envOf name scope L a cd)) (envOf name scope L a cd) E)
    (hk : scope.kind = .function := by rfl) (hx : (envOf name scope L a cd).kindOf x = some .globalImplicit := by rfl) (hd : (x == ("__debug__" : Str)) = false := by decide) :
    wpAny (model prog w) (A₀.deeper (envOf name scope L a cd)) (noteFrame (.ref e) (envOf name scope L a cd))
      (fun _ s₂ => wpAny (model prog w) (A₀.deeper (envOf name scope L a cd)) (setFlight (.ref e) none) (fun _ s₃ =>
        wpAny (model prog w) (A₀.deeper (envOf name scope L a cd)) (handleBy (.ref e) (envOf name scope L a cd) (.ExceptHandler (some (.Name x np)) none (b₀ :: suite) pos :: rest)) Q E s₃) E s₂) E s' := by
  obtain ⟨⟨B, hB, hBG, hl, hfl, hnew⟩, htup⟩ := R
  have hL : B.get? L = none := by
    obtain ⟨_, ⟨L', _, hf, hn', _⟩, _⟩ := hfl.2.2.1
    obtain rfl : L = L' := Option.some.inj hf
    exact hn'
  refine wpAny_looks_onW (Around.frames_deeper K.stack) rfl hfl fun h₄ hheld₄ hsm₄ => ?_
  refine wpAny_landsW hheld₄ fun h₅ hheld hsm₅' => ?_
  have hsm₅ := hsm₄.trans hsm₅'
  obtain ⟨g₅, T₅, F₅, K₅⟩ := kts_ground K F hBG hheld.1 (hsm.trans hsm₅)
  have X₅ : KF.In g₅ := XB.keeps K₅.stays
  have P₅ : TopRead p loose mg mb g₅ := topRead_of (TB.keeps K₅.stays)
  obtain ⟨ob, hob, hobc⟩ := hheld.there
  obtain ⟨nm, q', N, bs, bm, hdct, sn, sub, ab, col, dd, k0, k1, k2, k3, k5, newId, hC, hbase, hbT⟩ := kts_cls X₅ q
  have hC₅ := F₅.keep _ _ hC
  refine wpAny_handleBy_cons (codeAny_handlers_test (name_K F₅ X₅ P₅ ex ?_ hk hx hd)) (by intro q; cases q)
  refine wpAny_excMatches_sub_self hC₅ hob hobc hbase (codeAny_handlers_suite ?_)
  refine lands_againW hheld fun h₆ hfl₆ hsm₆ => ?_
  obtain ⟨g₆, T₆, F₆, K₆⟩ := kts_ground K F hBG hfl₆.1 ((hsm.trans hsm₅).trans hsm₆)
  have hBe := hfl₆.2.1
  obtain ⟨oe, ws, T, oT, ts, hoe, ⟨hoec, hoe0⟩, hoed, hw1, hBT, hTe, hoT, hoTd, ht3⟩ := hfl₆.2.2.2
  obtain ⟨ot, nt, hot, hotc, hotd⟩ := (htup.of_slots hsm₅).of_slots hsm₆
  have up6 := (hsm.trans hsm₅).trans hsm₆
  have nofr : ∀ b ob (vs' : Array Value), h₆.get? b = some ob → ob.data = .fields vs' → ∀ o, g.get? b = some o → b ∈ outer.filterMap (·.frame) → False := fun b ob vs' hb hbd o ho m => by
    obtain ⟨_, o', ho', hd⟩ := K.frames.mem m
    rw [ho] at ho'
    cases ho'
    obtain ⟨sl, hs⟩ := up6 _ _ (F.keep _ _ ho) hd
    rw [hb] at hs
    cases hs
    exact hd _ hbd
  have ne₆ : g₆.get? e = none := T₆.none_ _ (kts_fresh F hBG hBe (nofr e oe ws hoe hoed))
  have nT₆ : g₆.get? T = none := T₆.none_ _ (kts_fresh F hBG hBT (nofr T oT ts hoT hoTd))
  have nt₆ : g₆.get? t = none := T₆.none_ _ (kts_fresh F hBG hnew fun o ho m => by
    obtain ⟨o', es, n', ho', hd⟩ := D _ m
    rw [ho] at ho'
    cases ho'
    obtain ⟨sl, hs⟩ := up6 _ _ (F.keep _ _ ho) (fun vs q => by rw [hd] at q; cases q)
    rw [hot] at hs
    cases hs
    have z := hd.symm.trans hotd
    cases z)
  have N₆ := News.more F₆ (News.more F₆ (News.more F₆ News.nil hot (fun es n q => by rw [hotd] at q; cases q) nt₆) hoT (fun es n q => by rw [hoTd] at q; cases q) nT₆) hoe (fun es n q => by rw [hoed] at q; cases q) ne₆
  have Nl : News g₆ L h₆ news := fun q hq => ⟨hfl₆.1 _ _ (hl q hq).1, (fun z => by have := (hl q hq).1; rw [z, hL] at this; cases this), T₆.none_ _ (kts_none F.keep (hl q hq).2.1)⟩
  have Na : News g₆ L h₆ ((e, oe) :: (T, oT) :: (t, ot) :: news) := fun q hq => by
    rcases List.mem_cons.mp hq with rfl | hq
    · exact N₆ _ (.head _)
    rcases List.mem_cons.mp hq with rfl | hq
    · exact N₆ _ (.tail _ (.head _))
    rcases List.mem_cons.mp hq with rfl | hq
    · exact N₆ _ (.tail _ (.tail _ (.head _)))
    exact Nl q hq
  have X₆ : KF.In g₆ := XB.keeps K₆.stays
  have P₆ : Top p loose mean mg mb g₆ := TB.keeps K₆.stays
  have D₆ : KtsDicts (outer.filterMap (·.frame)) g₆ := D.turn T₆
  have off : ∀ q ∈ news, q.1 ≠ e ∧ q.1 ≠ T ∧ q.1 ≠ t := fun q hq => by
    have hq1 := (hl q hq).1
    refine ⟨fun z => ?_, fun z => ?_, fun z => ?_⟩
    · rw [z, hBe] at hq1; cases hq1
    · rw [z, hBT] at hq1; cases hq1
    · rw [z, hnew] at hq1; cases hq1
  have hte : t ≠ e := fun z => by
    rw [z, hoe] at hot
    cases hot
    rw [hoed] at hotd
    cases hotd
  have htT : t ≠ T := fun z => by
    rw [z, hoT] at hot
    cases hot
    rw [hoTd] at hotd
    cases hotd
  exact wpAny_passesOwnAt hE (k h₆ g₆ oe T oT ot ws ts nt (T0.trans T₆) F₆ Na hoec hoed hoe0 hw1 hoTd ht3 hotc hotd off hTe hte htT K₆ X₆ P₆ D₆)
end
end

section
-- part V3
open PySem PySem.W PyProof.Rows PySem.Spec in
theorem turn_V3 {p : Program} {w : World} {A : Around} {en : Env} {Q : Flow → Shared → Prop} {E : Value → Shared → Prop} {s : Shared} (h : Q .next s) : wpAny (model p w) A (execs [] en) Q E s := by
  w_top off
  walk1
  exact h
open PySem PySem.W PyProof.Rows PySem.Calls PyProof.V PySem.Spec

local macro_rules | `(tactic| k_is) => `(tactic| with_reducible assumption)
local macro_rules | `(tactic| k_get) => `(tactic| with_reducible assumption)
local macro_rules | `(tactic| walk_at "enterT") => `(tactic| (refine' code_defS ?k1 ?k2 ?k3 ?k4 ?k5 ?XB ?TB ?D ?T0 ?kA ?k6 ?k7 ?k8 ?k9 ?kB ?_ ?cK ?c2 ?c3 ?c4 ?c5; (case kA => exact rfl); (case k2 => k_asm); (case k1 => k_asm); (case XB => assumption); (case TB => assumption); (case D => assumption); (case T0 => exact KtsTurn.refl); (case k3 => k_asm); (case k4 => k_asm); (case k5 => k_asm); (case k6 => k_is); (case k7 => k_is); (case k8 => k_room); (case k9 => exact BindsTo.of_eq rfl); (case kB => exact locs rfl); (case cK => assumption); (case c2 => exact rfl); (case c3 => exact rfl); (case c4 => exact rfl); (case c5 => decide); k_whole; intro g' L' h' FG' F' N' B' X' T' D'; (try dsimp only); (try k_lift B'); (try k_fold)))
local macro_rules | `(tactic| walk_at "setAttr ref") => `(tactic| (k_here; (with_reducible show wpAny _ _ (setAttr (Value.ref _) (PySem.Str.ofString "callbacks") _) _ _ _); k_dflt (refine' set_dict ?k1 ?k2 ?k3 ?k4 ?k5 ?k6 ?k7 ?k8 ?k9 ?k10 ?k11 ?k12 ?k13 ?_; (case k1 => k_asm); (case k2 => k_asm); (case k3 => k_asm); (case k4 => k_inst); (case k5 => exact rfl); (case k6 => k_is); (case k7 => k_is); (case k8 => k_is); (case k9 => k_is); (case k10 => exact getL_some (by with_reducible assumption)); (case k11 => apply_assumption); (case k12 => k_upd); (case k13 => with_reducible assumption); k_whole; intro h' F' N'; (try dsimp only at N'))))
local macro_rules | `(tactic| walk_at "exec For Tuple Call cons nil") => `(tactic| (k_here; with_unfolding_all refine' wpAny_For ?_; k_whole))
local macro_rules | `(tactic| walk_at "call builtin:_heapq.heappop") => `(tactic| (k_here; k_dflt (refine' pop_K ?k0 ?k1 ?k2 ?k3 ?k4 ?k5 ?k6 ?k7 ?k8 ?_; (case k1 => k_asm); (case k2 => k_asm); (case k3 => k_updF); (case k0 => with_reducible assumption); (case k4 => first | exact tups_sub (by with_reducible assumption) (by walk_at "subl") | exact tups_two (by with_reducible assumption) (by k_mem) (by walk_at "subl")); (case k5 => omega); (case k6 => with_reducible assumption); (case k7 => with_reducible assumption); (case k8 => ktr_units); k_whole); intro zs' h' pm' hp' F' N'; (try dsimp only at N'); have TYp := tups_pop (by with_reducible assumption) pm' (by with_reducible assumption) rfl; have D1p := eids_pop (by with_reducible assumption) pm'; have hzp := size_pop pm'))
local macro_rules | `(tactic| walk_at "call type:enumerate") => `(tactic| (k_here; with_unfolding_all refine' enumTg ?hh ?F ?N ?m ?c ?d ?B ?D ?E ?_; (case hh => with_unfolding_all rfl); (case F => k_asm); (case N => k_asm); (case m => k_mem); (case c => rfl); (case d => rfl); (case B => k_asm); (case D => k_asm); (case E => passes_own); refine hold_of ?_))
local macro_rules | `(tactic| walk_at "call ref") => `(tactic| (k_here; (with_reducible show wpAny _ _ (call (Value.ref _) [Value.ref _]) _ _ _); refine hold_of ?_))
local macro_rules | `(tactic| walk_at "Exists") => `(tactic| refine hold_of ?_)
local macro_rules | `(tactic| walk_at "call builtin:_heapq.heappop") => `(tactic| (k_here; k_dflt (refine' pop_K ?k0 ?k1 ?k2 ?k3 ?k4 ?k5 ?k6 ?k7 ?k8 ?_; (case k1 => k_asm); (case k2 => k_asm); (case k3 => k_updF); (case k0 => with_reducible assumption); (case k4 => first | exact tups_sub (by with_reducible assumption) (by walk_at "subl") | exact tups_two (by with_reducible assumption) (by k_mem) (by walk_at "subl")); (case k5 => omega); (case k6 => with_reducible assumption); (case k7 => with_reducible assumption); (case k8 => ktr_units); k_whole); intro zs' h' pm' hp' F' N'; (try dsimp only at N'); have TYp := tups_pop (by with_reducible assumption) pm' (by with_reducible assumption) rfl; have Dp := lt_pop (by with_reducible assumption) pm'; have D1p := eids_pop (by with_reducible assumption) pm'; have hzp := size_pop pm'))
section
variable {A₀ : Around} {base h₀ g g' : Heap} {outer : List Env} {L a : Addr} {m : Str → Option Value} {cn : Str} {cs : Scope} {ccd : Value}
theorem ground_back (B : Below A₀ base outer h₀) (D : KtsDicts (outer.filterMap (·.frame)) h₀) (F : Fr h₀ L g m) (T' : KtsTurn ((envOf cn cs L a ccd :: outer).filterMap (·.frame)) g g') :
    ∃ h₁, KtsTurn (outer.filterMap (·.frame)) h₀ h₁ ∧ Below A₀ base outer h₁ ∧ KtsDicts (outer.filterMap (·.frame)) h₁ ∧ Fr h₁ L g' m := by
  have nL₀ : h₀.get? L = none := kts_self F
  obtain ⟨T₁, S₁⟩ := kts_turn_at (h := g') (fs := outer.filterMap (·.frame)) (g := h₀)
    (fun b hb => by
      obtain ⟨_, o, ho', _⟩ := B.frames.mem hb
      exact ⟨o, ho'⟩)
    (fun b o e nmem => T'.other b o (F.keep b o e) (fun q => by
      rcases kts_mem q with z | z
      · rw [z, nL₀] at e
        cases e
      · exact nmem z))
    (fun b o e hm => T'.up (F.keep b o e))
  refine ⟨_, T₁, ⟨B.stack, fun b o e => T₁.other b o (B.stays b o e) (fun hm => by
    rw [(B.frames.mem hm).1] at e
    cases e), B.frames.of_keeps fun b o e _ => by
    obtain ⟨sl', hs'⟩ := T₁.up e
    exact ⟨_, hs', rfl⟩⟩, D.turn T₁, ⟨Heap.UpToSlots.ns (fun b o e _ => T'.up e) F.ns, S₁, by rw [T₁.size]; exact F.above⟩⟩
end
/-- a call that raises StopSimulation(None) -/
def CallSS (prog : Program) (w : World) (D U : Nat) (fn : Value) (args : List Value) (rows : List (Addr × Obj)) (R : List (Addr × Obj) → Prop) : Prop :=
  ∀ ⦃p : Program⦄ ⦃loose : List Str⦄ ⦃mean : ExcName → Option Value⦄ ⦃mg mb : Str → Option Value⦄ ⦃dp un : Nat⦄ ⦃gd : Option (List Code)⦄ ⦃cn : Str⦄ ⦃cs : Scope⦄ ⦃a : Addr⦄ ⦃ccd : Value⦄ ⦃outer : List Env⦄ ⦃A₀ : Around⦄ ⦃base h₀ : Heap⦄ ⦃L : Addr⦄ ⦃m : Str → Option Value⦄ ⦃s : Shared⦄ ⦃Q E : Value → Shared → Prop⦄,
    Below A₀ base outer h₀ → Fr h₀ L s.heap m → (Mine.kk.heap_1 w.params).In base → Top p loose mean mg mb base → CodeHd base 979 975 → KtsDicts (outer.filterMap (·.frame)) h₀ → cs.kind = .function → dp + D < recursionLimit → un + U < cLine → News h₀ L s.heap rows →
    (∀ x t g' G rows' h' tk', R rows' → KtsTurn (outer.filterMap (·.frame)) h₀ g' → Below A₀ base outer g' → KtsDicts (outer.filterMap (·.frame)) g' → Fr g' L G m → RaisedS base G (envOf cn cs L a ccd :: outer) x (.ref 499) t [.none] rows' h' → G.UpToSlots h' → E (.ref x) { s with heap := h', toks := tk' }) →
    wpAny (model prog w) (kTop none dp un gd cn cs L a ccd [] outer) (call fn args) Q E s
theorem off1 {l : List (Addr × Obj)} {x y z : Addr} (h : ∀ q ∈ l, q.1 ≠ x ∧ q.1 ≠ y ∧ q.1 ≠ z) : ∀ q ∈ l, q.1 ≠ x := fun q hq => (h q hq).1
theorem off2 {l : List (Addr × Obj)} {x y z : Addr} (h : ∀ q ∈ l, q.1 ≠ x ∧ q.1 ≠ y ∧ q.1 ≠ z) : ∀ q ∈ l, q.1 ≠ y := fun q hq => (h q hq).2.1
theorem off3 {l : List (Addr × Obj)} {x y z : Addr} (h : ∀ q ∈ l, q.1 ≠ x ∧ q.1 ≠ y ∧ q.1 ≠ z) : ∀ q ∈ l, q.1 ≠ z := fun q hq => (h q hq).2.2
theorem all_sub {l tl : List (Addr × Obj)} {x : Addr} (h : ∀ q ∈ l, q.1 ≠ x) (hs : ∀ p ∈ tl, p ∈ l) : ∀ p ∈ tl, p.1 ≠ x := fun p hp => h p (hs p hp)
theorem and3 {l : List (Addr × Obj)} {x y z : Addr} (h1 : ∀ q ∈ l, q.1 ≠ x) (h2 : ∀ q ∈ l, q.1 ≠ y) (h3 : ∀ q ∈ l, q.1 ≠ z) : ∀ q ∈ l, q.1 ≠ x ∧ q.1 ≠ y ∧ q.1 ≠ z := fun q hq => ⟨h1 q hq, h2 q hq, h3 q hq⟩
theorem set3 {ts : Array Value} {v x : Value} (h : ts[3]? = some v) : (ts.setIfInBounds 3 x)[3]? = some x := by
  have := (Array.getElem?_eq_some_iff.mp h).1
  simp [Array.getElem?_setIfInBounds, this]
local macro_rules | `(tactic| walk_at "noteFrame ref") => `(tactic| (k_here; k_dflt (refine' caught_keep (C := 499) ?R ?F ?K ?U ?XB ?TB ?D ?T0 ?ex ?q ?_ ?E; (case R => assumption); (case F => assumption); (case K => assumption); (case U => assumption); (case XB => assumption); (case TB => assumption); (case D => assumption); (case T0 => first | assumption | exact KtsTurn.refl); (case ex => k_is); (case q => kts_isx); (case E => passes_own); k_whole); intro h' g' oe' Ta' oT' ot' ws' ts' nt' Tu' F' N' hc' hd' h0' h1' hTd' h3' hoc' hod' off' n1' n2' n3' K' X' P' D'; (try k_lift K'); have of1' := off1 off'; have of2' := off2 off'; have of3' := off3 off'))
local macro_rules | `(tactic| walk_at "setAttr ref") => `(tactic| (k_here; k_dflt (refine' set_dict ?k1 ?k2 ?k3 ?k4 ?k5 ?k6 ?k7 ?k8 ?k9 ?k10 ?k11 ?k12 ?k13 ?_; (case k1 => k_asm); (case k2 => k_asm); (case k3 => k_asm); (case k4 => k_inst); (case k5 => exact rfl); (case k6 => k_is); (case k7 => k_is); (case k8 => k_is); (case k9 => k_is); (case k10 => k_get); (case k11 => k_put); (case k12 => k_upd); (case k13 => exact Nat.le_of_ble_eq_true rfl); k_whole; intro h' F' N'; (try k_sweep))))
local macro_rules | `(tactic| k_ne) => `(tactic| first | exact ne_all (by with_reducible assumption) (by k_mem) | exact ne_all' (by with_reducible assumption) (by k_mem))
local macro_rules | `(tactic| walk_at "exec Raise none none") => `(tactic| (k_here; k_dflt (refine' raise_bare ?hh ?F ?N ?m ?d ?h1 ?U ?td ?h3 ?hf ?_; (case hh => exact rfl); (case F => k_asm); (case N => k_asm); (case m => k_mem); (case d => with_reducible assumption); (case h1 => with_reducible assumption); (case U => k_updF); (case td => with_reducible assumption); (case h3 => with_reducible assumption); (case hf => exact rfl); k_whole); intro h' oT2' hT2' F' N'; (try dsimp only at N')))
local macro_rules | `(tactic| walk_at "leaving ref") => `(tactic| (k_here; refine hold_of ?_))
local macro_rules | `(tactic| k_all) => `(tactic| first | exact all_sub (by with_reducible assumption) (by walk_at "subl"))
local macro_rules | `(tactic| walk_at "allne") => `(tactic| first
  | (refine an_cons ?_ ?_; (focus ((try dsimp only); k_ne)); walk_at "allne")
  | k_all)
section
variable {prog : Program} {w : World}
theorem step_until {e ed q c cd ta ev d lb bm : Addr} {qn nb : Nat} {now t pp ee k : Int} {t1 t2 t3 t4 u1 u4 u5 a1 a2 a3 b1 b2 b3 b4 : Tok} {act : Value} {ys : Array QE} {fb : Bool} {tl : List (Addr × Obj)}
    (nd : ([e, ed, q, c, cd, ta, ev, d, lb, bm] ++ tl.map (·.1)).Nodup) (hx : ys[0]? = some ⟨ta, t, pp, ee, a1, a2, a3, .ref ev⟩)
    (TY0 : TupsIn ((ta, tupo t pp ee a1 a2 a3 (.ref ev)) :: tl) ys) (hz : ys.size < 900) (DE : ∀ x ∈ ys.toList, x.e < k) (D1 : Eids ys) (H : IsHp QE.lt ys) :
    CallSS prog w 60 300 (.ref 651) [.ref e] ((e, instObj 662 ed) :: (ed, envO w t1 t2 t3 t4 u1 now q c act) :: (q, qobj ys qn) :: (c, cntO cd fb k u4 u5) :: (cd, dictOf [] 0) :: (ta, tupo t pp ee a1 a2 a3 (.ref ev)) :: (ev, instObj 181 d) :: (d, untO w b1 b2 b3 b4 e lb) :: (lb, listO #[.ref bm] nb) :: (bm, methodObj (.ref 493) (.ref 499)) :: tl)
      (fun rows' => ∃ (t' lb' : Addr) (ws zs : Array QE) (x1 x2 x3 x4 : Tok) (qn' nb' : Nat), (QE.mk ta t pp ee a1 a2 a3 (.ref ev) :: ws.toList).Perm ys.toList ∧ zs.toList.Perm (ws.push ⟨t', t + 0, -1, k, x1, x2, x3, .ref ev⟩).toList ∧ IsHp QE.lt zs ∧
        rows' = (t', tupo (t + 0) (-1) k x1 x2 x3 (.ref ev)) :: (lb', listO #[] nb') :: (e, instObj 662 ed) :: (ed, envO w t1 t2 t3 t4 a1 t q c act) :: (q, qobj zs qn') :: (c, cntO cd fb (k + 1) x4 u5) :: (cd, dictOf [] 0) :: (ev, instObj 181 d) :: (d, untO w b1 b2 b3 b4 e lb') :: tl ∧ (rows'.map (·.1)).Nodup) := by
  intro p loose mean mg mb dp un gd cn cs a ccd outer A₀ base h₀ L m s Q E B F XB TB C0 DD hk hdp hun N ret
  refine Mine.go_of ?_
  simp (disch := k_dflt (
  have X := XB.keeps B.stays
  have T := TB.keeps B.stays
  have ndS := nd_five nd
  have nd' := nd
  simp only [List.cons_append, List.nil_append] at nd'
  walk_at "nd"
  refine wpAny_call ?_
  k_dflt (walk_at "enterT")
  rename Below _ _ (_ :: _) _ => B9
  rename KtsDicts _ _ => D9
  rename Fr h₀ _ _ _ => FG9
  k_steps
  unfold Hold
  intro I9 l1
  have l2 := lt_up l1
  unfold RestT
  intro T9 t9 h9 tk9 o19 o29 hT9 F9 N9
  k_steps
  unfold Hold
  rename News _ _ _ _ => N8
  refine' call_meth ?j1 ?j2 ?_
  case j1 => k_asm
  case j2 => k_mem
  refine' cb_stop (e := e) (tl := [(I9 + 1, o19), (I9, o29), (e, instObj 662 ed), (ed, envO w t1 t2 t3 t4 a1 t q c act), (q, qobj _ (qn + 1)), (c, cntO cd fb k u4 u5), (cd, dictOf [] 0), (lb, listO #[.ref bm] nb)] ++ tl) ?nd B9 ?F ?X ?T ?C ?hk ?dp ?un ?N ?ret
  case F => k_asm
  case X => k_asm
  case T => k_asm
  case C => exact C0
  case hk => exact rfl
  case dp => ktr_room
  case un => ktr_units
  case N => exact news_rows N8 (by simp only [List.cons_append, List.nil_append]; walk_at "rows")
  case nd =>
    simp only [List.cons_append, List.nil_append, List.map_cons]
    first | (walk_at "newnd") | fail
  clear N8
  intro x6 t6 G6 rows6 h6 tk6 hR6 F6 R6 U6
  subst hR6
  dsimp only [List.cons_append, List.nil_append] at R6 ⊢
  k_steps
  unfold Hold
  rename News _ _ _ _ => N5
  rename List.Perm (List.cons _ _) _ => pm4
  rename List.Perm _ (Array.toList (Array.push _ _)) => pm5
  rename IsHp QE.lt _ => hp5
  rename KtsTurn _ _ _ => Tu5
  rename Obj.data _ = Data.fields (Array.setIfInBounds _ _ _) => hT5
  obtain ⟨h₁, Tg1, Bg1, Dg1, Fg1⟩ := ground_back B DD FG9 Tu5
  refine' leave_again (cls := .ref 499) (vs := [.none]) (news := [(_, tupo _ _ _ _ _ _ _), (_, listO #[] _), (e, instObj 662 ed), (ed, envO w t1 t2 t3 t4 a1 t q c act), (q, _), (c, _), (cd, _), (ev, _), (d, _)] ++ tl) ?K5 ?F5 ?N5 rfl rfl ?hc5 ?hd5 ?h05 ?h15 hT5 ?h35 ?hoc5 ?hod5 ?hn5 ?hTe5 ?_
  case K5 => k_asm
  case F5 => k_asm
  case hc5 => with_reducible assumption
  case hd5 => with_reducible assumption
  case h05 => with_reducible assumption
  case h15 => with_reducible assumption
  case h35 => exact set3 (by with_reducible assumption)
  case hoc5 => with_reducible assumption
  case hod5 => with_reducible assumption
  case hTe5 => with_reducible assumption
  case N5 =>
    simp only [List.cons_append, List.nil_append]
    exact news_rows N5 (by walk_at "rows")
  case hn5 =>
    simp only [List.cons_append, List.nil_append]
    first | (exact and3 (by walk_at "allne") (by walk_at "allne") (by walk_at "allne")) | fail
  intro h4 R4 U4
  refine' ret _ _ _ _ _ _ _ ⟨_, _, _, _, _, _, _, _, _, _, pm4, pm5, hp5, rfl, ?nd9⟩ Tg1 Bg1 Dg1 Fg1 R4 U4
  case nd9 =>
    simp only [List.cons_append, List.nil_append, List.map_cons]
    first | (walk_at "newnd") | fail)) only [↓Mine.go_eq]
end
end

section
-- part U2
open PySem PySem.W PyProof.Rows PySem.Spec in
theorem turn_U2 {p : Program} {w : World} {A : Around} {en : Env} {Q : Flow → Shared → Prop} {E : Value → Shared → Prop} {s : Shared} (h : Q .next s) : wpAny (model p w) A (execs [] en) Q E s := by
  w_top off
  walk1
  exact h
open PySem PySem.W PyProof.Rows PySem.Calls PyProof.V PySem.Spec

local macro_rules | `(tactic| k_is) => `(tactic| with_reducible assumption)
local macro_rules | `(tactic| k_get) => `(tactic| with_reducible assumption)
local macro_rules | `(tactic| walk_at "enterT") => `(tactic| (refine' code_defS ?k1 ?k2 ?k3 ?k4 ?k5 ?XB ?TB ?D ?T0 ?kA ?k6 ?k7 ?k8 ?k9 ?kB ?_ ?cK ?c2 ?c3 ?c4 ?c5; (case kA => exact rfl); (case k2 => k_asm); (case k1 => k_asm); (case XB => assumption); (case TB => assumption); (case D => assumption); (case T0 => exact KtsTurn.refl); (case k3 => k_asm); (case k4 => k_asm); (case k5 => k_asm); (case k6 => k_is); (case k7 => k_is); (case k8 => k_room); (case k9 => exact BindsTo.of_eq rfl); (case kB => exact locs rfl); (case cK => assumption); (case c2 => exact rfl); (case c3 => exact rfl); (case c4 => exact rfl); (case c5 => decide); k_whole; intro g' L' h' FG' F' N' B' X' T' D'; (try dsimp only); (try k_lift B'); (try k_fold)))
local macro_rules | `(tactic| walk_at "setAttr ref") => `(tactic| (k_here; (with_reducible show wpAny _ _ (setAttr (Value.ref _) (PySem.Str.ofString "callbacks") _) _ _ _); k_dflt (refine' set_dict ?k1 ?k2 ?k3 ?k4 ?k5 ?k6 ?k7 ?k8 ?k9 ?k10 ?k11 ?k12 ?k13 ?_; (case k1 => k_asm); (case k2 => k_asm); (case k3 => k_asm); (case k4 => k_inst); (case k5 => exact rfl); (case k6 => k_is); (case k7 => k_is); (case k8 => k_is); (case k9 => k_is); (case k10 => exact getL_some (by with_reducible assumption)); (case k11 => apply_assumption); (case k12 => k_upd); (case k13 => with_reducible assumption); k_whole; intro h' F' N'; (try dsimp only at N'))))
local macro_rules | `(tactic| walk_at "exec For Tuple Call cons nil") => `(tactic| (k_here; with_unfolding_all refine' wpAny_For ?_; k_whole))
local macro_rules | `(tactic| walk_at "call builtin:_heapq.heappop") => `(tactic| (k_here; k_dflt (refine' pop_K ?k0 ?k1 ?k2 ?k3 ?k4 ?k5 ?k6 ?k7 ?k8 ?_; (case k1 => k_asm); (case k2 => k_asm); (case k3 => k_updF); (case k0 => with_reducible assumption); (case k4 => first | exact tups_sub (by with_reducible assumption) (by walk_at "subl") | exact tups_two (by with_reducible assumption) (by k_mem) (by walk_at "subl")); (case k5 => omega); (case k6 => with_reducible assumption); (case k7 => with_reducible assumption); (case k8 => ktr_units); k_whole); intro zs' h' pm' hp' F' N'; (try dsimp only at N'); have TYp := tups_pop (by with_reducible assumption) pm' (by with_reducible assumption) rfl; have D1p := eids_pop (by with_reducible assumption) pm'; have hzp := size_pop pm'))
local macro_rules | `(tactic| walk_at "call type:enumerate") => `(tactic| (k_here; with_unfolding_all refine' enumTg ?hh ?F ?N ?m ?c ?d ?B ?D ?E ?_; (case hh => with_unfolding_all rfl); (case F => k_asm); (case N => k_asm); (case m => k_mem); (case c => rfl); (case d => rfl); (case B => k_asm); (case D => k_asm); (case E => passes_own); refine hold_of ?_))
local macro_rules | `(tactic| walk_at "call ref") => `(tactic| (k_here; (with_reducible show wpAny _ _ (call (Value.ref _) [Value.ref _]) _ _ _); refine hold_of ?_))
local macro_rules | `(tactic| walk_at "Exists") => `(tactic| refine hold_of ?_)
section
variable {prog : Program} {w : World}
theorem step_two {D U : Nat} {e ed q c ta ev d lb bm tn tf pr pd C : Addr} {es es' pes : List DictEntry} {n n' qn nb pn : Nat} {now t pp ee : Int} {t1 t2 t3 t4 u1 a1 a2 a3 : Tok} {act : Value} {ys : Array QE} {tl : List (Addr × Obj)} {R1 R : Array QE → List (Addr × Obj) → Prop}
    (hfn : fnIn (Mine.kk.heap_1 w.params) tf = true) (hC : EvC w.params C) (hcb : getL ("callbacks" : Str) es = some (some (.ref lb))) (hput : ∀ tk, (putL ("callbacks" : Str) (PyData.keyHash w.params ("callbacks" : Str)) (.str ("callbacks" : Str) tk) .none es, putN ("callbacks" : Str) es n) = (es', n')) (hln : es'.length ≤ 1000) (hok : getL ("_ok" : Str) es' = some (some (.bool true)))
    (nd : ([e, ed, q, ta, ev, d, lb, bm, pr, pd] ++ tl.map (·.1)).Nodup) (hx : ys[0]? = some ⟨ta, t, pp, ee, a1, a2, a3, .ref ev⟩)
    (TY0 : TupsIn ((ta, tupo t pp ee a1 a2 a3 (.ref ev)) :: tl) ys) (hz : ys.size < 900) (D1 : Eids ys) (H : IsHp QE.lt ys)
    (cb1 : ∀ (ws : Array QE) (xt : List (Addr × Obj)), (QE.mk ta t pp ee a1 a2 a3 (.ref ev) :: ws.toList).Perm ys.toList → IsHp QE.lt ws → ([e, ed, q, ev, d, lb, bm, pr, pd] ++ (xt ++ tl).map (·.1)).Nodup → CodeOk prog w D U (.ref tf) [.ref tn, .ref ev]
      ((e, instObj 662 ed) :: (ed, envO w t1 t2 t3 t4 a1 t q c act) :: (q, qobj ws (qn + 1)) :: (ev, instObj C d) :: (d, dictOf es' n') :: (lb, listO #[.ref bm, .ref pr] nb) :: (bm, methodObj (.ref tf) (.ref tn)) :: (pr, instObj 301 pd) :: (pd, dictOf pes pn) :: (xt ++ tl))
      (fun v rows' => v = .none ∧ LeavesRows ((e, instObj 662 ed) :: (ev, instObj C d) :: (d, dictOf es' n') :: (lb, listO #[.ref bm, .ref pr] nb) :: (pr, instObj 301 pd) :: (pd, dictOf pes pn) :: xt) (R1 ws) rows'))
    (cb2 : ∀ (ws : Array QE) (xt tl1 : List (Addr × Obj)), (QE.mk ta t pp ee a1 a2 a3 (.ref ev) :: ws.toList).Perm ys.toList → R1 ws tl1 → ([e, ev, d, lb, pr, pd] ++ (xt ++ tl1).map (·.1)).Nodup → CallT prog w D U (.ref pr) [.ref ev]
      ((e, instObj 662 ed) :: (ev, instObj C d) :: (d, dictOf es' n') :: (lb, listO #[.ref bm, .ref pr] nb) :: (pr, instObj 301 pd) :: (pd, dictOf pes pn) :: (xt ++ tl1))
      (fun v rows' => v = .none ∧ LeavesRows ((e, instObj 662 ed) :: (ev, instObj C d) :: (d, dictOf es' n') :: (lb, listO #[.ref bm, .ref pr] nb) :: xt) (R ws) rows')) :
    CallT prog w (D + 20) (U + 100) (.ref 651) [.ref e] ((e, instObj 662 ed) :: (ed, envO w t1 t2 t3 t4 u1 now q c act) :: (q, qobj ys qn) :: (ta, tupo t pp ee a1 a2 a3 (.ref ev)) :: (ev, instObj C d) :: (d, dictOf es n) :: (lb, listO #[.ref bm, .ref pr] nb) :: (bm, methodObj (.ref tf) (.ref tn)) :: (pr, instObj 301 pd) :: (pd, dictOf pes pn) :: tl)
      (fun v rows' => v = .none ∧ ∃ (ws : Array QE), (QE.mk ta t pp ee a1 a2 a3 (.ref ev) :: ws.toList).Perm ys.toList ∧ IsHp QE.lt ws ∧ LeavesRows [(e, instObj 662 ed), (ev, instObj C d), (d, dictOf es' n'), (lb, listO #[.ref bm, .ref pr] nb)] (R ws) rows') := by
  intro p loose mean mg mb dp un gd cn cs a ccd outer A₀ base h₀ L m s Q E B F XB TB C0 DD hk hdp hun N ret
  refine Mine.go_of ?_
  simp (disch := k_dflt (
  have X := XB.keeps B.stays
  have T := TB.keeps B.stays
  have nd' := nd
  simp only [List.cons_append, List.nil_append] at nd'
  walk_at "nd"
  obtain ⟨c1, c2, c3, c4, c5, c6, c7, c8, c9, c10⟩ := hC
  refine wpAny_call ?_
  k_dflt (walk_at "enterT")
  rename Below _ _ (_ :: _) _ => B9
  rename KtsDicts _ _ => D9
  k_steps
  unfold Hold
  intro I9 l1
  have l2 := lt_up l1
  unfold RestT
  intro T9 t9 h9 tk9 o19 o29 hT9 F9 N9
  k_steps
  unfold Hold
  rename News _ _ _ _ => N8
  rename List.Perm _ _ => pm9
  rename IsHp QE.lt _ => hp9
  refine' call_meth ?j1 ?j2 ?_
  case j1 => k_asm
  case j2 => k_mem
  rename Fr _ _ _ _ => F6o
  refine' cb1 _ [(I9 + 1, o19), (I9, o29)] pm9 hp9 ?nd B9 ?F ?X ?T ?C ?hk ?dp ?un ?N ?ret
  case nd =>
    simp only [List.cons_append, List.nil_append, List.map_cons]
    walk_at "newnd"
  case F => k_asm
  case X => k_asm
  case T => k_asm
  case C => exact C0
  case hk => exact rfl
  case dp => ktr_room
  case un => ktr_units
  case N => exact news_rows N8 (by simp only [List.cons_append, List.nil_append]; walk_at "rows")
  clear N8
  intro v6 rows6 h6 tk6 hR6 F6 N6
  obtain ⟨rfl, tl6, rfl, nd6, hR6⟩ := hR6
  k_steps
  unfold Hold
  refine ⟨_, _, _, _, [(e, instObj 662 ed), (ev, instObj C d), (d, dictOf es' n'), (lb, listO #[.ref bm, .ref pr] nb), (pr, instObj 301 pd), (pd, dictOf pes pn)] ++ tl6, rfl, ⟨KtsTurn.refl, B9, D9⟩, F6, ?N, ?m, ?o, ?r⟩
  case N => exact news_rows N6 (by simp only [List.cons_append, List.nil_append]; walk_at "rows")
  case m => simp only [List.cons_append, List.nil_append]; k_mem
  case o => exact off_two (x := (I9 + 1, o19)) (y := (I9, o29)) nd6
  clear N6
  unfold RestT
  intro T5 t5 h5 tk5 o15 o25 hT5 F5 N5
  dsimp only [List.cons_append, List.nil_append] at N5
  have nd6' := nd6
  simp only [List.cons_append, List.nil_append, List.map_cons] at nd6'
  walk_at "nd"
  k_steps
  unfold Hold
  rename News _ _ _ _ => N4
  refine' cb2 _ [(I9 + 1, o15), (I9, o25)] tl6 pm9 hR6 ?nd2 ?B2 ?F2 ?XB2 ?TB2 ?C2 ?DD2 ?hk2 ?dp2 ?un2 ?N2 ?ret2
  case nd2 =>
    simp only [List.cons_append, List.nil_append, List.map_cons]
    walk_at "newnd"
  case B2 => k_asm
  case F2 => k_asm
  case XB2 => exact XB
  case TB2 => exact TB
  case C2 => exact C0
  case DD2 => k_asm
  case hk2 => exact rfl
  case dp2 => ktr_room
  case un2 => ktr_units
  case N2 => exact news_rows N4 (by simp only [List.cons_append, List.nil_append]; walk_at "rows")
  clear N4
  intro v8 rows8 h8 tk8 g8 hR8 T8' B8 D8 F8 N8
  have T8 := T8'
  obtain ⟨rfl, tl8, rfl, nd8, hR8⟩ := hR8
  have X8 := XB.keeps B8.stays
  have P8 := TB.keeps B8.stays
  k_steps
  unfold Hold
  refine ⟨g8, _, _, _, [(e, instObj 662 ed), (ev, instObj C d), (d, dictOf es' n'), (lb, listO #[.ref bm, .ref pr] nb)] ++ tl8, rfl, ⟨T8, B8, D8⟩, F8, ?N3, ?m3, ?o3, ?r3⟩
  case N3 => exact news_rows N8 (by simp only [List.cons_append, List.nil_append]; walk_at "rows")
  case m3 => simp only [List.cons_append, List.nil_append]; k_mem
  case o3 => exact off_two (x := (I9 + 1, o15)) (y := (I9, o25)) nd8
  clear N8
  unfold RestT
  intro h7 tk7 F7 N7
  have nd7 := nd_off_two (A := [(e, instObj 662 ed), (ev, instObj C d), (d, dictOf es' n'), (lb, listO #[.ref bm, .ref pr] nb)]) (x := (I9 + 1, o15)) (y := (I9, o25)) nd8
  dsimp only [List.cons_append, List.nil_append] at N7
  k_steps
  refine' ret _ _ _ _ _ ⟨rfl, _, pm9, hp9, tl8, rfl, nd7, hR8⟩ ?kT ?kB ?kD ?kF ?kN
  case kT => with_reducible assumption
  case kB => with_reducible assumption
  case kD => with_reducible assumption
  case kF => with_reducible assumption
  case kN => assumption)) only [↓Mine.go_eq]
end
end

section
-- part W0
open PySem PySem.W PyProof.Rows PySem.Spec in
theorem turn_W0 {p : Program} {w : World} {A : Around} {en : Env} {Q : Flow → Shared → Prop} {E : Value → Shared → Prop} {s : Shared} (h : Q .next s) : wpAny (model p w) A (execs [] en) Q E s := by
  w_top off
  walk1
  exact h
open PySem PySem.W PyProof.Rows PySem.Calls PyProof.V PySem.Spec

section
variable {prog : Program} {w : World} {A : Around} {E : Value → Shared → Prop} {env : Env} {test : PySem.Expr} {body orelse : List Stmt} {Q : Flow → Shared → Prop}
theorem whl_ind {I : Nat → Shared → Prop} (hE : PassesOwn (model prog w) A env E)
    (turn : ∀ n s, I n s → wpAny (model prog w) A (isTrue test env (eval test env)) (fun b s₂ => WhlIf b (wpAny (model prog w) A (execs body env) (fun f s₃ => match f with
      | .ret v => Q (.ret v) s₃
      | .brk => Q .next s₃
      | _ => ∃ n', n' < n ∧ I n' s₃) E s₂) (wpAny (model prog w) A (execs orelse env) Q E s₂)) E s) : ∀ n s, I n s → WhlRest prog w A E env test body orelse Q 0 s := by
  intro n
  induction n using Nat.strongRecOn with
  | _ n ih =>
    intro s hI
    refine whl_turn (k := 0) hE (wpAny_mono (turn n s hI) (fun b s₂ h₂ => ?_) fun _ _ e => e)
    cases b with
    | false => exact h₂
    | true =>
      refine wpAny_mono h₂ (fun f s₃ h₃ => ?_) fun _ _ e => e
      cases f with
      | ret v => exact h₃
      | brk => exact h₃
      | next =>
        obtain ⟨n', hn, hI'⟩ := h₃
        exact ih n' hn s₃ hI'
      | cont =>
        obtain ⟨n', hn, hI'⟩ := h₃
        exact ih n' hn s₃ hI'
end
/-- the environment's two rows -/
abbrev envR (w : World) (e ed q c : Addr) (t1 t2 t3 t4 u : Tok) (now : Int) (act : Value) : List (Addr × Obj) := [(e, instObj 662 ed), (ed, envO w t1 t2 t3 t4 u now q c act)]
def RunI (w : World) (e ed q c : Addr) (t1 t2 t3 t4 : Tok) (Inv : Nat → Tok → Int → Value → List (Addr × Obj) → Prop) (A : Around) (base : Heap) (outer : List Env) (g₀ : Heap) (L : Addr) (m : Str → Option Value) (s : Shared) (n : Nat) (s' : Shared) : Prop :=
  ∃ u now act tl g h tk, s' = { s with heap := h, toks := tk } ∧ Inv n u now act tl ∧ TgOf A base outer g₀ g ∧ Fr g L h m ∧ News g L h ((e, instObj 662 ed) :: (ed, envO w t1 t2 t3 t4 u now q c act) :: tl)
def quietIn (K : Frag) (C : Addr) (bmB : List Value) (newId : String) : Bool := match K.lookup C with
  | some ⟨.type "type", _, .cls cd, sl⟩ => (match cd.mro, sl.toList with
    | .ref C' :: bm, [_, _, _, _, some (.builtin n), _] => C' == C && n == newId && !cd.hasDel && bm == bmB && nsOkIn K cd.ns && quietNames.all fun n => nsIn K cd.ns n == some none
    | _, _ => false)
  | _ => false
theorem quiet_of_in {K : Frag} {h₀ : Heap} {mg mb : Str → Option Value} {p : Program} {loose : List Str} {x : Str} {C : Addr} {bmB : List Value} {newId : String} (X : K.In h₀) (T : TopRead p loose mg mb h₀) (e : nsIn K mainGlobals x = some (some (.ref C))) (q : quietIn K C bmB newId = true) : OwnClsQ x C bmB newId mg h₀ := by
  refine ⟨mg_of X T.g e, ?_⟩
  unfold quietIn at q
  split at q
  · rename_i dd cd sl ho
    split at q
    · rename_i C' bm k0 k1 k2 k3 n k5 hm hs
      simp only [Bool.and_eq_true, beq_iff_eq, Bool.not_eq_true'] at q
      obtain ⟨⟨⟨⟨⟨rfl, rfl⟩, hdel⟩, rfl⟩, hok⟩, hni⟩ := q
      obtain ⟨nm, bs, mro, ns, qn, hd, sn, sub, ab, col, del⟩ := cd
      dsimp only at hm hdel hok hni
      subst hm hdel
      have hsl : sl = #[k0, k1, k2, k3, some (.builtin n), k5] := by
        obtain ⟨l⟩ := sl
        simp only at hs
        rw [hs]
      subst hsl
      refine ⟨bm, ns, nm, qn, bs, hd, sn, sub, ab, col, dd, k0, k1, k2, k3, k5, _, X _ _ ho, .of_isNs (isNs_of_in X hok), fun n hn => nsMap_none_of_in X hok ?_, .base⟩
      have := List.all_eq_true.mp hni n hn
      exact beq_iff_eq.mp this
    · cases q
  · cases q
theorem ss_quiet {P : Params} : quietIn (Mine.kk.heap_1 P) 499 [.type "Exception", .type "BaseException", .type "object"] "Exception.__new__" = true := by kernel_rfl
section
variable {prog : Program} {w : World} {A : Around} {E : Value → Shared → Prop} {s : Shared} {h₀ : Heap} {L e t : Addr} {m : Str → Option Value} {news : List (Addr × Obj)} {oe ot : Obj} {ws : Array Value} {nt : Nat} {mg mb : Str → Option Value} {p : Program} {loose : List Str}
theorem ss_args {expr : Bool} {Q : Value → Shared → Prop} (F : Fr h₀ L s.heap m) (X : (Mine.kk.heap_1 w.params).In h₀) (T : TopRead p loose mg mb h₀) (en' : nsIn (Mine.kk.heap_1 w.params) mainGlobals ("StopSimulation" : Str) = some (some (.ref 499))) (N : News h₀ L s.heap news) (hm : (e, oe) ∈ news) (hc : oe.cls = .ref 499) (hd : oe.data = .fields ws) (h0 : ws[0]? = some (.ref t)) (h : Q (.ref t) { s with toks := s.toks + 1 }) :
    wpAny (model prog w) A (getAttr (.ref e) ("args" : Str) expr) Q E s := by
  obtain ⟨hp, g, d, tk, os⟩ := s
  exact args_of_own PySem.F.attrBase_Exception ((quiet_of_in X T en' ss_quiet).keeps F.keep) (N _ hm).1 hc hd h0 h
end
end

section
-- part W1
open PySem PySem.W PyProof.Rows PySem.Spec in
theorem turn_W1 {p : Program} {w : World} {A : Around} {en : Env} {Q : Flow → Shared → Prop} {E : Value → Shared → Prop} {s : Shared} (h : Q .next s) : wpAny (model p w) A (execs [] en) Q E s := by
  w_top off
  walk1
  exact h
open PySem PySem.W PyProof.Rows PySem.Calls PyProof.V PySem.Spec

section
variable {prog : Program} {w : World} {A₀ A : Around} {s : Shared} {base h₀ : Heap} {L a : Addr} {m : Str → Option Value} {cn : Str} {cs : Scope} {ccd : Value} {cl : List (Str × Addr)} {news : List (Addr × Obj)} {K : Frag} {p : Program} {loose : List Str} {mean : ExcName → Option Value} {mg mb : Str → Option Value}
    {R : Result → Shared → Prop} {name qual : Str} {params : Arguments} {body : List Stmt} {scope : Scope} {dV kV doc pm cdv ct oc : Value} {an od : Option Addr} {osl : Array (Option Value)} {f : Addr} {args : Args} {binds : List (Str × Value)}
/-- a call from the law's own frame (which has cells), within which the ground may turn -/
theorem code_defSL (B : Below A₀ base [] h₀) (F : Fr h₀ L s.heap m) (X₀ : K.In h₀) (N : News h₀ L s.heap news) (T : Top p loose mean mg mb h₀) (hA : A.frames = some [envX cn cs L a ccd cl])
    (ho : K.lookup f = some ⟨oc, od, .func (fnOf name qual params body scope dV kV doc pm an cdv ct), osl⟩) (hcd : codeIn K cdv qual = true) (hroom : A.depth < recursionLimit)
    (hbind : BindsTo s (fnOf name qual params body scope dV kV doc pm an cdv ct) args binds) (hloc : ∀ y ∈ binds, scope.names.lookup y.1 = some .local)
    (h : ∀ g L' h₁, Fr h₀ L g m → Fr g L' h₁ (fun y => binds.reverse.lookup y) → News g L' h₁ news → Below A base [envX cn cs L a ccd cl] g → K.In g → Top p loose mean mg mb g → KtsDicts ([envX cn cs L a ccd cl].filterMap (·.frame)) g →
      wpAny (model prog w) (A.deeper (envOf qual scope L' f cdv)) (execs body (envOf qual scope L' f cdv))
        (fun fl s' => LeaveS0 ([envX cn cs L a ccd cl].filterMap (·.frame)) h₀ L m g R (match fl with | .ret v => v | _ => .none) s')
        (fun e s' => wpAny (model prog w) (A.deeper (envOf qual scope L' f cdv)) (leaving (envOf qual scope L' f cdv) e) (fun _ s'' => R (.error e) s'') (fun e' s'' => R (.error e') s'') s')
        { s with heap := h₁, toks := s.toks + binds.length })
    (hck : cs.kind = .function) (hco : scope.isCoroutine = false) (hgen : scope.isGenerator = false) (hk : scope.kind = .function)
    (hcell : ∀ x ∈ scope.names, x.2 ≠ .cell) : codeAny (model prog w) A (.call (.ref f) args) R s := by
  have X := X₀.keeps F.keep
  obtain ⟨FG, BG, st, _⟩ := groundX (R := R) B F N hA rfl hck
  obtain ⟨oL, es, ep, hL, hd, hk1, hf1⟩ := FG.ns
  refine codeAny_call_def (fd := fnOf name qual params body scope dV kV doc pm an cdv ct) (body := body) (binds := binds) hroom (X _ _ ho) rfl (T.nolimit.keeps F.keep) (codeRec_of X hcd) rfl hbind hcell hloc (fun h₁ hns hk₁ => ?_) hco hgen hk
  refine wpAny_mono (h _ s.heap.objs.size h₁ FG ⟨hns, fun b o e => hk₁ b o (of_hideAll _ e), Nat.le_of_eq (hideAll_size _ _)⟩
    (fun p hp => ⟨hk₁ _ _ (N p hp).1, Nat.ne_of_lt (Heap.lt_size (N p hp).1), hideAll_none _ (List.mem_map_of_mem hp)⟩) BG (X₀.keeps st) (T.keeps st) (fun b hb => ?_)) (fun fl s' hl => ?_) fun _ _ y => y
  · rcases List.mem_cons.mp hb with rfl | hb
    · exact ⟨oL, es, ep, hL, hd⟩
    · exact nomatch hb
  · obtain ⟨g', L', m', news', T', F', N', k⟩ := hl
    obtain ⟨sl, hs⟩ := T'.up hL
    have old : ∀ b o, h₀.get? b = some o → g'.get? b = some o := fun b o e => T'.other b o (st b o e) fun hb => by
      rcases List.mem_cons.mp hb with z | hb
      · have := kts_self F
        rw [z, this] at e
        exact nomatch e
      · exact nomatch hb
    refine k ⟨⟨_, es, ep, F'.keep _ _ hs, hd, hk1, hf1⟩, fun b o e => F'.keep b o (old b o e), F.above⟩ fun p hp => ⟨(N' p hp).1, fun q => ?_, ?_⟩
    · have := (N' p hp).2.2
      rw [q, hs] at this
      exact nomatch this
    · cases q : h₀.get? p.1 with
      | none => rfl
      | some o =>
        have := (N' p hp).2.2
        rw [old _ _ q] at this
        exact nomatch this
end
local macro_rules | `(tactic| walk_at "enterK") => `(tactic| (refine' code_defSL ?k1 ?k2 ?k3 ?k4 ?k5 ?kA ?k6 ?k7 ?k8 ?k9 ?kB ?_ ?cK ?c2 ?c3 ?c4 ?c5; (case kA => exact rfl); (case k2 => k_asm); (case k1 => k_asm); (case k3 => k_asm); (case k4 => k_asm); (case k5 => k_asm); (case k6 => k_is); (case k7 => k_is); (case k8 => k_room); (case k9 => exact binds_K (by k_in) rfl (by k_is) rfl rfl rfl); (case kB => exact locs rfl); (case cK => assumption); (case c2 => exact rfl); (case c3 => exact rfl); (case c4 => exact rfl); (case c5 => decide); k_whole; intro g' L' h' FG' F' N' B' X' T' D'; (try dsimp only); (try k_lift B'); (try k_fold)))
local macro_rules | `(tactic| walk_at "exec While Constant cons nil") => `(tactic| (k_here; refine whl_start 0 (hold_of ?_)))
local macro_rules | `(tactic| walk_at "Exists") => `(tactic| refine hold_of ?_)
local macro_rules | `(tactic| walk_at "call ref") => `(tactic| (k_here; (with_reducible show wpAny _ _ (call (Value.ref 651) _) _ _ _); refine hold_of ?_))
local macro_rules | `(tactic| walk_at "getAttr ref") => `(tactic| (k_here; (with_reducible show wpAny _ _ (getAttr (Value.ref _) ("args" : Str) _) _ _ _); refine hold_of ?_))
section
variable {prog : Program} {w : World}
/-- what run asks of the world: it starts, and each step keeps it or ends it -/
def Start (w : World) (e ed q c cd : Addr) (t1 t2 t3 t4 : Tok) (qn : Nat) (now at' k : Int) (u1 u4 u5 : Tok) (act : Value) (ys : Array QE) (fb : Bool) (tl : List (Addr × Obj)) (Inv : Nat → Tok → Int → Value → List (Addr × Obj) → Prop) : Prop :=
  ∀ (q' t' x' d' l' : Addr) (zs : Array QE) (x1 x2 x3 x4 y1 y2 y3 y4 : Tok), zs.toList.Perm (ys.push ⟨t', now + (at' - now), 0, k, x1, x2, x3, .ref x'⟩).toList → IsHp QE.lt zs → ([q', t', l', x', d', e, ed, q, c, cd] ++ tl.map (·.1)).Nodup →
    ∃ n, Inv n u1 now act ((q, qobj zs (qn + 1)) :: (c, cntO cd fb (k + 1) x4 u5) :: (cd, dictOf [] 0) :: (t', tupo (now + (at' - now)) 0 k x1 x2 x3 (.ref x')) :: (x', instObj 181 d') :: (d', untO w y1 y2 y3 y4 e l') :: (l', listO #[.ref q'] 1) :: (q', methodObj (.ref 493) (.ref 499)) :: tl)
theorem start_go {w : World} {e ed q c cd : Addr} {t1 t2 t3 t4 : Tok} {qn : Nat} {now at' k : Int} {u1 u4 u5 : Tok} {act : Value} {ys : Array QE} {fb : Bool} {tl : List (Addr × Obj)} {Inv : Nat → Tok → Int → Value → List (Addr × Obj) → Prop}
    (hs : Start w e ed q c cd t1 t2 t3 t4 qn now at' k u1 u4 u5 act ys fb tl Inv) {g h : Heap} {L q' t' x' d' l' : Addr} {zs : Array QE} {x1 x2 x3 x4 y1 y2 y3 y4 : Tok}
    (N : News g L h ((q', methodObj (.ref 493) (.ref 499)) :: (t', tupo (now + (at' - now)) 0 k x1 x2 x3 (.ref x')) :: (l', listO #[.ref q'] 1) :: (x', instObj 181 d') :: (d', untO w y1 y2 y3 y4 e l') :: (e, instObj 662 ed) :: (ed, envO w t1 t2 t3 t4 u1 now q c act) :: (q, qobj zs (qn + 1)) :: (c, cntO cd fb (k + 1) x4 u5) :: (cd, dictOf [] 0) :: tl))
    (pm : zs.toList.Perm (ys.push ⟨t', now + (at' - now), 0, k, x1, x2, x3, .ref x'⟩).toList) (hp : IsHp QE.lt zs) (nd : ([q', t', l', x', d', e, ed, q, c, cd] ++ tl.map (·.1)).Nodup) :
    ∃ n tl', Inv n u1 now act tl' ∧ News g L h ((e, instObj 662 ed) :: (ed, envO w t1 t2 t3 t4 u1 now q c act) :: tl') := by
  obtain ⟨n, hI⟩ := hs q' t' x' d' l' zs x1 x2 x3 x4 y1 y2 y3 y4 pm hp nd
  refine ⟨n, _, hI, news_rows N ?_⟩
  refine an_cons (by simp) (an_cons (by simp) (an_cons (by simp) (an_cons (by simp) (an_cons (by simp) (an_cons (by simp) (an_cons (by simp) (an_cons (by simp) (an_cons (by simp) (an_cons (by simp) fun p hp => ?_)))))))))
  exact .tail _ (.tail _ (.tail _ (.tail _ (.tail _ (.tail _ (.tail _ (.tail _ (.tail _ (.tail _ hp)))))))))
def Steps (prog : Program) (w : World) (D U : Nat) (e ed q c : Addr) (t1 t2 t3 t4 : Tok) (Inv : Nat → Tok → Int → Value → List (Addr × Obj) → Prop) (Done : List (Addr × Obj) → Prop) : Prop :=
  ∀ n u now act tl, Inv n u now act tl →
    CallT prog w D U (.ref 651) [.ref e] ((e, instObj 662 ed) :: (ed, envO w t1 t2 t3 t4 u now q c act) :: tl) (fun v rows' => v = .none ∧ ∃ n' u' now' act' tl', n' < n ∧ Inv n' u' now' act' tl' ∧ rows' = (e, instObj 662 ed) :: (ed, envO w t1 t2 t3 t4 u' now' q c act') :: tl') ∨
    CallSS prog w D U (.ref 651) [.ref e] ((e, instObj 662 ed) :: (ed, envO w t1 t2 t3 t4 u now q c act) :: tl) Done
theorem run_l {D U : Nat} {e ed q c cd : Addr} {qn : Nat} {now at' k : Int} {t1 t2 t3 t4 u1 u4 u5 au kt : Tok} {act : Value} {ys : Array QE} {fb : Bool} {tl : List (Addr × Obj)}
    (nd : ([e, ed, q, c, cd] ++ tl.map (·.1)).Nodup) (hz : ys.size < 900) (DE : ∀ x ∈ ys.toList, x.e < k) (D1 : Eids ys) (H : IsHp QE.lt ys) (TY0 : TupsIn tl ys) (hat : now < at')
    {Inv : Nat → Tok → Int → Value → List (Addr × Obj) → Prop} {Done : List (Addr × Obj) → Prop} (hs : Start w e ed q c cd t1 t2 t3 t4 qn now at' k u1 u4 u5 act ys fb tl Inv) (hst : Steps prog w D U e ed q c t1 t2 t3 t4 Inv Done) :
    ∀ ⦃p : Program⦄ ⦃loose : List Str⦄ ⦃mean : ExcName → Option Value⦄ ⦃mg mb : Str → Option Value⦄ ⦃dp un : Nat⦄ ⦃gd : Option (List Code)⦄ ⦃cn : Str⦄ ⦃cs : Scope⦄ ⦃a : Addr⦄ ⦃ccd : Value⦄ ⦃cl : List (Str × Addr)⦄ ⦃A₀ : Around⦄ ⦃base h₀ : Heap⦄ ⦃L : Addr⦄ ⦃m : Str → Option Value⦄ ⦃s : Shared⦄ ⦃Rr : Result → Shared → Prop⦄,
    Below A₀ base [] h₀ → Fr h₀ L s.heap m → (Mine.kk.heap_1 w.params).In base → Top p loose mean mg mb base → CodeHd base 979 975 → cs.kind = .function → dp + (D + 60) < recursionLimit → un + (U + 300) < cLine →
    News h₀ L s.heap ((e, instObj 662 ed) :: (ed, envO w t1 t2 t3 t4 u1 now q c act) :: (q, qobj ys qn) :: (c, cntO cd fb k u4 u5) :: (cd, dictOf [] 0) :: tl) →
    (∀ rows' h' tk', Done rows' → Fr h₀ L h' m → News h₀ L h' rows' → Rr (.ok (.ret .none)) { s with heap := h', toks := tk' }) →
    codeAny (model prog w) (kTop none dp un gd cn cs L a ccd cl []) (.call (.ref 659) ⟨[.ref e], [(("until" : Str), .int at' au)]⟩) Rr s := by
  intro p loose mean mg mb dp un gd cn cs a ccd cl A₀ base h₀ L m s Rr B F XB TB C0 hk hdp hun N ret
  refine Mine.go_of ?_
  simp (disch := k_dflt (
  have X := XB.keeps B.stays
  have T := TB.keeps B.stays
  have ndS := nd_five nd
  have nd' := nd
  simp only [List.cons_append, List.nil_append] at nd'
  walk_at "nd"
  k_dflt (walk_at "enterK")
  rename Below _ _ (_ :: _) _ => B9
  rename KtsDicts _ _ => D9
  k_steps
  unfold Hold
  rename News _ _ _ _ => N5
  rename Fr _ _ _ _ => F5
  rename List.Perm _ _ => pm5
  rename IsHp QE.lt _ => hp5
  obtain ⟨n5, tl5, hI5, N6⟩ := start_go hs N5 pm5 hp5 (by simp only [List.cons_append, List.nil_append]; first | (walk_at "newnd") | fail)
  clear N5 hs
  refine' whl_ind (I := RunI w e ed q c t1 t2 t3 t4 Inv _ _ _ _ _ _ s) ?hE ?turn n5 _ ⟨_, _, _, _, _, _, _, rfl, hI5, ⟨KtsTurn.refl, B9, D9⟩, F5, N6⟩
  case hE => first | passes_own | with_unfolding_all passes_own
  clear N6 F5 hI5
  rintro n8 s8 ⟨u8, now8, act8, tl8, g8, h8, tk8, rfl, hI8, ⟨T8, B8, D8⟩, F8, N8⟩
  have X8 := XB.keeps B8.stays
  have P8 := TB.keeps B8.stays
  k_steps
  unfold Hold
  rcases hst _ _ _ _ _ hI8 with hc | hc
  · refine' hc ?B1 ?F1 ?XB1 ?TB1 ?C1 ?DD1 ?hk1 ?dp1 ?un1 ?N1 ?ret1
    case B1 => k_asm
    case F1 => k_asm
    case XB1 => exact XB
    case TB1 => exact TB
    case C1 => exact C0
    case DD1 => k_asm
    case hk1 => exact rfl
    case dp1 => ktr_room
    case un1 => ktr_units
    case N1 => k_asm
    intro v7 rows7 h7 tk7 g7 hR7 T7 B7 D7 F7 N7
    obtain ⟨rfl, n7, u7, now7, act7, tl7, hn7, hI7, rfl⟩ := hR7
    have X7 := XB.keeps B7.stays
    have P7 := TB.keeps B7.stays
    k_steps
    unfold Hold
    exact ⟨n7, hn7, u7, now7, act7, tl7, g7, _, _, rfl, hI7, ⟨T8.trans T7, B7, D7⟩, F7, N7⟩
  · refine' hc ?B2 ?F2 ?XB2 ?TB2 ?C2 ?DD2 ?hk2 ?dp2 ?un2 ?N2 ?ret2
    case B2 => k_asm
    case F2 => k_asm
    case XB2 => exact XB
    case TB2 => exact TB
    case C2 => exact C0
    case DD2 => k_asm
    case hk2 => exact rfl
    case dp2 => ktr_room
    case un2 => ktr_units
    case N2 => k_asm
    intro x7 t7 g7 G7 rows7 h7 tk7 hR7 T7 B7 D7 F7 R7 U7
    have X7 := XB.keeps B7.stays
    have P7 := TB.keeps B7.stays
    have T77 := T8.trans T7
    k_steps
    unfold Hold
    rename Got _ _ _ _ _ => gt9
    rename News _ _ _ rows7 => nw9
    revert nw9
    rename News _ _ _ _ => nw8
    intro nw9
    obtain ⟨oe9, ot9, ws9, nt9, N9, hc9, hd9, h09, hoc9, hod9⟩ := news_got nw8 nw9 gt9
    clear nw8 nw9 gt9
    refine' ss_args ?F3 ?X3 ?T3 ?e3 N9 (.head _) hc9 hd9 h09 ?_
    case F3 => k_asm
    case X3 => k_asm
    case T3 => k_asm
    case e3 => k_is
    k_steps
    refine' PyProof.Rows.item_tuple (j := 0) ⟨ot9, (N9 _ (.tail _ (.head _))).1, hoc9, nt9, hod9⟩ ?a4 ?b4 ?c4 ?d4 ?_
    case a4 => decide
    case b4 => decide
    case c4 => rfl
    case d4 => rfl
    k_steps
    refine' ret _ _ _ hR7 ?kF ?kN
    case kF => with_reducible assumption
    case kN => exact news_rows (by assumption) (fun p hp => .tail _ (.tail _ hp)))) only [↓Mine.go_eq]
end
end
end Mine
end

section
-- part X1
open PySem PySem.W PyProof.Rows PySem.Spec in
theorem Mine.turn_X1 {p : Program} {w : World} {A : Around} {en : Env} {Q : Flow → Shared → Prop} {E : Value → Shared → Prop} {s : Shared} (h : Q .next s) : wpAny (model p w) A (execs [] en) Q E s := by
  w_top off
  walk1
  exact h
open PySem PySem.W PyProof.Rows PySem.Calls PyProof.V PySem.Spec
namespace Mine

/-! consequences -/
section
variable {prog : Program} {w : World} {D U : Nat} {fn : Value} {args : List Value} {rows rows₀ : List (Addr × Obj)}
theorem CallOk.conseq {R R' : Value → List (Addr × Obj) → Prop} (h : CallOk prog w D U fn args rows R) {D' U' : Nat} (hD : D ≤ D') (hU : U ≤ U') (hs : ∀ p ∈ rows, p ∈ rows₀) (hr : ∀ v r, R v r → ∃ r', (∀ p ∈ r', p ∈ r) ∧ R' v r') : CallOk prog w D' U' fn args rows₀ R' :=
  fun _ _ _ _ _ _ _ _ _ _ _ _ _ _ _ _ _ _ _ _ _ _ B F X T C hk hd hu N ret => h B F X T C hk (by omega) (by omega) (news_rows N hs) fun v r h' tk' hR F' N' => by
    obtain ⟨r', hs', hR'⟩ := hr v r hR
    exact ret v r' h' tk' hR' F' (news_rows N' hs')
theorem CallT.conseq {R R' : Value → List (Addr × Obj) → Prop} (h : CallT prog w D U fn args rows R) {D' U' : Nat} (hD : D ≤ D') (hU : U ≤ U') (hs : ∀ p ∈ rows, p ∈ rows₀) (hr : ∀ v r, R v r → ∃ r', (∀ p ∈ r', p ∈ r) ∧ R' v r') : CallT prog w D' U' fn args rows₀ R' :=
  fun _ _ _ _ _ _ _ _ _ _ _ _ _ _ _ _ _ _ _ _ _ B F X T C DD hk hd hu N ret => h B F X T C DD hk (by omega) (by omega) (news_rows N hs) fun v r h' tk' g' hR T' B' D' F' N' => by
    obtain ⟨r', hs', hR'⟩ := hr v r hR
    exact ret v r' h' tk' g' hR' T' B' D' F' (news_rows N' hs')
theorem CodeOk.conseq {R R' : Value → List (Addr × Obj) → Prop} (h : CodeOk prog w D U fn args rows R) {D' U' : Nat} (hD : D ≤ D') (hU : U ≤ U') (hs : ∀ p ∈ rows, p ∈ rows₀) (hr : ∀ v r, R v r → ∃ r', (∀ p ∈ r', p ∈ r) ∧ R' v r') : CodeOk prog w D' U' fn args rows₀ R' :=
  fun _ _ _ _ _ _ _ _ _ _ _ _ _ _ _ _ _ _ _ _ _ B F X T C hk hd hu N ret => h B F X T C hk (by omega) (by omega) (news_rows N hs) fun v r h' tk' hR F' N' => by
    obtain ⟨r', hs', hR'⟩ := hr v r hR
    exact ret v r' h' tk' hR' F' (news_rows N' hs')
theorem raised_sub {base G h : Heap} {l : List Env} {e t : Addr} {cls : Value} {vs : List Value} {r r' : List (Addr × Obj)} (R : RaisedS base G l e cls t vs r h) (hs : ∀ p ∈ r', p ∈ r) : RaisedS base G l e cls t vs r' h := by
  obtain ⟨⟨B, hB, hBG, hl, hfl, hnew⟩, htup⟩ := R
  exact ⟨⟨B, hB, hBG, fun q hq => hl q (hs q hq), hfl, hnew⟩, htup⟩
theorem CallS.conseq {R R' : List (Addr × Obj) → Prop} (h : CallS prog w D U fn args rows R) {D' U' : Nat} (hD : D ≤ D') (hU : U ≤ U') (hs : ∀ p ∈ rows, p ∈ rows₀) (hr : ∀ r, R r → ∃ r', (∀ p ∈ r', p ∈ r) ∧ R' r') : CallS prog w D' U' fn args rows₀ R' :=
  fun _ _ _ _ _ _ _ _ _ _ _ _ _ _ _ _ _ _ _ _ _ _ B F X T C hk hd hu N ret => h B F X T C hk (by omega) (by omega) (news_rows N hs) fun x t G r h' tk' hR F' Ra U' => by
    obtain ⟨r', hs', hR'⟩ := hr r hR
    exact ret x t G r' h' tk' hR' F' (raised_sub Ra hs') U'
theorem CallSS.conseq {R R' : List (Addr × Obj) → Prop} (h : CallSS prog w D U fn args rows R) {D' U' : Nat} (hD : D ≤ D') (hU : U ≤ U') (hs : ∀ p ∈ rows, p ∈ rows₀) (hr : ∀ r, R r → ∃ r', (∀ p ∈ r', p ∈ r) ∧ R' r') : CallSS prog w D' U' fn args rows₀ R' :=
  fun _ _ _ _ _ _ _ _ _ _ _ _ _ _ _ _ _ _ _ _ _ B F X T C DD hk hd hu N ret => h B F X T C DD hk (by omega) (by omega) (news_rows N hs) fun x t g' G r h' tk' hR T' B' D' F' Ra U' => by
    obtain ⟨r', hs', hR'⟩ := hr r hR
    exact ret x t g' G r' h' tk' hR' T' B' D' F' (raised_sub Ra hs') U'
end
/-! pairwise different keys, by counting -/
def one (x a : Addr) : Nat := if x = a then 1 else 0
theorem cnt_cons {x a : Addr} {l : List Addr} : (x :: l).count a = l.count a + one x a := by
  rw [List.count_cons]
  unfold one
  simp
theorem cnt_nil {a : Addr} : ([] : List Addr).count a = 0 := rfl
theorem cnt_app {a : Addr} {l r : List Addr} : (l ++ r).count a = l.count a + r.count a := List.count_append
theorem nd_cnt {l : List Addr} : l.Nodup ↔ ∀ a, l.count a ≤ 1 := List.nodup_iff_count
theorem nd_le {l l' : List Addr} (h : l.Nodup) (hc : ∀ a, l'.count a ≤ l.count a) : l'.Nodup := nd_cnt.mpr fun a => Nat.le_trans (hc a) (nd_cnt.mp h a)
end Mine
end

section
-- part X2
open PySem PySem.W PyProof.Rows PySem.Spec in
theorem Mine.turn_X2 {p : Program} {w : World} {A : Around} {en : Env} {Q : Flow → Shared → Prop} {E : Value → Shared → Prop} {s : Shared} (h : Q .next s) : wpAny (model p w) A (execs [] en) Q E s := by
  w_top off
  walk1
  exact h
open PySem PySem.W PyProof.Rows PySem.Calls PyProof.V PySem.Spec
namespace Mine

/-! the processes -/
structure Pc where
  i : Int
  comes : Int
  amt : Int
  puts : Bool
  pr : Addr
inductive Ph
  | s0 (y : QE) (ie : Addr)
  | s1 (y : QE) (te : Addr)
  | s2 (x : WE)
  | s3 (y : QE) (x : WE)
  | s4 (y : QE) (x : WE)
  | s5 (x : WE)
/-- what does not change -/
structure Fx where
  w : World
  e : Addr
  ed : Addr
  q : Addr
  c : Addr
  cd : Addr
  tn : Addr
  td : Addr
  pq : Addr
  gq : Addr
  ask : Addr
  tol : Addr
  room : Int
  t1 : Tok
  t2 : Tok
  t3 : Tok
  t4 : Tok
  r1 : Tok
  r2 : Tok
  r3 : Tok
  r4 : Tok
  r5 : Tok
  v1 : Tok
  u5 : Tok
  fb : Bool
  c' : Addr
  oc : Obj
  tab : Obj
/-- a process's own things -/
structure Co where
  pd : Addr
  l2 : Addr
  st : Addr
  sd : Addr
  f : Addr
  sl : Addr
  k1 : Addr
  k2 : Addr
  k3 : Addr
  k4 : Addr
  k5 : Addr
  k6 : Addr
  k7 : Addr
  k8 : Addr
  k9 : Addr
  o1 : Obj
  o2 : Obj
  o3 : Obj
  o4 : Obj
  o5 : Obj
  o6 : Obj
  o7 : Obj
  o8 : Obj
  o9 : Obj
  d1 : Tok
  d2 : Tok
  d3 : Tok
  d4 : Tok
  g1 : Tok
  n2 : Nat
  n3 : Nat
  dc : Value
  nm : Value
  ct : Value
  nu : Tok
  cu : Tok
  au : Tok
structure CoOk (X : Fx) (p : Pc) (C : Co) : Prop where
  h1 : C.o1.data = .cell (some (.ref X.tol))
  h2 : C.o2.data = .cell (some (.ref X.tn))
  h3 : C.o3.data = .cell (some (.ref C.sl))
  h4 : C.o4.data = .cell (some (.bool p.puts))
  h5 : C.o5.data = .cell (some (.int p.i C.nu))
  h6 : C.o6.data = .cell (some (.ref X.e))
  h7 : C.o7.data = .cell (some (.int p.comes C.cu))
  h8 : C.o8.data = .cell (some (.ref X.ask))
  h9 : C.o9.data = .cell (some (.int p.amt C.au))
/-- a process's rows while it lives -/
abbrev coR (X : Fx) (p : Pc) (C : Co) (tg : Addr) (svs : Array Value) : List (Addr × Obj) :=
  [(p.pr, instObj 301 C.pd), (C.pd, prcO X.w C.d1 C.d2 C.d3 C.d4 X.e C.l2 C.st tg), (C.l2, listO #[] C.n2), (C.st, instObj 962 C.sd), (C.sd, stpO X.w C.g1 C.f), (C.f, deedO X.w.params C.k1 C.k2 C.k3 C.k4 C.k5 C.k6 C.k7 C.k8 C.k9 C.dc C.nm X.c' C.ct), (C.sl, listO svs C.n3),
    (C.k1, C.o1), (C.k2, C.o2), (C.k3, C.o3), (C.k4, C.o4), (C.k5, C.o5), (C.k6, C.o6), (C.k7, C.o7), (C.k8, C.o8), (C.k9, C.o9)]
abbrev cls (b : Bool) : Addr := if b then 850 else 871
abbrev trg (b : Bool) : Addr := if b then 824 else 810
/-- a waiting one's dict when its callbacks have been called -/
abbrev WE.gone (w : World) (env tk : Addr) (x : WE) (t6 t7 : Tok) : Obj := dictOf [en w "amount" x.t1 (.int x.amt x.u), en w "env" x.t2 (.ref env), en w "callbacks" x.t3 .none, en w "resource" x.t4 (.ref tk), en w "proc" x.t5 (.ref x.pr), en w "_ok" t6 (.bool true), en w "_value" t7 .none] 7
inductive PRow (X : Fx) (p : Pc) : Ph → List (Addr × Obj) → Prop
  | s0 {y : QE} {ie id lb : Addr} {b1 b2 b3 b4 : Tok} {n1 : Nat} {C : Co} : CoOk X p C → y.t = 0 → y.p = 0 → y.v = .ref ie →
      PRow X p (.s0 y ie) ((y.a, y.obj) :: (ie, instObj 229 id) :: (id, iniO X.w b1 b2 b3 b4 X.e lb) :: (lb, listO #[.ref p.pr] n1) :: coR X p C ie #[])
  | s1 {y : QE} {te td' tb : Addr} {b1 b2 b3 b4 b5 u : Tok} {n1 : Nat} {C : Co} : CoOk X p C → y.t = p.comes → y.p = 1 → y.v = .ref te →
      PRow X p (.s1 y te) ((y.a, y.obj) :: (te, instObj 210 td') :: (td', tmoO X.w b1 b2 b3 b4 b5 u X.e tb p.comes) :: (tb, listO #[.ref p.pr] n1) :: coR X p C te #[.none])
  | s2 {x : WE} {bm : Addr} {nb : Nat} {C : Co} : CoOk X p C → x.amt = p.amt → x.pr = p.pr →
      PRow X p (.s2 x) ((x.cb, listO #[.ref bm, .ref p.pr] nb) :: (bm, methodObj (.ref (trg p.puts)) (.ref X.tn)) :: coR X p C x.e #[.none, .none])
  | s3 {y : QE} {x : WE} {bm : Addr} {nb : Nat} {C : Co} {t6 t7 : Tok} : CoOk X p C → x.amt = p.amt → x.pr = p.pr → y.p = 1 → y.v = .ref x.e →
      PRow X p (.s3 y x) ((y.a, y.obj) :: (x.e, instObj (cls p.puts) x.d) :: (x.d, x.done X.w X.e X.tn t6 t7) :: (x.cb, listO #[.ref bm, .ref p.pr] nb) :: (bm, methodObj (.ref (trg p.puts)) (.ref X.tn)) :: coR X p C x.e #[.none, .none])
  | s4 {y : QE} {x : WE} {pd l2 st : Addr} {b1 b2 b3 b4 b5 b6 t6 t7 : Tok} {n2 : Nat} : y.p = 1 → y.v = .ref p.pr →
      PRow X p (.s4 y x) ((y.a, y.obj) :: (x.e, instObj (cls p.puts) x.d) :: (x.d, x.gone X.w X.e X.tn t6 t7) :: (p.pr, instObj 301 pd) :: (pd, endO X.w b1 b2 b3 b4 b5 b6 X.e l2 st) :: [(l2, listO #[] n2)])
  | s5 {x : WE} {t6 t7 : Tok} : PRow X p (.s5 x) [(x.e, instObj (cls p.puts) x.d), (x.d, x.gone X.w X.e X.tn t6 t7)]
def Ph.pend : Ph → List QE
  | .s0 y _ => [y]
  | .s1 y _ => [y]
  | .s2 _ => []
  | .s3 y _ => [y]
  | .s4 y _ => [y]
  | .s5 _ => []
def Ph.left : Ph → Nat
  | .s0 .. => 5
  | .s1 .. => 4
  | .s2 .. => 3
  | .s3 .. => 2
  | .s4 .. => 1
  | .s5 .. => 0
end Mine
end

section
-- part X3
open PySem PySem.W PyProof.Rows PySem.Spec in
theorem Mine.turn_X3 {p : Program} {w : World} {A : Around} {en : Env} {Q : Flow → Shared → Prop} {E : Value → Shared → Prop} {s : Shared} (h : Q .next s) : wpAny (model p w) A (execs [] en) Q E s := by
  w_top off
  walk1
  exact h
open PySem PySem.W PyProof.Rows PySem.Calls PyProof.V PySem.Spec
namespace Mine

theorem sub_appr {A B tl : List (Addr × Obj)} (h : ∀ p ∈ tl, p ∈ B) : ∀ p ∈ tl, p ∈ A ++ B := fun p hp => List.mem_append_right _ (h p hp)
theorem sub_appl {A B tl : List (Addr × Obj)} (h : ∀ p ∈ tl, p ∈ A) : ∀ p ∈ tl, p ∈ A ++ B := fun p hp => List.mem_append_left _ (h p hp)
theorem app_sub {A B l : List (Addr × Obj)} (h1 : ∀ p ∈ A, p ∈ l) (h2 : ∀ p ∈ B, p ∈ l) : ∀ p ∈ A ++ B, p ∈ l := fun p hp => (List.mem_append.mp hp).elim (h1 p) (h2 p)
theorem nil_sub {l : List (Addr × Obj)} : ∀ p ∈ ([] : List (Addr × Obj)), p ∈ l := fun _ h => nomatch h
local macro_rules | `(tactic| walk_at "subl") => `(tactic| first
  | exact fun _ h => h
  | exact fun _ h => List.mem_append_left _ h
  | exact nil_sub
  | (refine app_sub ?_ ?_; (focus walk_at "rows"); walk_at "rows")
  | (refine sub_cons ?_; walk_at "subl")
  | (refine sub_appr ?_; walk_at "subl"))
local macro_rules | `(tactic| walk_at "inl") => `(tactic| first | exact .head _ | (refine List.Mem.tail _ ?_; walk_at "inl") | (refine List.mem_append_right _ ?_; walk_at "inl") | (refine List.mem_append_left _ ?_; walk_at "inl"))
local macro_rules | `(tactic| walk_at "rows") => `(tactic| first | (refine an_cons (by walk_at "inl") ?_; walk_at "rows") | (walk_at "subl"))
abbrev eR (X : Fx) (u : Tok) (now : Int) (act : Value) : List (Addr × Obj) := [(X.e, instObj 662 X.ed), (X.ed, envO X.w X.t1 X.t2 X.t3 X.t4 u now X.q X.c act)]
abbrev qR (X : Fx) (ys : Array QE) (qn : Nat) (k : Int) (u4 : Tok) : List (Addr × Obj) := [(X.q, qobj ys qn), (X.c, cntO X.cd X.fb k u4 X.u5), (X.cd, dictOf [] 0)]
local macro_rules | `(tactic| k_cells $Y:ident) => `(tactic| (refine nd_le $Y fun _ => ?_; simp only [eR, qR, coR, List.drop_succ_cons, List.drop_zero, List.map_append, List.map_cons, List.map_nil, List.cons_append, List.nil_append, cnt_app, cnt_cons, cnt_nil, Nat.zero_add]; omega))
local macro_rules | `(tactic| walk_at "sub") => `(tactic| (simp only [iniO, tmoO, untO, prcO, endO, stpO, eR, qR, coR, List.drop_succ_cons, List.drop_zero, List.cons_append, List.nil_append, List.append_assoc]; first | (refine sub_cnt fun p9 => ?_; simp only [cp_app, cp_cons, cp_nil, Nat.zero_add, Nat.add_zero]; omega) | (walk_at "rows") | fail "rows"))
structure OcOk (X : Fx) : Prop where
  h : ∃ (vs : Array Value) (qt : Tok), X.oc.data = .fields vs ∧ vs[1]? = some (.str "_law_one.<locals>.deed" qt)
section
variable {prog : Program} {X : Fx} {p : Pc}
theorem lstep0 {y : QE} {ie : Addr} {l T : List (Addr × Obj)} {now k : Int} {u1 u4 : Tok} {act : Value} {ys : Array QE} {qn : Nat} (R : PRow X p (.s0 y ie) l) (hc : 0 ≤ p.comes) (O : OcOk X)
    (nd : ((eR X u1 now act ++ (qR X ys qn k u4 ++ ((X.c', X.oc) :: (l ++ T)))).map (·.1)).Nodup) (hx : ys[0]? = some y) (TY : TupsIn ((y.a, y.obj) :: T) ys) (hz : ys.size < 900) (DE : ∀ x ∈ ys.toList, x.e < k) (D1 : Eids ys) (H : IsHp QE.lt ys) :
    CallT prog X.w 100 500 (.ref 651) [.ref X.e] (eR X u1 now act ++ (qR X ys qn k u4 ++ ((X.c', X.oc) :: (l ++ T))))
      (fun v rows' => v = .none ∧ ∃ (ws zs : Array QE) (y' : QE) (te : Addr) (l' : List (Addr × Obj)) (qn' : Nat) (u4' : Tok), (y :: ws.toList).Perm ys.toList ∧ zs.toList.Perm (ws.push y').toList ∧ IsHp QE.lt zs ∧ y'.e = k ∧ PRow X p (.s1 y' te) l' ∧
        rows' = eR X y.u1 y.t .none ++ (qR X zs qn' (k + 1) u4' ++ ((X.c', X.oc) :: (l' ++ T))) ∧ (rows'.map (·.1)).Nodup) := by
  refine Mine.go_of ?_
  simp (disch := k_dflt (
  obtain ⟨vs, qt, hoc, hvs⟩ := O.h
  cases R with
  | @s0 _ _ id lb b1 b2 b3 b4 n1 C ck h1 h2 h3 =>
  obtain ⟨ta, t, pp, ee, a1, a2, a3, v⟩ := y
  dsimp only at h1 h2 h3
  subst h1 h2 h3
  refine CallT.conseq (step_one (D := 50) (U := 300) (C := 229) (e := X.e) (ed := X.ed) (q := X.q) (c := X.c) (ta := ta) (ev := ie) (d := id) (now := now) (t := 0) (pp := 0) (ee := ee) (t1 := X.t1) (t2 := X.t2) (t3 := X.t3) (t4 := X.t4) (u1 := u1) (a1 := a1) (a2 := a2) (a3 := a3) (act := act) (qn := qn) (nb := n1) (pn := 4) (es := [en X.w "env" b1 (.ref X.e), en X.w "callbacks" b2 (.ref lb), en X.w "_value" b3 .none, en X.w "_ok" b4 (.bool true)]) (n := 4)
    (es' := [en X.w "env" b1 (.ref X.e), en X.w "callbacks" b2 .none, en X.w "_value" b3 .none, en X.w "_ok" b4 (.bool true)]) (n' := 4) (lb := lb) (pr := p.pr) (pd := C.pd) (pes := [en X.w "env" C.d1 (.ref X.e), en X.w "callbacks" C.d2 (.ref C.l2), en X.w "_generator" C.d3 (.ref C.st), en X.w "_target" C.d4 (.ref ie)]) (tl := [(X.c, cntO X.cd X.fb k u4 X.u5), (X.cd, dictOf [] 0), (X.c', X.oc)] ++ ((coR X p C ie #[]).drop 2 ++ T))
    (R := fun ws tl' => ∃ (zs : Array QE) (y' : QE) (te : Addr) (l' : List (Addr × Obj)) (qn' : Nat) (u4' : Tok) (l0 : List (Addr × Obj)), zs.toList.Perm (ws.push y').toList ∧ IsHp QE.lt zs ∧ y'.e = k ∧ PRow X p (.s1 y' te) l' ∧ tl' = (X.ed, envO X.w X.t1 X.t2 X.t3 X.t4 a1 0 X.q X.c .none) :: (qR X zs qn' (k + 1) u4' ++ ((X.c', X.oc) :: (l0 ++ (l' ++ T)))))
    evc_ini rfl (fun _ => rfl) (Nat.le_of_ble_eq_true rfl) rfl ?nd hx ?TY hz D1 H ?cb) ?h1 ?h2 ?sub ?post
  case nd => k_cells nd
  case TY => exact tups_two TY (.head _) fun p hp => .tail _ (List.mem_append_right _ (List.mem_append_right _ hp))
  case sub => (simp only [iniO, tmoO, untO, prcO, endO, stpO, eR, qR, coR, List.drop_succ_cons, List.drop_zero, List.cons_append, List.nil_append, List.append_assoc]; first | (walk_at "rows") | fail "rows")
  case h1 => omega
  case h2 => omega
  case post =>
    rintro v r ⟨rfl, ws, pm, hp, tl', rfl, nd', zs, y', te, l', qn', u4', l0, pm2, hp2, hk, hP, rfl⟩
    refine ⟨_, ?_, rfl, ws, zs, y', te, l', qn', u4', pm, pm2, hp2, hk, hP, rfl, ?_⟩
    · (simp only [iniO, tmoO, untO, prcO, endO, stpO, eR, qR, coR, List.drop_succ_cons, List.drop_zero, List.cons_append, List.nil_append, List.append_assoc]; first | (walk_at "rows") | fail "rows")
    · k_cells nd'
  case cb =>
    intro ws xt pm hp ndx
    have TYw := tups_pop TY pm D1 rfl
    have DW := lt_pop DE pm
    have D1w := eids_pop D1 pm
    have szw := size_pop pm
    have hres := resume_ok (prog := prog) (w := X.w) (D := 30) (U := 200) (e := X.e) (ed := X.ed) (pr := p.pr) (pd := C.pd) (st := C.st) (sd := C.sd) (ev := ie) (d := id) (f := C.f) (q := X.q) (c := X.c) (tg := ie) (l2 := C.l2) (C := 229) (now := 0) (t1 := X.t1) (t2 := X.t2) (t3 := X.t3) (t4 := X.t4) (u1 := a1) (d1 := C.d1) (d2 := C.d2) (d3 := C.d3) (d4 := C.d4) (g1 := C.g1) (act := act)
      (k1 := C.k1) (k2 := C.k2) (k3 := C.k3) (k4 := C.k4) (k5 := C.k5) (k6 := C.k6) (k7 := C.k7) (k8 := C.k8) (k9 := C.k9) (c' := X.c') (dc := C.dc) (nm := C.nm) (ct := C.ct)
      (es := [en X.w "env" b1 (.ref X.e), en X.w "callbacks" b2 .none, en X.w "_value" b3 .none, en X.w "_ok" b4 (.bool true)]) (n := 4)
      (tl := (X.q, qobj ws (qn + 1)) :: (X.c, cntO X.cd X.fb k u4 X.u5) :: (X.cd, dictOf [] 0) :: (X.c', X.oc) :: (lb, listO #[.ref p.pr] n1) :: (C.l2, listO #[] C.n2) :: (C.sl, listO #[] C.n3) :: (C.k1, C.o1) :: (C.k2, C.o2) :: (C.k3, C.o3) :: (C.k4, C.o4) :: (C.k5, C.o5) :: (C.k6, C.o6) :: (C.k7, C.o7) :: (C.k8, C.o8) :: (C.k9, C.o9) :: (xt ++ T))
      (R := fun x C' d' es' n' cb' vs' nb' tl' => ∃ (tt : Addr) (zs : Array QE) (x1 x2 x3 x4 y1 y2 y3 y4 y5 : Tok) (qn' n3' : Nat), C' = 210 ∧ es' = [en X.w "env" y1 (.ref X.e), en X.w "callbacks" y2 (.ref cb'), en X.w "_value" y3 .none, en X.w "_delay" y4 (.int p.comes C.cu), en X.w "_ok" y5 (.bool true)] ∧ n' = 5 ∧ vs' = #[] ∧
        zs.toList.Perm (ws.push ⟨tt, 0 + p.comes, 1, k, x1, x2, x3, .ref x⟩).toList ∧ IsHp QE.lt zs ∧
        tl' = (tt, tupo (0 + p.comes) 1 k x1 x2 x3 (.ref x)) :: (X.q, qobj zs qn') :: (X.c, cntO X.cd X.fb (k + 1) x4 X.u5) :: (X.cd, dictOf [] 0) :: (X.c', X.oc) :: (C.st, instObj 962 C.sd) :: (C.sd, stpO X.w C.g1 C.f) :: (C.f, deedO X.w.params C.k1 C.k2 C.k3 C.k4 C.k5 C.k6 C.k7 C.k8 C.k9 C.dc C.nm X.c' C.ct) :: (C.sl, listO #[.none] n3') :: (C.l2, listO #[] C.n2) ::
          (C.k1, C.o1) :: (C.k2, C.o2) :: (C.k3, C.o3) :: (C.k4, C.o4) :: (C.k5, C.o5) :: (C.k6, C.o6) :: (C.k7, C.o7) :: (C.k8, C.o8) :: (C.k9, C.o9) ::
          (ie, instObj 229 id) :: (id, dictOf [en X.w "env" b1 (.ref X.e), en X.w "callbacks" b2 .none, en X.w "_value" b3 .none, en X.w "_ok" b4 (.bool true)] 4) :: (lb, listO #[.ref p.pr] n1) :: (xt ++ T))
      evc_ini rfl rfl ?nd2 ?deed
    refine CallT.conseq (CallOk.turn hres) ?h12 ?h22 ?sub2 ?post2
    case nd2 => k_cells ndx
    case h12 => omega
    case h22 => omega
    case sub2 => (simp only [iniO, tmoO, untO, prcO, endO, stpO, eR, qR, coR, List.drop_succ_cons, List.drop_zero, List.cons_append, List.nil_append, List.append_assoc]; first | (walk_at "rows") | fail "rows")
    case post2 =>
      rintro v r ⟨rfl, x, C', d', es', n', cb', vs', nb', nb'', tl', ⟨tt, zs, x1, x2, x3, x4, y1, y2, y3, y4, y5, qn', n3', rfl, rfl, rfl, rfl, pm2, hp2, rfl⟩, rfl, nd3⟩
      refine ⟨_, ?_, rfl, _, rfl, ?_, zs, ⟨tt, 0 + p.comes, 1, k, x1, x2, x3, .ref x⟩, x, _, qn', x4, [], pm2, hp2, rfl, PRow.s1 (te := x) (td' := d') (tb := cb') (b1 := y1) (b2 := y2) (b3 := y3) (b4 := y4) (b5 := y5) (u := C.cu) (n1 := nb'') (C := { C with n3 := n3' }) ?_ ?_ rfl rfl, rfl⟩
      · (simp only [iniO, tmoO, untO, prcO, endO, stpO, eR, qR, coR, List.drop_succ_cons, List.drop_zero, List.cons_append, List.nil_append, List.append_assoc]; first | (walk_at "rows") | fail "rows")
      · k_cells nd3
      · exact ⟨ck.h1, ck.h2, ck.h3, ck.h4, ck.h5, ck.h6, ck.h7, ck.h8, ck.h9⟩
      · show 0 + p.comes = p.comes
        omega
    case deed =>
      have hd := deed_one (prog := prog) (w := X.w) (e := X.e) (ed := X.ed) (q := X.q) (c := X.c) (cd := X.cd) (f := C.f) (c' := X.c') (sl := C.sl) (k1 := C.k1) (k2 := C.k2) (k3 := C.k3) (k4 := C.k4) (k5 := C.k5) (k6 := C.k6) (k7 := C.k7) (k8 := C.k8) (k9 := C.k9) (now := 0) (k := k) (comes := p.comes)
        (t1 := X.t1) (t2 := X.t2) (t3 := X.t3) (t4 := X.t4) (u1 := a1) (u4 := u4) (u5 := X.u5) (cu := C.cu) (act := .ref p.pr) (dc := C.dc) (nm := C.nm) (ct := C.ct) (ys := ws) (n := qn + 1) (n3 := C.n3) (fb := X.fb)
        (tl := (p.pr, instObj 301 C.pd) :: (C.pd, prcO X.w C.d1 C.d2 C.d3 C.d4 X.e C.l2 C.st ie) :: (C.st, instObj 962 C.sd) :: (C.sd, stpO X.w C.g1 C.f) :: (ie, instObj 229 id) :: (id, dictOf [en X.w "env" b1 (.ref X.e), en X.w "callbacks" b2 .none, en X.w "_value" b3 .none, en X.w "_ok" b4 (.bool true)] 4) :: (lb, listO #[.ref p.pr] n1) :: (C.l2, listO #[] C.n2) ::
          (C.k1, C.o1) :: (C.k2, C.o2) :: (C.k4, C.o4) :: (C.k5, C.o5) :: (C.k8, C.o8) :: (C.k9, C.o9) :: (xt ++ T))
        hoc hvs ck.h3 ck.h6 ck.h7 hc ?nd5 ?TY5 (by omega) DW D1w hp
      refine CallOk.conseq hd (Nat.le_refl _) (Nat.le_refl _) ?sub5 ?post5
      case nd5 => k_cells ndx
      case TY5 => exact tups_sub TYw (by walk_at "subl")
      case sub5 => (simp only [iniO, tmoO, untO, prcO, endO, stpO, eR, qR, coR, List.drop_succ_cons, List.drop_zero, List.cons_append, List.nil_append, List.append_assoc]; first | (walk_at "rows") | fail "rows")
      case post5 =>
        rintro v r ⟨tt, te, td', tb, zs, x1, x2, x3, x4, y1, y2, y3, y4, y5, n', n3', n1', rfl, pm2, hp2, nd6, rfl⟩
        refine ⟨_, ?_, te, 210, td', _, 5, tb, #[], n1', _, rfl, rfl, ?_, evc_tmo, rfl, by simp, tt, zs, x1, x2, x3, x4, y1, y2, y3, y4, y5, n', n3', rfl, rfl, rfl, rfl, pm2, hp2, rfl⟩
        · (simp only [iniO, tmoO, untO, prcO, endO, stpO, eR, qR, coR, List.drop_succ_cons, List.drop_zero, List.cons_append, List.nil_append, List.append_assoc]; first | (walk_at "rows") | fail "rows")
        · k_cells nd6)) only [↓Mine.go_eq]
end
end Mine
end

section
-- part X4
open PySem PySem.W PyProof.Rows PySem.Spec in
theorem Mine.turn_X4 {p : Program} {w : World} {A : Around} {en : Env} {Q : Flow → Shared → Prop} {E : Value → Shared → Prop} {s : Shared} (h : Q .next s) : wpAny (model p w) A (execs [] en) Q E s := by
  w_top off
  walk1
  exact h
open PySem PySem.W PyProof.Rows PySem.Calls PyProof.V PySem.Spec
namespace Mine

section
variable {fits : Int → WE → Bool} {step : Int → WE → Int} {w : World} {env tn C : Addr} {now : Int}
theorem srv_tail {W S R : List WE} {l k l' k' : Int} {ys zs : Array QE} {tl tl' : List (Addr × Obj)} (h : Srv fits step w env tn C now W l k ys tl S R l' k' zs tl') :
    ∃ D, tl' = D ++ tl ∧ (∀ tl2, Srv fits step w env tn C now W l k ys tl2 S R l' k' zs (D ++ tl2)) ∧ ∀ x ∈ S, ∃ t6 t7, (x.e, instObj C x.d) ∈ D ∧ (x.d, x.done w env tn t6 t7) ∈ D := by
  induction h with
  | nil => exact ⟨[], rfl, fun _ => .nil, fun _ h => nomatch h⟩
  | stop hf => exact ⟨[], rfl, fun _ => .stop hf, fun _ h => nomatch h⟩
  | @go x W l k ys tl S R l' k' ys' tl' t a1 a2 a3 t6 t7 zs hf hp hs ih =>
    obtain ⟨D, rfl, h2, h3⟩ := ih
    refine ⟨D ++ [(t, tupo (now + 0) 1 k a1 a2 a3 (.ref x.e)), (x.e, instObj C x.d), (x.d, x.done w env tn t6 t7)], by simp, fun tl2 => ?_, fun z hz => ?_⟩
    · have := h2 ((t, tupo (now + 0) 1 k a1 a2 a3 (.ref x.e)) :: (x.e, instObj C x.d) :: (x.d, x.done w env tn t6 t7) :: tl2)
      rw [List.append_assoc]
      exact .go hf hp this
    · rcases List.mem_cons.mp hz with rfl | hz
      · exact ⟨t6, t7, List.mem_append_right _ (.tail _ (.head _)), List.mem_append_right _ (.tail _ (.tail _ (.head _)))⟩
      · obtain ⟨a, b, c, d⟩ := h3 z hz
        exact ⟨a, b, List.mem_append_left _ c, List.mem_append_left _ d⟩
theorem srv_split {W S R : List WE} {l k l' k' : Int} {ys zs : Array QE} {tl tl' : List (Addr × Obj)} (h : Srv fits step w env tn C now W l k ys tl S R l' k' zs tl') : W = S ++ R := by
  induction h with
  | nil => rfl
  | stop => rfl
  | go _ _ _ ih => rw [ih]; rfl
end
theorem wl_mem {w : World} {C env tk : Addr} {x : WE} : ∀ {W : List WE}, x ∈ W → (x.e, instObj C x.d) ∈ wl w C env tk W ∧ (x.d, x.dict w env tk) ∈ wl w C env tk W
  | y :: W, h => by
    rcases List.mem_cons.mp h with rfl | h
    · exact ⟨.head _, .tail _ (.head _)⟩
    · obtain ⟨a, b⟩ := wl_mem h
      exact ⟨.tail _ (.tail _ a), .tail _ (.tail _ b)⟩
theorem split2 {a b : Addr × Obj} {L : List (Addr × Obj)} (ha : a ∈ L) (hb : b ∈ L) (hne : a.1 ≠ b.1) : ∃ M, L.Perm (a :: b :: M) := by
  obtain ⟨A, B, rfl⟩ := List.append_of_mem ha
  have hb' : b ∈ A ++ B := by
    rcases List.mem_append.mp hb with h | h
    · exact List.mem_append_left _ h
    · rcases List.mem_cons.mp h with rfl | h
      · exact absurd rfl hne
      · exact List.mem_append_right _ h
  obtain ⟨A2, B2, h2⟩ := List.append_of_mem hb'
  refine ⟨A2 ++ B2, List.perm_middle.trans (.cons _ ?_)⟩
  rw [h2]
  exact List.perm_middle
theorem perm_cnt {L M : List (Addr × Obj)} (h : L.Perm M) (z : Addr) : (L.map (·.1)).count z = (M.map (·.1)).count z := (h.map _).count_eq z
structure PgOk (prog : Program) : Prop where
  h1 : ((prog.main.file : Str) == ("/claim/cut.py" : Str)) = true
  h2 : (prog.main.scope.names.lookup ("super" : Str)).isSome = false
section
variable {prog : Program} {w : World}
theorem putOk {e ed q c cd tn td pq gq pr : Addr} {now k room level amt : Int} {t1 t2 t3 t4 u1 u4 u5 r1 r2 r3 r4 r5 v1 v2 au : Tok} {ys : Array QE} {n pn : Nat} {fb : Bool} {tl : List (Addr × Obj)} {W : List WE} (G : PgOk prog)
    (nd : ([e, ed, q, c, cd, tn, td, pq] ++ (wl w 850 e tn W ++ tl).map (·.1)).Nodup) (ha : 0 < amt)
    (TY : TupsIn tl ys) (hz : ys.size + W.length < 900) (D : ∀ x ∈ ys.toList, x.e < k) (D1 : Eids ys) (H : IsHp QE.lt ys) :
    CallOk prog w 30 200 (.ref 905) [.ref tn, .int amt au] ((e, instObj 662 ed) :: (ed, envO w t1 t2 t3 t4 u1 now q c (.ref pr)) :: (q, qobj ys n) :: (c, cntO cd fb k u4 u5) :: (cd, dictOf [] 0) :: (tn, instObj 929 td) :: (td, tankO w e pq gq room level r1 r2 r3 r4 r5 v1 v2) :: (pq, wqO W pn) :: (wl w 850 e tn W ++ tl))
      (fun v rows' => ∃ (x : WE) (bm : Addr) (nb : Nat) (S R : List WE) (l' k' : Int) (zs : Array QE) (D : List (Addr × Obj)) (n' pn' : Nat) (x4 x2 : Tok), v = .ref x.e ∧ x.amt = amt ∧ x.pr = pr ∧
        (∀ tl2, Srv (fitsP room) stepP w e tn 850 now (W ++ [x]) level k ys tl2 S R l' k' zs (D ++ tl2)) ∧ (∀ z ∈ S, ∃ t6 t7, (z.e, instObj 850 z.d) ∈ D ∧ (z.d, z.done w e tn t6 t7) ∈ D) ∧
        ([e, ed, q, c, cd, tn, td, pq] ++ (wl w 850 e tn (W ++ [x]) ++ ((x.cb, listO #[.ref bm] nb) :: (bm, methodObj (.ref 824) (.ref tn)) :: tl)).map (·.1)).Nodup ∧ (∀ z ∈ zs.toList, z.e < k') ∧ Eids zs ∧ IsHp QE.lt zs ∧
        rows' = (e, instObj 662 ed) :: (ed, envO w t1 t2 t3 t4 u1 now q c (.ref pr)) :: (q, qobj zs n') :: (c, cntO cd fb k' x4 u5) :: (cd, dictOf [] 0) :: (tn, instObj 929 td) :: (td, tankO w e pq gq room l' r1 r2 r3 r4 r5 v1 x2) :: (pq, wqO R pn') :: (wl w 850 e tn R ++ (D ++ (x.cb, listO #[.ref bm] nb) :: (bm, methodObj (.ref 824) (.ref tn)) :: tl)) ∧ (rows'.map (·.1)).Nodup) := by
  intro p loose mean mg mb dp un gd cn cs a ccd cl outer A₀ base h₀ L m s Q E B F X T C0 hk hdp hun N ret
  refine put_c B F X T C0 G.h1 G.h2 hk hdp hun N nd ha TY hz D D1 H ?_
  intro x bm nb S R l' k' zs tl' n' pn' x4 x2 h' tk' e1 e2 sv nd1 nd2 TY2 D2 E2 H2 F2 N2
  obtain ⟨Dd, rfl, sv2, sd⟩ := srv_tail sv
  exact ret _ _ _ _ ⟨x, bm, nb, S, R, l', k', zs, Dd, n', pn', x4, x2, rfl, e1, e2, sv2, sd, nd1, D2, E2, H2, rfl, nd2⟩ F2 N2
theorem getOk {e ed q c cd tn td pq gq pr : Addr} {now k room level amt : Int} {t1 t2 t3 t4 u1 u4 u5 r1 r2 r3 r4 r5 v1 v2 au : Tok} {ys : Array QE} {n pn : Nat} {fb : Bool} {tl : List (Addr × Obj)} {W : List WE} (G : PgOk prog)
    (nd : ([e, ed, q, c, cd, tn, td, gq] ++ (wl w 871 e tn W ++ tl).map (·.1)).Nodup) (ha : 0 < amt)
    (TY : TupsIn tl ys) (hz : ys.size + W.length < 900) (D : ∀ x ∈ ys.toList, x.e < k) (D1 : Eids ys) (H : IsHp QE.lt ys) :
    CallOk prog w 30 200 (.ref 912) [.ref tn, .int amt au] ((e, instObj 662 ed) :: (ed, envO w t1 t2 t3 t4 u1 now q c (.ref pr)) :: (q, qobj ys n) :: (c, cntO cd fb k u4 u5) :: (cd, dictOf [] 0) :: (tn, instObj 929 td) :: (td, tankO w e pq gq room level r1 r2 r3 r4 r5 v1 v2) :: (gq, wqO W pn) :: (wl w 871 e tn W ++ tl))
      (fun v rows' => ∃ (x : WE) (bm : Addr) (nb : Nat) (S R : List WE) (l' k' : Int) (zs : Array QE) (D : List (Addr × Obj)) (n' pn' : Nat) (x4 x2 : Tok), v = .ref x.e ∧ x.amt = amt ∧ x.pr = pr ∧
        (∀ tl2, Srv fitsG stepG w e tn 871 now (W ++ [x]) level k ys tl2 S R l' k' zs (D ++ tl2)) ∧ (∀ z ∈ S, ∃ t6 t7, (z.e, instObj 871 z.d) ∈ D ∧ (z.d, z.done w e tn t6 t7) ∈ D) ∧
        ([e, ed, q, c, cd, tn, td, gq] ++ (wl w 871 e tn (W ++ [x]) ++ ((x.cb, listO #[.ref bm] nb) :: (bm, methodObj (.ref 810) (.ref tn)) :: tl)).map (·.1)).Nodup ∧ (∀ z ∈ zs.toList, z.e < k') ∧ Eids zs ∧ IsHp QE.lt zs ∧
        rows' = (e, instObj 662 ed) :: (ed, envO w t1 t2 t3 t4 u1 now q c (.ref pr)) :: (q, qobj zs n') :: (c, cntO cd fb k' x4 u5) :: (cd, dictOf [] 0) :: (tn, instObj 929 td) :: (td, tankO w e pq gq room l' r1 r2 r3 r4 r5 v1 x2) :: (gq, wqO R pn') :: (wl w 871 e tn R ++ (D ++ (x.cb, listO #[.ref bm] nb) :: (bm, methodObj (.ref 810) (.ref tn)) :: tl)) ∧ (rows'.map (·.1)).Nodup) := by
  intro p loose mean mg mb dp un gd cn cs a ccd cl outer A₀ base h₀ L m s Q E B F X T C0 hk hdp hun N ret
  refine get_c B F X T C0 G.h1 G.h2 hk hdp hun N nd ha TY hz D D1 H ?_
  intro x bm nb S R l' k' zs tl' n' pn' x4 x2 h' tk' e1 e2 sv nd1 nd2 TY2 D2 E2 H2 F2 N2
  obtain ⟨Dd, rfl, sv2, sd⟩ := srv_tail sv
  exact ret _ _ _ _ ⟨x, bm, nb, S, R, l', k', zs, Dd, n', pn', x4, x2, rfl, e1, e2, sv2, sd, nd1, D2, E2, H2, rfl, nd2⟩ F2 N2
end
theorem perm_sub {A B M l : List (Addr × Obj)} {a b : Addr × Obj} (h : (A ++ B).Perm (a :: b :: M)) (ha : a ∈ l) (hb : b ∈ l) (hM : ∀ p ∈ M, p ∈ l) : (∀ p ∈ A, p ∈ l) ∧ ∀ p ∈ B, p ∈ l := by
  have h1 : ∀ p ∈ A ++ B, p ∈ l := fun p hp => by
    rcases List.mem_cons.mp (h.mem_iff.mp hp) with rfl | hp
    · exact ha
    rcases List.mem_cons.mp hp with rfl | hp
    · exact hb
    exact hM p hp
  exact ⟨fun p hp => h1 p (List.mem_append_left _ hp), fun p hp => h1 p (List.mem_append_right _ hp)⟩
theorem mem_sub {A B l : List (Addr × Obj)} {a : Addr × Obj} (h : a ∈ A ++ B) (ha : ∀ p ∈ A, p ∈ l) (hb : ∀ p ∈ B, p ∈ l) : a ∈ l := (List.mem_append.mp h).elim (ha a) (hb a)
theorem mem_subl {A B M l : List (Addr × Obj)} (h : ∀ z ∈ M, z ∈ A ++ B) (ha : ∀ p ∈ A, p ∈ l) (hb : ∀ p ∈ B, p ∈ l) : ∀ z ∈ M, z ∈ l := fun z hz => mem_sub (h z hz) ha hb
abbrev tR (X : Fx) (level : Int) (v2 : Tok) (wq : Addr) (W : List WE) (pn : Nat) (oa : Obj) : List (Addr × Obj) :=
  [(X.tn, instObj 929 X.td), (X.td, tankO X.w X.e X.pq X.gq X.room level X.r1 X.r2 X.r3 X.r4 X.r5 X.v1 v2), (wq, wqO W pn), (X.ask, oa), (X.c', X.oc)]
end Mine
end

section
-- part X5
open PySem PySem.W PyProof.Rows PySem.Spec in
theorem Mine.turn_X5 {p : Program} {w : World} {A : Around} {en : Env} {Q : Flow → Shared → Prop} {E : Value → Shared → Prop} {s : Shared} (h : Q .next s) : wpAny (model p w) A (execs [] en) Q E s := by
  w_top off
  walk1
  exact h
open PySem PySem.W PyProof.Rows PySem.Calls PyProof.V PySem.Spec
namespace Mine

local macro_rules | `(tactic| walk_at "inl") => `(tactic| first | exact .head _ | (refine List.Mem.tail _ ?_; walk_at "inl") | (refine List.mem_append_right _ ?_; walk_at "inl") | (refine List.mem_append_left _ ?_; walk_at "inl"))
local macro_rules | `(tactic| walk_at "leaf") => `(tactic| first | exact fun _ h => h | exact fun _ h => List.mem_append_left _ h | (refine sub_cons ?_; walk_at "leaf") | (refine sub_appr ?_; walk_at "leaf"))
local macro_rules | `(tactic| walk_at "subl") => `(tactic| first
  | exact nil_sub
  | ((with_reducible refine app_sub ?_ ?_); (focus walk_at "rows"); walk_at "rows")
  | walk_at "leaf"
  | (refine (perm_sub ‹List.Perm (_ ++ _) (_ :: _ :: _)› ?_ ?_ ?_).1; (focus walk_at "inl"); (focus walk_at "inl"); walk_at "leaf")
  | (refine (perm_sub ‹List.Perm (_ ++ _) (_ :: _ :: _)› ?_ ?_ ?_).2; (focus walk_at "inl"); (focus walk_at "inl"); walk_at "leaf")
  | (refine mem_subl (by with_reducible assumption) ?_ ?_; (focus walk_at "leaf"); walk_at "leaf"))
local macro_rules | `(tactic| walk_at "rows") => `(tactic| ((repeat (refine an_cons (by walk_at "inl") ?_)); walk_at "subl"))
local macro_rules | `(tactic| walk_at "sub") => `(tactic| (simp only [iniO, tmoO, untO, prcO, endO, stpO, eR, qR, tR, coR, List.drop_succ_cons, List.drop_zero, List.cons_append, List.nil_append, List.append_assoc]; first | (refine sub_cnt fun p9 => ?_; simp only [cp_app, cp_cons, cp_nil, Nat.zero_add, Nat.add_zero]; omega) | (walk_at "rows") | fail "rows"))
local macro_rules | `(tactic| k_cells $Y:ident) => `(tactic| (refine nd_le $Y fun _ => ?_; simp only [eR, qR, tR, coR, wl_snoc, List.drop_succ_cons, List.drop_zero, List.map_append, List.map_cons, List.map_nil, List.cons_append, List.nil_append, List.append_assoc, cnt_app, cnt_cons, cnt_nil, Nat.zero_add]; omega))
local macro_rules | `(tactic| k_lt2 $Y:ident) => `(tactic| (refine nd_le $Y fun z9 => ?_; (have hc9 := perm_cnt ‹List.Perm (_ ++ _) (_ :: _ :: _)› z9); simp only [eR, qR, tR, coR, wl_snoc, List.drop_succ_cons, List.drop_zero, List.map_append, List.map_cons, List.map_nil, List.cons_append, List.nil_append, List.append_assoc, cnt_app, cnt_cons, cnt_nil, Nat.zero_add] at hc9 ⊢; omega))
section
variable {prog : Program} {X : Fx} {p : Pc}
theorem lstep1 {y : QE} {te : Addr} {l T : List (Addr × Obj)} {now k level : Int} {u1 u4 v2 : Tok} {act : Value} {ys : Array QE} {qn pn : Nat} {W : List WE} {oa : Obj} {kvs : List (Int × Value)} (G : PgOk prog) (R : PRow X p (.s1 y te) l) (hp : p.puts = true) (ha : 0 < p.amt) (O : OcOk X)
    (hoa : oa.IsDictOf (PySem.intKind prog X.w) kvs) (hab : valueAt kvs p.i = none) (hkz : kvs.length < 100)
    (nd : ((eR X u1 now act ++ (qR X ys qn k u4 ++ (tR X level v2 X.pq W pn oa ++ (wl X.w 850 X.e X.tn W ++ (l ++ T))))).map (·.1)).Nodup) (hx : ys[0]? = some y) (TY : TupsIn ((y.a, y.obj) :: T) ys) (hz : ys.size + W.length < 890) (DE : ∀ x ∈ ys.toList, x.e < k) (D1 : Eids ys) (H : IsHp QE.lt ys) :
    CallT prog X.w 100 700 (.ref 651) [.ref X.e] (eR X u1 now act ++ (qR X ys qn k u4 ++ (tR X level v2 X.pq W pn oa ++ (wl X.w 850 X.e X.tn W ++ (l ++ T)))))
      (fun v rows' => v = .none ∧ ∃ (ws zs : Array QE) (x : WE) (l2 D : List (Addr × Obj)) (S R : List WE) (l' k' : Int) (qn' pn' : Nat) (u4' v2' : Tok) (oa' : Obj), (y :: ws.toList).Perm ys.toList ∧ (∀ z ∈ zs.toList, z.e < k') ∧ Eids zs ∧ IsHp QE.lt zs ∧ PRow X p (.s2 x) l2 ∧
        (∀ tl2, Srv (fitsP X.room) stepP X.w X.e X.tn 850 y.t (W ++ [x]) level k ws tl2 S R l' k' zs (D ++ tl2)) ∧ oa'.IsDictOf (PySem.intKind prog X.w) (stored kvs p.i (.ref x.e)) ∧
        ((eR X y.u1 y.t .none ++ (qR X zs qn' k' u4' ++ (tR X l' v2' X.pq R pn' oa' ++ (wl X.w 850 X.e X.tn (W ++ [x]) ++ (l2 ++ T))))).map (·.1)).Nodup ∧
        rows' = eR X y.u1 y.t .none ++ (qR X zs qn' k' u4' ++ (tR X l' v2' X.pq R pn' oa' ++ (wl X.w 850 X.e X.tn R ++ (D ++ (l2 ++ T))))) ∧ (rows'.map (·.1)).Nodup) := by
  refine Mine.go_of ?_
  simp (disch := k_dflt (
  obtain ⟨vs, qt, hoc, hvs⟩ := O.h
  obtain ⟨pi, pcomes, pamt, pputs, ppr⟩ := p
  dsimp only at hp ha hab
  subst hp
  cases R with
  | @s1 _ _ td' tb b1 b2 b3 b4 b5 u n1 C ck h1 h2 h3 =>
  obtain ⟨ta, t, pp, ee, a1, a2, a3, v⟩ := y
  dsimp only at h1 h2 h3
  subst h1 h2 h3
  have hstep := step_one (prog := prog) (w := X.w) (D := 70) (U := 400) (C := 210) (e := X.e) (ed := X.ed) (q := X.q) (c := X.c) (ta := ta) (ev := te) (d := td') (now := now) (t := t) (pp := 1) (ee := ee) (t1 := X.t1) (t2 := X.t2) (t3 := X.t3) (t4 := X.t4) (u1 := u1) (a1 := a1) (a2 := a2) (a3 := a3) (act := act) (qn := qn) (nb := n1) (pn := 4)
    (es := [en X.w "env" b1 (.ref X.e), en X.w "callbacks" b2 (.ref tb), en X.w "_value" b3 .none, en X.w "_delay" b4 (.int t u), en X.w "_ok" b5 (.bool true)]) (n := 5)
    (es' := [en X.w "env" b1 (.ref X.e), en X.w "callbacks" b2 .none, en X.w "_value" b3 .none, en X.w "_delay" b4 (.int t u), en X.w "_ok" b5 (.bool true)]) (n' := 5) (lb := tb) (pr := ppr) (pd := C.pd) (pes := [en X.w "env" C.d1 (.ref X.e), en X.w "callbacks" C.d2 (.ref C.l2), en X.w "_generator" C.d3 (.ref C.st), en X.w "_target" C.d4 (.ref te)])
    (tl := (X.c, cntO X.cd X.fb k u4 X.u5) :: (X.cd, dictOf [] 0) :: (tR X level v2 X.pq W pn oa ++ (wl X.w 850 X.e X.tn W ++ ((coR X ⟨pi, t, pamt, true, ppr⟩ C te #[.none]).drop 2 ++ T))))
    (R := fun ws tl' => ∃ (zs : Array QE) (x : WE) (l2 D : List (Addr × Obj)) (S R : List WE) (l' k' : Int) (qn' pn' : Nat) (u4' v2' : Tok) (oa' : Obj), (∀ z ∈ zs.toList, z.e < k') ∧ Eids zs ∧ IsHp QE.lt zs ∧ PRow X ⟨pi, t, pamt, true, ppr⟩ (.s2 x) l2 ∧
        (∀ tl2, Srv (fitsP X.room) stepP X.w X.e X.tn 850 t (W ++ [x]) level k ws tl2 S R l' k' zs (D ++ tl2)) ∧ oa'.IsDictOf (PySem.intKind prog X.w) (stored kvs pi (.ref x.e)) ∧
        ((eR X a1 t .none ++ (qR X zs qn' k' u4' ++ (tR X l' v2' X.pq R pn' oa' ++ (wl X.w 850 X.e X.tn (W ++ [x]) ++ (l2 ++ T))))).map (·.1)).Nodup ∧
        tl' = (X.ed, envO X.w X.t1 X.t2 X.t3 X.t4 a1 t X.q X.c .none) :: (qR X zs qn' k' u4' ++ (tR X l' v2' X.pq R pn' oa' ++ (wl X.w 850 X.e X.tn R ++ (D ++ (l2 ++ T))))))
    evc_tmo rfl (fun _ => rfl) (Nat.le_of_ble_eq_true rfl) rfl (by k_cells nd) hx (tups_two TY (.head _) (by walk_at "sub")) (by omega) D1 H ?cb
  · refine CallT.conseq hstep ?h1 ?h2 ?sub ?post
    case h1 => omega
    case h2 => omega
    case sub => walk_at "sub"
    case post =>
      rintro v r ⟨rfl, ws, pm, hp, tl', rfl, nd', zs, x, l2, D, S, R, l', k', qn', pn', u4', v2', oa', c1, c2, c3, c4, c5, c6, c7, rfl⟩
      refine ⟨_, ?_, rfl, ws, zs, x, l2, D, S, R, l', k', qn', pn', u4', v2', oa', pm, c1, c2, c3, c4, c5, c6, c7, rfl, ?_⟩
      · walk_at "sub"
      · k_cells nd'
  case cb =>
    intro ws xt pm hp ndx
    have TYw := tups_pop TY pm D1 rfl
    have DW := lt_pop DE pm
    have D1w := eids_pop D1 pm
    have szw := size_pop pm
    have hput := putOk (prog := prog) (w := X.w) (e := X.e) (ed := X.ed) (q := X.q) (c := X.c) (cd := X.cd) (tn := X.tn) (td := X.td) (pq := X.pq) (gq := X.gq) (pr := ppr) (now := t) (k := k) (room := X.room) (level := level) (amt := pamt) (t1 := X.t1) (t2 := X.t2) (t3 := X.t3) (t4 := X.t4) (u1 := a1) (u4 := u4) (u5 := X.u5)
      (r1 := X.r1) (r2 := X.r2) (r3 := X.r3) (r4 := X.r4) (r5 := X.r5) (v1 := X.v1) (v2 := v2) (au := C.au) (ys := ws) (n := qn + 1) (pn := pn) (fb := X.fb) (W := W)
      (tl := (X.ask, oa) :: (C.f, deedO X.w.params C.k1 C.k2 C.k3 C.k4 C.k5 C.k6 C.k7 C.k8 C.k9 C.dc C.nm X.c' C.ct) :: (X.c', X.oc) :: (C.sl, listO #[.none, .none] (C.n3 + 1)) :: (C.k1, C.o1) :: (C.k2, C.o2) :: (C.k3, C.o3) :: (C.k4, C.o4) :: (C.k5, C.o5) :: (C.k6, C.o6) :: (C.k7, C.o7) :: (C.k8, C.o8) :: (C.k9, C.o9) ::
        (ppr, instObj 301 C.pd) :: (C.pd, prcO X.w C.d1 C.d2 C.d3 C.d4 X.e C.l2 C.st te) :: (C.st, instObj 962 C.sd) :: (C.sd, stpO X.w C.g1 C.f) :: (te, instObj 210 td') :: (td', dictOf [en X.w "env" b1 (.ref X.e), en X.w "callbacks" b2 .none, en X.w "_value" b3 .none, en X.w "_delay" b4 (.int t u), en X.w "_ok" b5 (.bool true)] 5) :: (tb, listO #[.ref ppr] n1) :: (C.l2, listO #[] C.n2) :: (xt ++ T))
      G (by k_cells ndx) ha (tups_sub TYw (by walk_at "subl")) (by omega) DW D1w hp
    have hdeed := deed_two (prog := prog) (w := X.w) (D := 30) (U := 200) (tn := X.tn) (td := X.td) (pq := X.pq) (gq := X.gq) (e := X.e) (f := C.f) (c' := X.c') (sl := C.sl) (k1 := C.k1) (k2 := C.k2) (k3 := C.k3) (k4 := C.k4) (k5 := C.k5) (k6 := C.k6) (k7 := C.k7) (k8 := C.k8) (k9 := C.k9) (ask := X.ask) (num := pi) (amt := pamt) (room := X.room) (level := level)
      (r1 := X.r1) (r2 := X.r2) (r3 := X.r3) (r4 := X.r4) (r5 := X.r5) (v1 := X.v1) (v2 := v2) (dc := C.dc) (nm := C.nm) (ct := C.ct) (n3 := C.n3) (kvs := kvs)
      (tl := (X.e, instObj 662 X.ed) :: (X.ed, envO X.w X.t1 X.t2 X.t3 X.t4 a1 t X.q X.c (.ref ppr)) :: (X.q, qobj ws (qn + 1)) :: (X.c, cntO X.cd X.fb k u4 X.u5) :: (X.cd, dictOf [] 0) :: (X.pq, wqO W pn) :: (C.k1, C.o1) :: (C.k6, C.o6) :: (C.k7, C.o7) ::
        (ppr, instObj 301 C.pd) :: (C.pd, prcO X.w C.d1 C.d2 C.d3 C.d4 X.e C.l2 C.st te) :: (C.st, instObj 962 C.sd) :: (C.sd, stpO X.w C.g1 C.f) :: (te, instObj 210 td') :: (td', dictOf [en X.w "env" b1 (.ref X.e), en X.w "callbacks" b2 .none, en X.w "_value" b3 .none, en X.w "_delay" b4 (.int t u), en X.w "_ok" b5 (.bool true)] 5) :: (tb, listO #[.ref ppr] n1) :: (C.l2, listO #[] C.n2) :: (wl X.w 850 X.e X.tn W ++ (xt ++ T)))
      (R := fun x' tl' => ∃ (x : WE) (bm : Addr) (nb : Nat) (S R : List WE) (l' k' : Int) (zs : Array QE) (D : List (Addr × Obj)) (n' pn' : Nat) (x4 x2 : Tok), x' = x.e ∧ x.amt = pamt ∧ x.pr = ppr ∧
        (∀ tl2, Srv (fitsP X.room) stepP X.w X.e X.tn 850 t (W ++ [x]) level k ws tl2 S R l' k' zs (D ++ tl2)) ∧ (∀ z ∈ S, ∃ t6 t7, (z.e, instObj 850 z.d) ∈ D ∧ (z.d, z.done X.w X.e X.tn t6 t7) ∈ D) ∧ (∀ z ∈ zs.toList, z.e < k') ∧ Eids zs ∧ IsHp QE.lt zs ∧
        (([(X.e, instObj 662 X.ed), (X.ed, envO X.w X.t1 X.t2 X.t3 X.t4 a1 t X.q X.c (.ref ppr)), (X.q, qobj zs n'), (X.c, cntO X.cd X.fb k' x4 X.u5), (X.cd, dictOf [] 0), (X.tn, instObj 929 X.td), (X.td, tankO X.w X.e X.pq X.gq X.room l' X.r1 X.r2 X.r3 X.r4 X.r5 X.v1 x2), (X.pq, wqO R pn'), (X.ask, oa), (X.c', X.oc), (x.cb, listO #[.ref bm] nb), (bm, methodObj (.ref 824) (.ref X.tn))] ++ ((coR X ⟨pi, t, pamt, true, ppr⟩ C te #[.none]) ++ (wl X.w 850 X.e X.tn (W ++ [x]) ++ T))).map (·.1)).Nodup ∧
        tl' = (X.e, instObj 662 X.ed) :: (X.ed, envO X.w X.t1 X.t2 X.t3 X.t4 a1 t X.q X.c (.ref ppr)) :: (X.q, qobj zs n') :: (X.c, cntO X.cd X.fb k' x4 X.u5) :: (X.cd, dictOf [] 0) :: (X.tn, instObj 929 X.td) :: (X.td, tankO X.w X.e X.pq X.gq X.room l' X.r1 X.r2 X.r3 X.r4 X.r5 X.v1 x2) :: (X.pq, wqO R pn') :: (x.cb, listO #[.ref bm] nb) :: (bm, methodObj (.ref 824) (.ref X.tn)) ::
          (C.k1, C.o1) :: (C.k2, C.o2) :: (C.k3, C.o3) :: (C.k4, C.o4) :: (C.k6, C.o6) :: (C.k7, C.o7) :: (C.k9, C.o9) ::
          (ppr, instObj 301 C.pd) :: (C.pd, prcO X.w C.d1 C.d2 C.d3 C.d4 X.e C.l2 C.st te) :: (C.st, instObj 962 C.sd) :: (C.sd, stpO X.w C.g1 C.f) :: (te, instObj 210 td') :: (td', dictOf [en X.w "env" b1 (.ref X.e), en X.w "callbacks" b2 .none, en X.w "_value" b3 .none, en X.w "_delay" b4 (.int t u), en X.w "_ok" b5 (.bool true)] 5) :: (tb, listO #[.ref ppr] n1) :: (C.l2, listO #[] C.n2) :: (wl X.w 850 X.e X.tn R ++ (D ++ (xt ++ T))))
      hoc hvs ck.h2 ck.h3 ck.h4 ck.h5 ck.h8 ck.h9 hoa hab hkz (by k_cells ndx) ?hput
    case hput =>
      refine CallOk.conseq hput (Nat.le_refl _) (Nat.le_refl _) ?sub5 ?post5
      case sub5 => walk_at "sub"
      case post5 =>
        rintro v r ⟨x, bm, nb, S, R, l', k', zs, D, n', pn', x4, x2, rfl, e1, e2, sv, sd, nd1, c1, c2, c3, rfl, nd2⟩
        refine ⟨_, ?_, x.e, _, rfl, rfl, ?_, x, bm, nb, S, R, l', k', zs, D, n', pn', x4, x2, rfl, e1, e2, sv, sd, c1, c2, c3, ?_, rfl⟩
        · walk_at "sub"
        · k_cells nd2
        · k_cells nd1
    have hres := resume_ok (prog := prog) (w := X.w) (D := 50) (U := 300) (e := X.e) (ed := X.ed) (pr := ppr) (pd := C.pd) (st := C.st) (sd := C.sd) (ev := te) (d := td') (f := C.f) (q := X.q) (c := X.c) (tg := te) (l2 := C.l2) (C := 210) (now := t) (t1 := X.t1) (t2 := X.t2) (t3 := X.t3) (t4 := X.t4) (u1 := a1) (d1 := C.d1) (d2 := C.d2) (d3 := C.d3) (d4 := C.d4) (g1 := C.g1) (act := act)
      (k1 := C.k1) (k2 := C.k2) (k3 := C.k3) (k4 := C.k4) (k5 := C.k5) (k6 := C.k6) (k7 := C.k7) (k8 := C.k8) (k9 := C.k9) (c' := X.c') (dc := C.dc) (nm := C.nm) (ct := C.ct)
      (es := [en X.w "env" b1 (.ref X.e), en X.w "callbacks" b2 .none, en X.w "_value" b3 .none, en X.w "_delay" b4 (.int t u), en X.w "_ok" b5 (.bool true)]) (n := 5)
      (tl := (X.q, qobj ws (qn + 1)) :: (X.c, cntO X.cd X.fb k u4 X.u5) :: (X.cd, dictOf [] 0) :: (X.tn, instObj 929 X.td) :: (X.td, tankO X.w X.e X.pq X.gq X.room level X.r1 X.r2 X.r3 X.r4 X.r5 X.v1 v2) :: (X.pq, wqO W pn) :: (X.ask, oa) :: (X.c', X.oc) :: (tb, listO #[.ref ppr] n1) :: (C.l2, listO #[] C.n2) :: (C.sl, listO #[.none] C.n3) ::
        (C.k1, C.o1) :: (C.k2, C.o2) :: (C.k3, C.o3) :: (C.k4, C.o4) :: (C.k5, C.o5) :: (C.k6, C.o6) :: (C.k7, C.o7) :: (C.k8, C.o8) :: (C.k9, C.o9) :: (wl X.w 850 X.e X.tn W ++ (xt ++ T)))
      (R := fun xv C' d' es' n' cb' vs' nb' tl' => ∃ (x : WE) (bm : Addr) (S R : List WE) (l' k' : Int) (zs : Array QE) (D M : List (Addr × Obj)) (qn' pn' : Nat) (x4 x2 : Tok) (oa' : Obj), xv = x.e ∧ C' = 850 ∧ d' = x.d ∧ cb' = x.cb ∧ vs' = #[.ref bm] ∧ x.amt = pamt ∧ x.pr = ppr ∧
        (∀ tl2, Srv (fitsP X.room) stepP X.w X.e X.tn 850 t (W ++ [x]) level k ws tl2 S R l' k' zs (D ++ tl2)) ∧ (∀ z ∈ zs.toList, z.e < k') ∧ Eids zs ∧ IsHp QE.lt zs ∧ oa'.IsDictOf (PySem.intKind prog X.w) (stored kvs pi (.ref x.e)) ∧
        (([(X.e, instObj 662 X.ed), (X.ed, envO X.w X.t1 X.t2 X.t3 X.t4 a1 t X.q X.c (.ref ppr)), (X.q, qobj zs qn'), (X.c, cntO X.cd X.fb k' x4 X.u5), (X.cd, dictOf [] 0), (X.tn, instObj 929 X.td), (X.td, tankO X.w X.e X.pq X.gq X.room l' X.r1 X.r2 X.r3 X.r4 X.r5 X.v1 x2), (X.pq, wqO R pn'), (X.ask, oa), (X.c', X.oc), (x.cb, listO #[.ref bm] nb'), (bm, methodObj (.ref 824) (.ref X.tn))] ++ ((coR X ⟨pi, t, pamt, true, ppr⟩ C te #[.none]) ++ (wl X.w 850 X.e X.tn (W ++ [x]) ++ T))).map (·.1)).Nodup ∧
        (wl X.w 850 X.e X.tn R ++ D).Perm ((x.e, instObj 850 x.d) :: (x.d, dictOf es' n') :: M) ∧
        tl' = (X.q, qobj zs qn') :: (X.c, cntO X.cd X.fb k' x4 X.u5) :: (X.cd, dictOf [] 0) :: (X.tn, instObj 929 X.td) :: (X.td, tankO X.w X.e X.pq X.gq X.room l' X.r1 X.r2 X.r3 X.r4 X.r5 X.v1 x2) :: (X.pq, wqO R pn') :: (X.ask, oa') :: (X.c', X.oc) :: (bm, methodObj (.ref 824) (.ref X.tn)) ::
          (C.st, instObj 962 C.sd) :: (C.sd, stpO X.w C.g1 C.f) :: (C.f, deedO X.w.params C.k1 C.k2 C.k3 C.k4 C.k5 C.k6 C.k7 C.k8 C.k9 C.dc C.nm X.c' C.ct) :: (C.sl, listO #[.none, .none] (C.n3 + 1)) :: (C.l2, listO #[] C.n2) ::
          (C.k1, C.o1) :: (C.k2, C.o2) :: (C.k3, C.o3) :: (C.k4, C.o4) :: (C.k5, C.o5) :: (C.k6, C.o6) :: (C.k7, C.o7) :: (C.k8, C.o8) :: (C.k9, C.o9) ::
          (te, instObj 210 td') :: (td', dictOf [en X.w "env" b1 (.ref X.e), en X.w "callbacks" b2 .none, en X.w "_value" b3 .none, en X.w "_delay" b4 (.int t u), en X.w "_ok" b5 (.bool true)] 5) :: (tb, listO #[.ref ppr] n1) :: (M ++ (xt ++ T)))
      evc_tmo rfl rfl (by k_cells ndx) ?deed
    case deed =>
      refine CallOk.conseq hdeed (Nat.le_refl _) (Nat.le_refl _) ?sub6 ?post6
      case sub6 => walk_at "sub"
      case post6 =>
        rintro v r ⟨x', tl', o', rfl, hd', rfl, nd3, x, bm, nb, S, R, l', k', zs, D, n', pn', x4, x2, rfl, e1, e2, sv, sd, c1, c2, c3, ndp, rfl⟩
        have hne : x.e ≠ x.d := fun h => by
          have h9 := nd_cnt.mp ndp x.e
          simp only [coR, wl_snoc, List.map_append, List.map_cons, List.map_nil, List.cons_append, List.nil_append, List.append_assoc, cnt_app, cnt_cons, cnt_nil, Nat.zero_add] at h9
          have q1 : one x.e x.e = 1 := if_pos rfl
          have q2 : one x.d x.e = 1 := if_pos h.symm
          omega
        have hx' : ∃ es n, getL ("callbacks" : Str) es = some (some (.ref x.cb)) ∧ (x.e, instObj 850 x.d) ∈ wl X.w 850 X.e X.tn R ++ D ∧ (x.d, dictOf es n) ∈ wl X.w 850 X.e X.tn R ++ D := by
          have hm : x ∈ S ++ R := by rw [← srv_split (sv [])]; simp
          rcases List.mem_append.mp hm with h | h
          · obtain ⟨t6, t7, m1, m2⟩ := sd x h
            exact ⟨[en X.w "amount" x.t1 (.int x.amt x.u), en X.w "env" x.t2 (.ref X.e), en X.w "callbacks" x.t3 (.ref x.cb), en X.w "resource" x.t4 (.ref X.tn), en X.w "proc" x.t5 (.ref x.pr), en X.w "_ok" t6 (.bool true), en X.w "_value" t7 .none], 7, rfl, List.mem_append_right _ m1, List.mem_append_right _ m2⟩
          · obtain ⟨m1, m2⟩ := wl_mem (w := X.w) (C := 850) (env := X.e) (tk := X.tn) h
            exact ⟨[en X.w "amount" x.t1 (.int x.amt x.u), en X.w "env" x.t2 (.ref X.e), en X.w "callbacks" x.t3 (.ref x.cb), en X.w "resource" x.t4 (.ref X.tn), en X.w "proc" x.t5 (.ref x.pr)], 5, rfl, List.mem_append_left _ m1, List.mem_append_left _ m2⟩
        obtain ⟨es, n, hcb, m1, m2⟩ := hx'
        obtain ⟨M, hM⟩ := split2 m1 m2 hne
        refine ⟨_, ?_, x.e, 850, x.d, es, n, x.cb, #[.ref bm], nb, _, rfl, rfl, ?_, evc_put, hcb, by simp, x, bm, S, R, l', k', zs, D, M, n', pn', x4, x2, o', rfl, rfl, rfl, rfl, rfl, e1, e2, sv, c1, c2, c3, hd', ndp, hM, rfl⟩
        · have hM1 : ∀ z ∈ M, z ∈ wl X.w 850 X.e X.tn R ++ D := fun z hz => hM.mem_iff.mpr (.tail _ (.tail _ hz))
          simp only [List.cons_append, List.nil_append, List.append_assoc]
          refine an_cons (mem_sub m1 (by walk_at "subl") (by walk_at "subl")) (an_cons (mem_sub m2 (by walk_at "subl") (by walk_at "subl")) ?_)
          first | (walk_at "rows") | fail "rows"
        · k_lt2 nd3
    refine CallT.conseq (CallOk.turn hres) ?h12 ?h22 ?sub2 ?post2
    case h12 => omega
    case h22 => omega
    case sub2 => walk_at "sub"
    case post2 =>
      intro v r h
      obtain ⟨rfl, h⟩ := h
      refine Exists.elim h fun xv h => Exists.elim h fun C' h => Exists.elim h fun d' h => Exists.elim h fun es' h => Exists.elim h fun n' h => Exists.elim h fun cb' h => Exists.elim h fun vs' h => Exists.elim h fun nb' h => Exists.elim h fun nb'' h => Exists.elim h fun tl' h => ?_
      obtain ⟨h, e9, nd3⟩ := h
      refine Exists.elim h fun x h => Exists.elim h fun bm h => Exists.elim h fun S h => Exists.elim h fun R h => Exists.elim h fun l' h => Exists.elim h fun k' h => Exists.elim h fun zs h => Exists.elim h fun D h => Exists.elim h fun M h => Exists.elim h fun qn' h => Exists.elim h fun pn' h => Exists.elim h fun x4 h => Exists.elim h fun x2 h => Exists.elim h fun oa' h => ?_
      obtain ⟨rfl, rfl, rfl, rfl, rfl, e1, e2, sv, c1, c2, c3, hd', ndp, hM, rfl⟩ := h
      subst e9
      refine ⟨_, ?_, rfl, _, rfl, ?_, zs, x, _, D, S, R, l', k', qn', pn', x4, x2, oa', c1, c2, c3, PRow.s2 (x := x) (bm := bm) (nb := nb'') (C := { C with n3 := C.n3 + 1 }) ⟨ck.h1, ck.h2, ck.h3, ck.h4, ck.h5, ck.h6, ck.h7, ck.h8, ck.h9⟩ e1 e2, sv, hd', ?_, rfl⟩
      · walk_at "sub"
      · k_lt2 nd3
      · k_cells ndp)) only [↓Mine.go_eq]
end
end Mine
end

section
-- part X6
open PySem PySem.W PyProof.Rows PySem.Spec in
theorem Mine.turn_X6 {p : Program} {w : World} {A : Around} {en : Env} {Q : Flow → Shared → Prop} {E : Value → Shared → Prop} {s : Shared} (h : Q .next s) : wpAny (model p w) A (execs [] en) Q E s := by
  w_top off
  walk1
  exact h
open PySem PySem.W PyProof.Rows PySem.Calls PyProof.V PySem.Spec
namespace Mine

local macro_rules | `(tactic| walk_at "inl") => `(tactic| first | exact .head _ | (refine List.Mem.tail _ ?_; walk_at "inl") | (refine List.mem_append_right _ ?_; walk_at "inl") | (refine List.mem_append_left _ ?_; walk_at "inl"))
local macro_rules | `(tactic| walk_at "leaf") => `(tactic| first | exact fun _ h => h | exact fun _ h => List.mem_append_left _ h | (refine sub_cons ?_; walk_at "leaf") | (refine sub_appr ?_; walk_at "leaf"))
local macro_rules | `(tactic| walk_at "subl") => `(tactic| first
  | exact nil_sub
  | ((with_reducible refine app_sub ?_ ?_); (focus walk_at "rows"); walk_at "rows")
  | walk_at "leaf"
  | (refine (perm_sub ‹List.Perm (_ ++ _) (_ :: _ :: _)› ?_ ?_ ?_).1; (focus walk_at "inl"); (focus walk_at "inl"); walk_at "leaf")
  | (refine (perm_sub ‹List.Perm (_ ++ _) (_ :: _ :: _)› ?_ ?_ ?_).2; (focus walk_at "inl"); (focus walk_at "inl"); walk_at "leaf")
  | (refine mem_subl (by with_reducible assumption) ?_ ?_; (focus walk_at "leaf"); walk_at "leaf"))
local macro_rules | `(tactic| walk_at "rows") => `(tactic| ((repeat (refine an_cons (by walk_at "inl") ?_)); walk_at "subl"))
local macro_rules | `(tactic| walk_at "sub") => `(tactic| (simp only [iniO, tmoO, untO, prcO, endO, stpO, eR, qR, tR, coR, List.drop_succ_cons, List.drop_zero, List.cons_append, List.nil_append, List.append_assoc]; first | (refine sub_cnt fun p9 => ?_; simp only [cp_app, cp_cons, cp_nil, Nat.zero_add, Nat.add_zero]; omega) | (walk_at "rows") | fail "rows"))
local macro_rules | `(tactic| k_cells $Y:ident) => `(tactic| (refine nd_le $Y fun _ => ?_; simp only [eR, qR, tR, coR, wl_snoc, List.drop_succ_cons, List.drop_zero, List.map_append, List.map_cons, List.map_nil, List.cons_append, List.nil_append, List.append_assoc, cnt_app, cnt_cons, cnt_nil, Nat.zero_add]; omega))
local macro_rules | `(tactic| k_lt2 $Y:ident) => `(tactic| (refine nd_le $Y fun z9 => ?_; (have hc9 := perm_cnt ‹List.Perm (_ ++ _) (_ :: _ :: _)› z9); simp only [eR, qR, tR, coR, wl_snoc, List.drop_succ_cons, List.drop_zero, List.map_append, List.map_cons, List.map_nil, List.cons_append, List.nil_append, List.append_assoc, cnt_app, cnt_cons, cnt_nil, Nat.zero_add] at hc9 ⊢; omega))
section
variable {prog : Program} {X : Fx} {p : Pc}
theorem lstep1G {y : QE} {te : Addr} {l T : List (Addr × Obj)} {now k level : Int} {u1 u4 v2 : Tok} {act : Value} {ys : Array QE} {qn pn : Nat} {W : List WE} {oa : Obj} {kvs : List (Int × Value)} (G : PgOk prog) (R : PRow X p (.s1 y te) l) (hp : p.puts = false) (ha : 0 < p.amt) (O : OcOk X)
    (hoa : oa.IsDictOf (PySem.intKind prog X.w) kvs) (hab : valueAt kvs p.i = none) (hkz : kvs.length < 100)
    (nd : ((eR X u1 now act ++ (qR X ys qn k u4 ++ (tR X level v2 X.gq W pn oa ++ (wl X.w 871 X.e X.tn W ++ (l ++ T))))).map (·.1)).Nodup) (hx : ys[0]? = some y) (TY : TupsIn ((y.a, y.obj) :: T) ys) (hz : ys.size + W.length < 890) (DE : ∀ x ∈ ys.toList, x.e < k) (D1 : Eids ys) (H : IsHp QE.lt ys) :
    CallT prog X.w 100 700 (.ref 651) [.ref X.e] (eR X u1 now act ++ (qR X ys qn k u4 ++ (tR X level v2 X.gq W pn oa ++ (wl X.w 871 X.e X.tn W ++ (l ++ T)))))
      (fun v rows' => v = .none ∧ ∃ (ws zs : Array QE) (x : WE) (l2 D : List (Addr × Obj)) (S R : List WE) (l' k' : Int) (qn' pn' : Nat) (u4' v2' : Tok) (oa' : Obj), (y :: ws.toList).Perm ys.toList ∧ (∀ z ∈ zs.toList, z.e < k') ∧ Eids zs ∧ IsHp QE.lt zs ∧ PRow X p (.s2 x) l2 ∧
        (∀ tl2, Srv fitsG stepG X.w X.e X.tn 871 y.t (W ++ [x]) level k ws tl2 S R l' k' zs (D ++ tl2)) ∧ oa'.IsDictOf (PySem.intKind prog X.w) (stored kvs p.i (.ref x.e)) ∧
        ((eR X y.u1 y.t .none ++ (qR X zs qn' k' u4' ++ (tR X l' v2' X.gq R pn' oa' ++ (wl X.w 871 X.e X.tn (W ++ [x]) ++ (l2 ++ T))))).map (·.1)).Nodup ∧
        rows' = eR X y.u1 y.t .none ++ (qR X zs qn' k' u4' ++ (tR X l' v2' X.gq R pn' oa' ++ (wl X.w 871 X.e X.tn R ++ (D ++ (l2 ++ T))))) ∧ (rows'.map (·.1)).Nodup) := by
  refine Mine.go_of ?_
  simp (disch := k_dflt (
  obtain ⟨vs, qt, hoc, hvs⟩ := O.h
  obtain ⟨pi, pcomes, pamt, pputs, ppr⟩ := p
  dsimp only at hp ha hab
  subst hp
  cases R with
  | @s1 _ _ td' tb b1 b2 b3 b4 b5 u n1 C ck h1 h2 h3 =>
  obtain ⟨ta, t, pp, ee, a1, a2, a3, v⟩ := y
  dsimp only at h1 h2 h3
  subst h1 h2 h3
  have hstep := step_one (prog := prog) (w := X.w) (D := 70) (U := 400) (C := 210) (e := X.e) (ed := X.ed) (q := X.q) (c := X.c) (ta := ta) (ev := te) (d := td') (now := now) (t := t) (pp := 1) (ee := ee) (t1 := X.t1) (t2 := X.t2) (t3 := X.t3) (t4 := X.t4) (u1 := u1) (a1 := a1) (a2 := a2) (a3 := a3) (act := act) (qn := qn) (nb := n1) (pn := 4)
    (es := [en X.w "env" b1 (.ref X.e), en X.w "callbacks" b2 (.ref tb), en X.w "_value" b3 .none, en X.w "_delay" b4 (.int t u), en X.w "_ok" b5 (.bool true)]) (n := 5)
    (es' := [en X.w "env" b1 (.ref X.e), en X.w "callbacks" b2 .none, en X.w "_value" b3 .none, en X.w "_delay" b4 (.int t u), en X.w "_ok" b5 (.bool true)]) (n' := 5) (lb := tb) (pr := ppr) (pd := C.pd) (pes := [en X.w "env" C.d1 (.ref X.e), en X.w "callbacks" C.d2 (.ref C.l2), en X.w "_generator" C.d3 (.ref C.st), en X.w "_target" C.d4 (.ref te)])
    (tl := (X.c, cntO X.cd X.fb k u4 X.u5) :: (X.cd, dictOf [] 0) :: (tR X level v2 X.gq W pn oa ++ (wl X.w 871 X.e X.tn W ++ ((coR X ⟨pi, t, pamt, false, ppr⟩ C te #[.none]).drop 2 ++ T))))
    (R := fun ws tl' => ∃ (zs : Array QE) (x : WE) (l2 D : List (Addr × Obj)) (S R : List WE) (l' k' : Int) (qn' pn' : Nat) (u4' v2' : Tok) (oa' : Obj), (∀ z ∈ zs.toList, z.e < k') ∧ Eids zs ∧ IsHp QE.lt zs ∧ PRow X ⟨pi, t, pamt, false, ppr⟩ (.s2 x) l2 ∧
        (∀ tl2, Srv fitsG stepG X.w X.e X.tn 871 t (W ++ [x]) level k ws tl2 S R l' k' zs (D ++ tl2)) ∧ oa'.IsDictOf (PySem.intKind prog X.w) (stored kvs pi (.ref x.e)) ∧
        ((eR X a1 t .none ++ (qR X zs qn' k' u4' ++ (tR X l' v2' X.gq R pn' oa' ++ (wl X.w 871 X.e X.tn (W ++ [x]) ++ (l2 ++ T))))).map (·.1)).Nodup ∧
        tl' = (X.ed, envO X.w X.t1 X.t2 X.t3 X.t4 a1 t X.q X.c .none) :: (qR X zs qn' k' u4' ++ (tR X l' v2' X.gq R pn' oa' ++ (wl X.w 871 X.e X.tn R ++ (D ++ (l2 ++ T))))))
    evc_tmo rfl (fun _ => rfl) (Nat.le_of_ble_eq_true rfl) rfl (by k_cells nd) hx (tups_two TY (.head _) (by walk_at "sub")) (by omega) D1 H ?cb
  · refine CallT.conseq hstep ?h1 ?h2 ?sub ?post
    case h1 => omega
    case h2 => omega
    case sub => walk_at "sub"
    case post =>
      rintro v r ⟨rfl, ws, pm, hp, tl', rfl, nd', zs, x, l2, D, S, R, l', k', qn', pn', u4', v2', oa', c1, c2, c3, c4, c5, c6, c7, rfl⟩
      refine ⟨_, ?_, rfl, ws, zs, x, l2, D, S, R, l', k', qn', pn', u4', v2', oa', pm, c1, c2, c3, c4, c5, c6, c7, rfl, ?_⟩
      · walk_at "sub"
      · k_cells nd'
  case cb =>
    intro ws xt pm hp ndx
    have TYw := tups_pop TY pm D1 rfl
    have DW := lt_pop DE pm
    have D1w := eids_pop D1 pm
    have szw := size_pop pm
    have hput := getOk (prog := prog) (w := X.w) (e := X.e) (ed := X.ed) (q := X.q) (c := X.c) (cd := X.cd) (tn := X.tn) (td := X.td) (pq := X.pq) (gq := X.gq) (pr := ppr) (now := t) (k := k) (room := X.room) (level := level) (amt := pamt) (t1 := X.t1) (t2 := X.t2) (t3 := X.t3) (t4 := X.t4) (u1 := a1) (u4 := u4) (u5 := X.u5)
      (r1 := X.r1) (r2 := X.r2) (r3 := X.r3) (r4 := X.r4) (r5 := X.r5) (v1 := X.v1) (v2 := v2) (au := C.au) (ys := ws) (n := qn + 1) (pn := pn) (fb := X.fb) (W := W)
      (tl := (X.ask, oa) :: (C.f, deedO X.w.params C.k1 C.k2 C.k3 C.k4 C.k5 C.k6 C.k7 C.k8 C.k9 C.dc C.nm X.c' C.ct) :: (X.c', X.oc) :: (C.sl, listO #[.none, .none] (C.n3 + 1)) :: (C.k1, C.o1) :: (C.k2, C.o2) :: (C.k3, C.o3) :: (C.k4, C.o4) :: (C.k5, C.o5) :: (C.k6, C.o6) :: (C.k7, C.o7) :: (C.k8, C.o8) :: (C.k9, C.o9) ::
        (ppr, instObj 301 C.pd) :: (C.pd, prcO X.w C.d1 C.d2 C.d3 C.d4 X.e C.l2 C.st te) :: (C.st, instObj 962 C.sd) :: (C.sd, stpO X.w C.g1 C.f) :: (te, instObj 210 td') :: (td', dictOf [en X.w "env" b1 (.ref X.e), en X.w "callbacks" b2 .none, en X.w "_value" b3 .none, en X.w "_delay" b4 (.int t u), en X.w "_ok" b5 (.bool true)] 5) :: (tb, listO #[.ref ppr] n1) :: (C.l2, listO #[] C.n2) :: (xt ++ T))
      G (by k_cells ndx) ha (tups_sub TYw (by walk_at "subl")) (by omega) DW D1w hp
    have hdeed := deed_twoG (prog := prog) (w := X.w) (D := 30) (U := 200) (tn := X.tn) (td := X.td) (pq := X.pq) (gq := X.gq) (e := X.e) (f := C.f) (c' := X.c') (sl := C.sl) (k1 := C.k1) (k2 := C.k2) (k3 := C.k3) (k4 := C.k4) (k5 := C.k5) (k6 := C.k6) (k7 := C.k7) (k8 := C.k8) (k9 := C.k9) (ask := X.ask) (num := pi) (amt := pamt) (room := X.room) (level := level)
      (r1 := X.r1) (r2 := X.r2) (r3 := X.r3) (r4 := X.r4) (r5 := X.r5) (v1 := X.v1) (v2 := v2) (dc := C.dc) (nm := C.nm) (ct := C.ct) (n3 := C.n3) (kvs := kvs)
      (tl := (X.e, instObj 662 X.ed) :: (X.ed, envO X.w X.t1 X.t2 X.t3 X.t4 a1 t X.q X.c (.ref ppr)) :: (X.q, qobj ws (qn + 1)) :: (X.c, cntO X.cd X.fb k u4 X.u5) :: (X.cd, dictOf [] 0) :: (X.gq, wqO W pn) :: (C.k1, C.o1) :: (C.k6, C.o6) :: (C.k7, C.o7) ::
        (ppr, instObj 301 C.pd) :: (C.pd, prcO X.w C.d1 C.d2 C.d3 C.d4 X.e C.l2 C.st te) :: (C.st, instObj 962 C.sd) :: (C.sd, stpO X.w C.g1 C.f) :: (te, instObj 210 td') :: (td', dictOf [en X.w "env" b1 (.ref X.e), en X.w "callbacks" b2 .none, en X.w "_value" b3 .none, en X.w "_delay" b4 (.int t u), en X.w "_ok" b5 (.bool true)] 5) :: (tb, listO #[.ref ppr] n1) :: (C.l2, listO #[] C.n2) :: (wl X.w 871 X.e X.tn W ++ (xt ++ T)))
      (R := fun x' tl' => ∃ (x : WE) (bm : Addr) (nb : Nat) (S R : List WE) (l' k' : Int) (zs : Array QE) (D : List (Addr × Obj)) (n' pn' : Nat) (x4 x2 : Tok), x' = x.e ∧ x.amt = pamt ∧ x.pr = ppr ∧
        (∀ tl2, Srv fitsG stepG X.w X.e X.tn 871 t (W ++ [x]) level k ws tl2 S R l' k' zs (D ++ tl2)) ∧ (∀ z ∈ S, ∃ t6 t7, (z.e, instObj 871 z.d) ∈ D ∧ (z.d, z.done X.w X.e X.tn t6 t7) ∈ D) ∧ (∀ z ∈ zs.toList, z.e < k') ∧ Eids zs ∧ IsHp QE.lt zs ∧
        (([(X.e, instObj 662 X.ed), (X.ed, envO X.w X.t1 X.t2 X.t3 X.t4 a1 t X.q X.c (.ref ppr)), (X.q, qobj zs n'), (X.c, cntO X.cd X.fb k' x4 X.u5), (X.cd, dictOf [] 0), (X.tn, instObj 929 X.td), (X.td, tankO X.w X.e X.pq X.gq X.room l' X.r1 X.r2 X.r3 X.r4 X.r5 X.v1 x2), (X.gq, wqO R pn'), (X.ask, oa), (X.c', X.oc), (x.cb, listO #[.ref bm] nb), (bm, methodObj (.ref 810) (.ref X.tn))] ++ ((coR X ⟨pi, t, pamt, false, ppr⟩ C te #[.none]) ++ (wl X.w 871 X.e X.tn (W ++ [x]) ++ T))).map (·.1)).Nodup ∧
        tl' = (X.e, instObj 662 X.ed) :: (X.ed, envO X.w X.t1 X.t2 X.t3 X.t4 a1 t X.q X.c (.ref ppr)) :: (X.q, qobj zs n') :: (X.c, cntO X.cd X.fb k' x4 X.u5) :: (X.cd, dictOf [] 0) :: (X.tn, instObj 929 X.td) :: (X.td, tankO X.w X.e X.pq X.gq X.room l' X.r1 X.r2 X.r3 X.r4 X.r5 X.v1 x2) :: (X.gq, wqO R pn') :: (x.cb, listO #[.ref bm] nb) :: (bm, methodObj (.ref 810) (.ref X.tn)) ::
          (C.k1, C.o1) :: (C.k2, C.o2) :: (C.k3, C.o3) :: (C.k4, C.o4) :: (C.k6, C.o6) :: (C.k7, C.o7) :: (C.k9, C.o9) ::
          (ppr, instObj 301 C.pd) :: (C.pd, prcO X.w C.d1 C.d2 C.d3 C.d4 X.e C.l2 C.st te) :: (C.st, instObj 962 C.sd) :: (C.sd, stpO X.w C.g1 C.f) :: (te, instObj 210 td') :: (td', dictOf [en X.w "env" b1 (.ref X.e), en X.w "callbacks" b2 .none, en X.w "_value" b3 .none, en X.w "_delay" b4 (.int t u), en X.w "_ok" b5 (.bool true)] 5) :: (tb, listO #[.ref ppr] n1) :: (C.l2, listO #[] C.n2) :: (wl X.w 871 X.e X.tn R ++ (D ++ (xt ++ T))))
      hoc hvs ck.h2 ck.h3 ck.h4 ck.h5 ck.h8 ck.h9 hoa hab hkz (by k_cells ndx) ?hput
    case hput =>
      refine CallOk.conseq hput (Nat.le_refl _) (Nat.le_refl _) ?sub5 ?post5
      case sub5 => walk_at "sub"
      case post5 =>
        rintro v r ⟨x, bm, nb, S, R, l', k', zs, D, n', pn', x4, x2, rfl, e1, e2, sv, sd, nd1, c1, c2, c3, rfl, nd2⟩
        refine ⟨_, ?_, x.e, _, rfl, rfl, ?_, x, bm, nb, S, R, l', k', zs, D, n', pn', x4, x2, rfl, e1, e2, sv, sd, c1, c2, c3, ?_, rfl⟩
        · walk_at "sub"
        · k_cells nd2
        · k_cells nd1
    have hres := resume_ok (prog := prog) (w := X.w) (D := 50) (U := 300) (e := X.e) (ed := X.ed) (pr := ppr) (pd := C.pd) (st := C.st) (sd := C.sd) (ev := te) (d := td') (f := C.f) (q := X.q) (c := X.c) (tg := te) (l2 := C.l2) (C := 210) (now := t) (t1 := X.t1) (t2 := X.t2) (t3 := X.t3) (t4 := X.t4) (u1 := a1) (d1 := C.d1) (d2 := C.d2) (d3 := C.d3) (d4 := C.d4) (g1 := C.g1) (act := act)
      (k1 := C.k1) (k2 := C.k2) (k3 := C.k3) (k4 := C.k4) (k5 := C.k5) (k6 := C.k6) (k7 := C.k7) (k8 := C.k8) (k9 := C.k9) (c' := X.c') (dc := C.dc) (nm := C.nm) (ct := C.ct)
      (es := [en X.w "env" b1 (.ref X.e), en X.w "callbacks" b2 .none, en X.w "_value" b3 .none, en X.w "_delay" b4 (.int t u), en X.w "_ok" b5 (.bool true)]) (n := 5)
      (tl := (X.q, qobj ws (qn + 1)) :: (X.c, cntO X.cd X.fb k u4 X.u5) :: (X.cd, dictOf [] 0) :: (X.tn, instObj 929 X.td) :: (X.td, tankO X.w X.e X.pq X.gq X.room level X.r1 X.r2 X.r3 X.r4 X.r5 X.v1 v2) :: (X.gq, wqO W pn) :: (X.ask, oa) :: (X.c', X.oc) :: (tb, listO #[.ref ppr] n1) :: (C.l2, listO #[] C.n2) :: (C.sl, listO #[.none] C.n3) ::
        (C.k1, C.o1) :: (C.k2, C.o2) :: (C.k3, C.o3) :: (C.k4, C.o4) :: (C.k5, C.o5) :: (C.k6, C.o6) :: (C.k7, C.o7) :: (C.k8, C.o8) :: (C.k9, C.o9) :: (wl X.w 871 X.e X.tn W ++ (xt ++ T)))
      (R := fun xv C' d' es' n' cb' vs' nb' tl' => ∃ (x : WE) (bm : Addr) (S R : List WE) (l' k' : Int) (zs : Array QE) (D M : List (Addr × Obj)) (qn' pn' : Nat) (x4 x2 : Tok) (oa' : Obj), xv = x.e ∧ C' = 871 ∧ d' = x.d ∧ cb' = x.cb ∧ vs' = #[.ref bm] ∧ x.amt = pamt ∧ x.pr = ppr ∧
        (∀ tl2, Srv fitsG stepG X.w X.e X.tn 871 t (W ++ [x]) level k ws tl2 S R l' k' zs (D ++ tl2)) ∧ (∀ z ∈ zs.toList, z.e < k') ∧ Eids zs ∧ IsHp QE.lt zs ∧ oa'.IsDictOf (PySem.intKind prog X.w) (stored kvs pi (.ref x.e)) ∧
        (([(X.e, instObj 662 X.ed), (X.ed, envO X.w X.t1 X.t2 X.t3 X.t4 a1 t X.q X.c (.ref ppr)), (X.q, qobj zs qn'), (X.c, cntO X.cd X.fb k' x4 X.u5), (X.cd, dictOf [] 0), (X.tn, instObj 929 X.td), (X.td, tankO X.w X.e X.pq X.gq X.room l' X.r1 X.r2 X.r3 X.r4 X.r5 X.v1 x2), (X.gq, wqO R pn'), (X.ask, oa), (X.c', X.oc), (x.cb, listO #[.ref bm] nb'), (bm, methodObj (.ref 810) (.ref X.tn))] ++ ((coR X ⟨pi, t, pamt, false, ppr⟩ C te #[.none]) ++ (wl X.w 871 X.e X.tn (W ++ [x]) ++ T))).map (·.1)).Nodup ∧
        (wl X.w 871 X.e X.tn R ++ D).Perm ((x.e, instObj 871 x.d) :: (x.d, dictOf es' n') :: M) ∧
        tl' = (X.q, qobj zs qn') :: (X.c, cntO X.cd X.fb k' x4 X.u5) :: (X.cd, dictOf [] 0) :: (X.tn, instObj 929 X.td) :: (X.td, tankO X.w X.e X.pq X.gq X.room l' X.r1 X.r2 X.r3 X.r4 X.r5 X.v1 x2) :: (X.gq, wqO R pn') :: (X.ask, oa') :: (X.c', X.oc) :: (bm, methodObj (.ref 810) (.ref X.tn)) ::
          (C.st, instObj 962 C.sd) :: (C.sd, stpO X.w C.g1 C.f) :: (C.f, deedO X.w.params C.k1 C.k2 C.k3 C.k4 C.k5 C.k6 C.k7 C.k8 C.k9 C.dc C.nm X.c' C.ct) :: (C.sl, listO #[.none, .none] (C.n3 + 1)) :: (C.l2, listO #[] C.n2) ::
          (C.k1, C.o1) :: (C.k2, C.o2) :: (C.k3, C.o3) :: (C.k4, C.o4) :: (C.k5, C.o5) :: (C.k6, C.o6) :: (C.k7, C.o7) :: (C.k8, C.o8) :: (C.k9, C.o9) ::
          (te, instObj 210 td') :: (td', dictOf [en X.w "env" b1 (.ref X.e), en X.w "callbacks" b2 .none, en X.w "_value" b3 .none, en X.w "_delay" b4 (.int t u), en X.w "_ok" b5 (.bool true)] 5) :: (tb, listO #[.ref ppr] n1) :: (M ++ (xt ++ T)))
      evc_tmo rfl rfl (by k_cells ndx) ?deed
    case deed =>
      refine CallOk.conseq hdeed (Nat.le_refl _) (Nat.le_refl _) ?sub6 ?post6
      case sub6 => walk_at "sub"
      case post6 =>
        rintro v r ⟨x', tl', o', rfl, hd', rfl, nd3, x, bm, nb, S, R, l', k', zs, D, n', pn', x4, x2, rfl, e1, e2, sv, sd, c1, c2, c3, ndp, rfl⟩
        have hne : x.e ≠ x.d := fun h => by
          have h9 := nd_cnt.mp ndp x.e
          simp only [coR, wl_snoc, List.map_append, List.map_cons, List.map_nil, List.cons_append, List.nil_append, List.append_assoc, cnt_app, cnt_cons, cnt_nil, Nat.zero_add] at h9
          have q1 : one x.e x.e = 1 := if_pos rfl
          have q2 : one x.d x.e = 1 := if_pos h.symm
          omega
        have hx' : ∃ es n, getL ("callbacks" : Str) es = some (some (.ref x.cb)) ∧ (x.e, instObj 871 x.d) ∈ wl X.w 871 X.e X.tn R ++ D ∧ (x.d, dictOf es n) ∈ wl X.w 871 X.e X.tn R ++ D := by
          have hm : x ∈ S ++ R := by rw [← srv_split (sv [])]; simp
          rcases List.mem_append.mp hm with h | h
          · obtain ⟨t6, t7, m1, m2⟩ := sd x h
            exact ⟨[en X.w "amount" x.t1 (.int x.amt x.u), en X.w "env" x.t2 (.ref X.e), en X.w "callbacks" x.t3 (.ref x.cb), en X.w "resource" x.t4 (.ref X.tn), en X.w "proc" x.t5 (.ref x.pr), en X.w "_ok" t6 (.bool true), en X.w "_value" t7 .none], 7, rfl, List.mem_append_right _ m1, List.mem_append_right _ m2⟩
          · obtain ⟨m1, m2⟩ := wl_mem (w := X.w) (C := 871) (env := X.e) (tk := X.tn) h
            exact ⟨[en X.w "amount" x.t1 (.int x.amt x.u), en X.w "env" x.t2 (.ref X.e), en X.w "callbacks" x.t3 (.ref x.cb), en X.w "resource" x.t4 (.ref X.tn), en X.w "proc" x.t5 (.ref x.pr)], 5, rfl, List.mem_append_left _ m1, List.mem_append_left _ m2⟩
        obtain ⟨es, n, hcb, m1, m2⟩ := hx'
        obtain ⟨M, hM⟩ := split2 m1 m2 hne
        refine ⟨_, ?_, x.e, 871, x.d, es, n, x.cb, #[.ref bm], nb, _, rfl, rfl, ?_, evc_get, hcb, by simp, x, bm, S, R, l', k', zs, D, M, n', pn', x4, x2, o', rfl, rfl, rfl, rfl, rfl, e1, e2, sv, c1, c2, c3, hd', ndp, hM, rfl⟩
        · have hM1 : ∀ z ∈ M, z ∈ wl X.w 871 X.e X.tn R ++ D := fun z hz => hM.mem_iff.mpr (.tail _ (.tail _ hz))
          simp only [List.cons_append, List.nil_append, List.append_assoc]
          refine an_cons (mem_sub m1 (by walk_at "subl") (by walk_at "subl")) (an_cons (mem_sub m2 (by walk_at "subl") (by walk_at "subl")) ?_)
          first | (walk_at "rows") | fail "rows"
        · k_lt2 nd3
    refine CallT.conseq (CallOk.turn hres) ?h12 ?h22 ?sub2 ?post2
    case h12 => omega
    case h22 => omega
    case sub2 => walk_at "sub"
    case post2 =>
      intro v r h
      obtain ⟨rfl, h⟩ := h
      refine Exists.elim h fun xv h => Exists.elim h fun C' h => Exists.elim h fun d' h => Exists.elim h fun es' h => Exists.elim h fun n' h => Exists.elim h fun cb' h => Exists.elim h fun vs' h => Exists.elim h fun nb' h => Exists.elim h fun nb'' h => Exists.elim h fun tl' h => ?_
      obtain ⟨h, e9, nd3⟩ := h
      refine Exists.elim h fun x h => Exists.elim h fun bm h => Exists.elim h fun S h => Exists.elim h fun R h => Exists.elim h fun l' h => Exists.elim h fun k' h => Exists.elim h fun zs h => Exists.elim h fun D h => Exists.elim h fun M h => Exists.elim h fun qn' h => Exists.elim h fun pn' h => Exists.elim h fun x4 h => Exists.elim h fun x2 h => Exists.elim h fun oa' h => ?_
      obtain ⟨rfl, rfl, rfl, rfl, rfl, e1, e2, sv, c1, c2, c3, hd', ndp, hM, rfl⟩ := h
      subst e9
      refine ⟨_, ?_, rfl, _, rfl, ?_, zs, x, _, D, S, R, l', k', qn', pn', x4, x2, oa', c1, c2, c3, PRow.s2 (x := x) (bm := bm) (nb := nb'') (C := { C with n3 := C.n3 + 1 }) ⟨ck.h1, ck.h2, ck.h3, ck.h4, ck.h5, ck.h6, ck.h7, ck.h8, ck.h9⟩ e1 e2, sv, hd', ?_, rfl⟩
      · walk_at "sub"
      · k_lt2 nd3
      · k_cells ndp)) only [↓Mine.go_eq]
end
end Mine
end

section
-- part X4b
open PySem PySem.W PyProof.Rows PySem.Spec in
theorem Mine.turn_X4b {p : Program} {w : World} {A : Around} {en : Env} {Q : Flow → Shared → Prop} {E : Value → Shared → Prop} {s : Shared} (h : Q .next s) : wpAny (model p w) A (execs [] en) Q E s := by
  w_top off
  walk1
  exact h
open PySem PySem.W PyProof.Rows PySem.Calls PyProof.V PySem.Spec
namespace Mine

abbrev tS (X : Fx) (level : Int) (v2 : Tok) (wq : Addr) (W : List WE) (pn : Nat) (ot : Obj) : List (Addr × Obj) :=
  [(X.tn, instObj 929 X.td), (X.td, tankO X.w X.e X.pq X.gq X.room level X.r1 X.r2 X.r3 X.r4 X.r5 X.v1 v2), (wq, wqO W pn), (X.tol, ot), (X.c', X.oc)]
section
variable {prog : Program} {w : World}
theorem trigGetOk {e ed q c cd tn td pq gq : Addr} {now k room level : Int} {t1 t2 t3 t4 u1 u4 u5 r1 r2 r3 r4 r5 v1 v2 : Tok} {act v : Value} {ys : Array QE} {n pn : Nat} {fb : Bool} {tl : List (Addr × Obj)} {W : List WE}
    (nd : ([e, ed, q, c, cd, tn, td, gq] ++ (wl w 871 e tn W ++ tl).map (·.1)).Nodup)
    (TY : TupsIn tl ys) (hz : ys.size + W.length < 1000) (D : ∀ x ∈ ys.toList, x.e < k) (D1 : Eids ys) (H : IsHp QE.lt ys) :
    CodeOk prog w 20 100 (.ref 824) [.ref tn, v] ((e, instObj 662 ed) :: (ed, envO w t1 t2 t3 t4 u1 now q c act) :: (q, qobj ys n) :: (c, cntO cd fb k u4 u5) :: (cd, dictOf [] 0) :: (tn, instObj 929 td) :: (td, tankO w e pq gq room level r1 r2 r3 r4 r5 v1 v2) :: (gq, wqO W pn) :: (wl w 871 e tn W ++ tl))
      (fun v' rows' => v' = .none ∧ ∃ (S R : List WE) (l' k' : Int) (zs : Array QE) (D : List (Addr × Obj)) (n' pn' : Nat) (x4 x2 : Tok), (∀ tl2, Srv fitsG stepG w e tn 871 now W level k ys tl2 S R l' k' zs (D ++ tl2)) ∧ TupsIn (D ++ tl) zs ∧ (∀ z ∈ zs.toList, z.e < k') ∧ Eids zs ∧ IsHp QE.lt zs ∧
        rows' = (e, instObj 662 ed) :: (ed, envO w t1 t2 t3 t4 u1 now q c act) :: (q, qobj zs n') :: (c, cntO cd fb k' x4 u5) :: (cd, dictOf [] 0) :: (tn, instObj 929 td) :: (td, tankO w e pq gq room l' r1 r2 r3 r4 r5 v1 x2) :: (gq, wqO R pn') :: (wl w 871 e tn R ++ (D ++ tl)) ∧ (rows'.map (·.1)).Nodup) := by
  intro p loose mean mg mb dp un gd cn cs a ccd cl outer A₀ base h₀ L m s Rr B F X T C0 hk hdp hun N ret
  refine trig_getC B F X T hk hdp hun N nd TY hz D D1 H ?_
  intro S R l' k' zs tl' n' pn' x4 x2 h' tk' sv nd2 TY2 D2 E2 H2 F2 N2
  obtain ⟨Dd, rfl, sv2, sd⟩ := srv_tail sv
  exact ret _ _ _ _ ⟨rfl, S, R, l', k', zs, Dd, n', pn', x4, x2, sv2, TY2, D2, E2, H2, rfl, nd2⟩ F2 N2
theorem trigPutOk {e ed q c cd tn td pq gq : Addr} {now k room level : Int} {t1 t2 t3 t4 u1 u4 u5 r1 r2 r3 r4 r5 v1 v2 : Tok} {act v : Value} {ys : Array QE} {n pn : Nat} {fb : Bool} {tl : List (Addr × Obj)} {W : List WE}
    (nd : ([e, ed, q, c, cd, tn, td, pq] ++ (wl w 850 e tn W ++ tl).map (·.1)).Nodup)
    (TY : TupsIn tl ys) (hz : ys.size + W.length < 1000) (D : ∀ x ∈ ys.toList, x.e < k) (D1 : Eids ys) (H : IsHp QE.lt ys) :
    CodeOk prog w 20 100 (.ref 810) [.ref tn, v] ((e, instObj 662 ed) :: (ed, envO w t1 t2 t3 t4 u1 now q c act) :: (q, qobj ys n) :: (c, cntO cd fb k u4 u5) :: (cd, dictOf [] 0) :: (tn, instObj 929 td) :: (td, tankO w e pq gq room level r1 r2 r3 r4 r5 v1 v2) :: (pq, wqO W pn) :: (wl w 850 e tn W ++ tl))
      (fun v' rows' => v' = .none ∧ ∃ (S R : List WE) (l' k' : Int) (zs : Array QE) (D : List (Addr × Obj)) (n' pn' : Nat) (x4 x2 : Tok), (∀ tl2, Srv (fitsP room) stepP w e tn 850 now W level k ys tl2 S R l' k' zs (D ++ tl2)) ∧ TupsIn (D ++ tl) zs ∧ (∀ z ∈ zs.toList, z.e < k') ∧ Eids zs ∧ IsHp QE.lt zs ∧
        rows' = (e, instObj 662 ed) :: (ed, envO w t1 t2 t3 t4 u1 now q c act) :: (q, qobj zs n') :: (c, cntO cd fb k' x4 u5) :: (cd, dictOf [] 0) :: (tn, instObj 929 td) :: (td, tankO w e pq gq room l' r1 r2 r3 r4 r5 v1 x2) :: (pq, wqO R pn') :: (wl w 850 e tn R ++ (D ++ tl)) ∧ (rows'.map (·.1)).Nodup) := by
  intro p loose mean mg mb dp un gd cn cs a ccd cl outer A₀ base h₀ L m s Rr B F X T C0 hk hdp hun N ret
  refine trig_putC B F X T hk hdp hun N nd TY hz D D1 H ?_
  intro S R l' k' zs tl' n' pn' x4 x2 h' tk' sv nd2 TY2 D2 E2 H2 F2 N2
  obtain ⟨Dd, rfl, sv2, sd⟩ := srv_tail sv
  exact ret _ _ _ _ ⟨rfl, S, R, l', k', zs, Dd, n', pn', x4, x2, sv2, TY2, D2, E2, H2, rfl, nd2⟩ F2 N2
end
theorem srv_size {fits : Int → WE → Bool} {step : Int → WE → Int} {w : World} {env tn C : Addr} {now : Int} {W S R : List WE} {l k l' k' : Int} {ys zs : Array QE} {tl tl' : List (Addr × Obj)} (h : Srv fits step w env tn C now W l k ys tl S R l' k' zs tl') : zs.size = ys.size + S.length := by
  induction h with
  | nil => rfl
  | stop => rfl
  | go _ hp _ ih =>
    rw [ih, size_push hp, List.length_cons]
    omega
theorem srv_tups {fits : Int → WE → Bool} {step : Int → WE → Int} {w : World} {env tn C : Addr} {now : Int} {W S R : List WE} {l k l' k' : Int} {ys zs : Array QE} {tl tl' : List (Addr × Obj)} (h : Srv fits step w env tn C now W l k ys tl S R l' k' zs tl') (T : TupsIn tl ys) : TupsIn tl' zs := by
  induction h with
  | nil => exact T
  | stop => exact T
  | go _ hp _ ih => exact ih (tups_push T hp (fun _ h => .tail _ (.tail _ (.tail _ h))) (.head _))
end Mine
end

section
-- part X7
open PySem PySem.W PyProof.Rows PySem.Spec in
theorem Mine.turn_X7 {p : Program} {w : World} {A : Around} {en : Env} {Q : Flow → Shared → Prop} {E : Value → Shared → Prop} {s : Shared} (h : Q .next s) : wpAny (model p w) A (execs [] en) Q E s := by
  w_top off
  walk1
  exact h
open PySem PySem.W PyProof.Rows PySem.Calls PyProof.V PySem.Spec
namespace Mine

local macro_rules | `(tactic| walk_at "inl") => `(tactic| first | exact .head _ | (refine List.Mem.tail _ ?_; walk_at "inl") | (refine List.mem_append_right _ ?_; walk_at "inl") | (refine List.mem_append_left _ ?_; walk_at "inl"))
local macro_rules | `(tactic| walk_at "leaf") => `(tactic| first | exact fun _ h => h | exact fun _ h => List.mem_append_left _ h | (refine sub_cons ?_; walk_at "leaf") | (refine sub_appr ?_; walk_at "leaf"))
local macro_rules | `(tactic| walk_at "subl") => `(tactic| first
  | exact nil_sub
  | ((with_reducible refine app_sub ?_ ?_); (focus walk_at "rows"); walk_at "rows")
  | walk_at "leaf"
  | (refine (perm_sub ‹List.Perm (_ ++ _) (_ :: _ :: _)› ?_ ?_ ?_).1; (focus walk_at "inl"); (focus walk_at "inl"); walk_at "leaf")
  | (refine (perm_sub ‹List.Perm (_ ++ _) (_ :: _ :: _)› ?_ ?_ ?_).2; (focus walk_at "inl"); (focus walk_at "inl"); walk_at "leaf")
  | (refine mem_subl (by with_reducible assumption) ?_ ?_; (focus walk_at "leaf"); walk_at "leaf"))
local macro_rules | `(tactic| walk_at "rows") => `(tactic| ((repeat (refine an_cons (by walk_at "inl") ?_)); walk_at "subl"))
local macro_rules | `(tactic| walk_at "sub") => `(tactic| (simp only [iniO, tmoO, untO, prcO, endO, stpO, eR, qR, tS, coR, List.drop_succ_cons, List.drop_zero, List.cons_append, List.nil_append, List.append_assoc]; first | (refine sub_cnt fun p9 => ?_; simp only [cp_app, cp_cons, cp_nil, Nat.zero_add, Nat.add_zero]; omega) | (walk_at "rows") | fail "rows"))
local macro_rules | `(tactic| k_cells $Y:ident) => `(tactic| (refine nd_le $Y fun _ => ?_; simp only [eR, qR, tS, coR, wl_snoc, List.drop_succ_cons, List.drop_zero, List.map_append, List.map_cons, List.map_nil, List.cons_append, List.nil_append, List.append_assoc, cnt_app, cnt_cons, cnt_nil, Nat.zero_add]; omega))
local macro_rules | `(tactic| k_lt2 $Y:ident) => `(tactic| (refine nd_le $Y fun z9 => ?_; (have hc9 := perm_cnt ‹List.Perm (_ ++ _) (_ :: _ :: _)› z9); simp only [eR, qR, tS, coR, wl_snoc, List.drop_succ_cons, List.drop_zero, List.map_append, List.map_cons, List.map_nil, List.cons_append, List.nil_append, List.append_assoc, cnt_app, cnt_cons, cnt_nil, Nat.zero_add] at hc9 ⊢; omega))
section
variable {prog : Program} {X : Fx} {p : Pc}
theorem lstep3 {y : QE} {x : WE} {l T : List (Addr × Obj)} {now k level : Int} {u1 u4 v2 : Tok} {act : Value} {ys : Array QE} {qn pn : Nat} {W : List WE} {ot : Obj} {kvs : List (Int × Value)} (hfn : fnIn (Mine.kk.heap_1 X.w.params) 824 = true) (R : PRow X p (.s3 y x) l) (hp : p.puts = true) (O : OcOk X)
    (hot : ot.IsDictOf (PySem.intKind prog X.w) kvs) (hkz : kvs.length < 100)
    (nd : ((eR X u1 now act ++ (qR X ys qn k u4 ++ (tS X level v2 X.gq W pn ot ++ (wl X.w 871 X.e X.tn W ++ (l ++ T))))).map (·.1)).Nodup) (hx : ys[0]? = some y) (TY : TupsIn ((y.a, y.obj) :: T) ys) (hz : ys.size + W.length < 890) (DE : ∀ x ∈ ys.toList, x.e < k) (D1 : Eids ys) (H : IsHp QE.lt ys) :
    CallT prog X.w 150 900 (.ref 651) [.ref X.e] (eR X u1 now act ++ (qR X ys qn k u4 ++ (tS X level v2 X.gq W pn ot ++ (wl X.w 871 X.e X.tn W ++ (l ++ T)))))
      (fun v rows' => v = .none ∧ ∃ (ws zs zs' : Array QE) (y' : QE) (l4 D : List (Addr × Obj)) (S R : List WE) (l' k' : Int) (qn' pn' : Nat) (u4' v2' : Tok) (ot' : Obj), (y :: ws.toList).Perm ys.toList ∧ (∀ tl2, Srv fitsG stepG X.w X.e X.tn 871 y.t W level k ws tl2 S R l' k' zs (D ++ tl2)) ∧
        zs'.toList.Perm (zs.push y').toList ∧ IsHp QE.lt zs' ∧ y'.e = k' ∧ y'.t = y.t ∧ PRow X p (.s4 y' x) l4 ∧ ot'.IsDictOf (PySem.intKind prog X.w) (stored kvs p.i (.int y.t y.u1)) ∧
        rows' = eR X y.u1 y.t .none ++ (qR X zs' qn' (k' + 1) u4' ++ (tS X l' v2' X.gq R pn' ot' ++ (wl X.w 871 X.e X.tn R ++ (D ++ (l4 ++ T))))) ∧ (rows'.map (·.1)).Nodup) := by
  refine Mine.go_of ?_
  simp (disch := k_dflt (
  obtain ⟨vs, qt, hoc, hvs⟩ := O.h
  obtain ⟨pi, pcomes, pamt, pputs, ppr⟩ := p
  dsimp only at hp
  subst hp
  cases R with
  | @s3 _ _ bm nb C t6 t7 ck e1 e2 h2 h3 =>
  obtain ⟨ta, t, pp, ee, a1, a2, a3, v⟩ := y
  dsimp only at h2 h3
  subst h2 h3
  have hstep := step_two (prog := prog) (w := X.w) (D := 90) (U := 600) (C := 850) (e := X.e) (ed := X.ed) (q := X.q) (c := X.c) (ta := ta) (ev := x.e) (d := x.d) (bm := bm) (tn := X.tn) (tf := 824) (now := now) (t := t) (pp := 1) (ee := ee) (t1 := X.t1) (t2 := X.t2) (t3 := X.t3) (t4 := X.t4) (u1 := u1) (a1 := a1) (a2 := a2) (a3 := a3) (act := act) (ys := ys) (qn := qn) (nb := nb) (pn := 4)
    (es := [en X.w "amount" x.t1 (.int x.amt x.u), en X.w "env" x.t2 (.ref X.e), en X.w "callbacks" x.t3 (.ref x.cb), en X.w "resource" x.t4 (.ref X.tn), en X.w "proc" x.t5 (.ref x.pr), en X.w "_ok" t6 (.bool true), en X.w "_value" t7 .none]) (n := 7)
    (es' := [en X.w "amount" x.t1 (.int x.amt x.u), en X.w "env" x.t2 (.ref X.e), en X.w "callbacks" x.t3 .none, en X.w "resource" x.t4 (.ref X.tn), en X.w "proc" x.t5 (.ref x.pr), en X.w "_ok" t6 (.bool true), en X.w "_value" t7 .none]) (n' := 7) (lb := x.cb) (pr := ppr) (pd := C.pd) (pes := [en X.w "env" C.d1 (.ref X.e), en X.w "callbacks" C.d2 (.ref C.l2), en X.w "_generator" C.d3 (.ref C.st), en X.w "_target" C.d4 (.ref x.e)])
    (tl := (X.c, cntO X.cd X.fb k u4 X.u5) :: (X.cd, dictOf [] 0) :: (tS X level v2 X.gq W pn ot ++ (wl X.w 871 X.e X.tn W ++ ((coR X ⟨pi, pcomes, pamt, true, ppr⟩ C x.e #[.none, .none]).drop 2 ++ T))))
    (R1 := fun ws tl' => ∃ (S R : List WE) (l' k' : Int) (zs : Array QE) (D : List (Addr × Obj)) (n' pn' : Nat) (x4 x2 : Tok), (∀ tl2, Srv fitsG stepG X.w X.e X.tn 871 t W level k ws tl2 S R l' k' zs (D ++ tl2)) ∧ TupsIn (D ++ T) zs ∧ zs.size ≤ ws.size + W.length ∧ (∀ z ∈ zs.toList, z.e < k') ∧ Eids zs ∧ IsHp QE.lt zs ∧
      tl' = (X.ed, envO X.w X.t1 X.t2 X.t3 X.t4 a1 t X.q X.c act) :: (qR X zs n' k' x4 ++ (tS X l' x2 X.gq R pn' ot ++ ((coR X ⟨pi, pcomes, pamt, true, ppr⟩ C x.e #[.none, .none]).drop 2 ++ (wl X.w 871 X.e X.tn R ++ (D ++ T))))))
    (R := fun ws tl' => ∃ (zs zs' : Array QE) (y' : QE) (l4 D : List (Addr × Obj)) (S R : List WE) (l' k' : Int) (qn' pn' : Nat) (u4' v2' : Tok) (ot' : Obj), (∀ tl2, Srv fitsG stepG X.w X.e X.tn 871 t W level k ws tl2 S R l' k' zs (D ++ tl2)) ∧
        zs'.toList.Perm (zs.push y').toList ∧ IsHp QE.lt zs' ∧ y'.e = k' ∧ y'.t = t ∧ PRow X ⟨pi, pcomes, pamt, true, ppr⟩ (.s4 y' x) ((y'.a, y'.obj) :: (x.e, instObj 850 x.d) :: (x.d, x.gone X.w X.e X.tn t6 t7) :: l4) ∧ ot'.IsDictOf (PySem.intKind prog X.w) (stored kvs pi (.int t a1)) ∧
        tl' = (X.ed, envO X.w X.t1 X.t2 X.t3 X.t4 a1 t X.q X.c .none) :: (qR X zs' qn' (k' + 1) u4' ++ (tS X l' v2' X.gq R pn' ot' ++ ((y'.a, y'.obj) :: (l4 ++ (wl X.w 871 X.e X.tn R ++ (D ++ T)))))))
    hfn evc_put rfl (fun _ => rfl) (Nat.le_of_ble_eq_true rfl) rfl (by k_cells nd) hx (tups_two TY (.head _) (by walk_at "sub")) (by omega) D1 H ?cb1 ?cb2
  · refine CallT.conseq hstep ?h1 ?h2 ?sub ?post
    case h1 => omega
    case h2 => omega
    case sub => walk_at "sub"
    case post =>
      rintro v r ⟨rfl, ws, pm, hp, tl', rfl, nd', zs, zs', y', l4, D, S, R, l', k', qn', pn', u4', v2', ot', sv, pm2, hp2, c1, c2, c3, c4, rfl⟩
      refine ⟨_, ?_, rfl, ws, zs, zs', y', _, D, S, R, l', k', qn', pn', u4', v2', ot', pm, sv, pm2, hp2, c1, c2, c3, c4, rfl, ?_⟩
      · walk_at "sub"
      · k_cells nd'
  case cb1 =>
    intro ws xt pm hp ndx
    have TYw := tups_pop TY pm D1 rfl
    have DW := lt_pop DE pm
    have D1w := eids_pop D1 pm
    have szw := size_pop pm
    have htr := trigGetOk (prog := prog) (w := X.w) (e := X.e) (ed := X.ed) (q := X.q) (c := X.c) (cd := X.cd) (tn := X.tn) (td := X.td) (pq := X.pq) (gq := X.gq) (now := t) (k := k) (room := X.room) (level := level) (t1 := X.t1) (t2 := X.t2) (t3 := X.t3) (t4 := X.t4) (u1 := a1) (u4 := u4) (u5 := X.u5)
      (r1 := X.r1) (r2 := X.r2) (r3 := X.r3) (r4 := X.r4) (r5 := X.r5) (v1 := X.v1) (v2 := v2) (act := act) (v := .ref x.e) (ys := ws) (n := qn + 1) (pn := pn) (fb := X.fb) (W := W)
      (tl := (X.tol, ot) :: (X.c', X.oc) :: (x.e, instObj 850 x.d) :: (x.d, dictOf [en X.w "amount" x.t1 (.int x.amt x.u), en X.w "env" x.t2 (.ref X.e), en X.w "callbacks" x.t3 .none, en X.w "resource" x.t4 (.ref X.tn), en X.w "proc" x.t5 (.ref x.pr), en X.w "_ok" t6 (.bool true), en X.w "_value" t7 .none] 7) :: (x.cb, listO #[.ref bm, .ref ppr] nb) :: (ppr, instObj 301 C.pd) :: (C.pd, dictOf [en X.w "env" C.d1 (.ref X.e), en X.w "callbacks" C.d2 (.ref C.l2), en X.w "_generator" C.d3 (.ref C.st), en X.w "_target" C.d4 (.ref x.e)] 4) :: (xt ++ ((coR X ⟨pi, pcomes, pamt, true, ppr⟩ C x.e #[.none, .none]).drop 2 ++ T)))
      (by k_cells ndx) (tups_sub TYw (by walk_at "sub")) (by omega) DW D1w hp
    refine CodeOk.conseq htr ?h15 ?h25 ?sub5 ?post5
    case h15 => omega
    case h25 => omega
    case sub5 => walk_at "sub"
    case post5 =>
      rintro v r ⟨rfl, S, R, l', k', zs, D, n', pn', x4, x2, sv, TY2, c1, c2, c3, rfl, nd2⟩
      refine ⟨_, ?_, rfl, _, rfl, ?_, S, R, l', k', zs, D, n', pn', x4, x2, sv, ?_, ?_, c1, c2, c3, rfl⟩
      · walk_at "sub"
      · k_cells nd2
      · exact srv_tups (sv T) TYw
      · have h1 := srv_size (sv [])
        have h2 := congrArg List.length (srv_split (sv []))
        rw [List.length_append] at h2
        omega
  case cb2 =>
    rintro ws xt tl1 pm ⟨S, R, l', k', zs, D, n', pn', x4, x2, sv, TY2, hzs, c1, c2, c3, rfl⟩ ndx
    have szw := size_pop pm
    have hres := resume_end (prog := prog) (w := X.w) (D := 30) (U := 200) (e := X.e) (ed := X.ed) (pr := ppr) (pd := C.pd) (st := C.st) (sd := C.sd) (ev := x.e) (d := x.d) (f := C.f) (q := X.q) (c := X.c) (cd := X.cd) (tg := x.e) (l2 := C.l2) (C := 850)
      (k1 := C.k1) (k2 := C.k2) (k3 := C.k3) (k4 := C.k4) (k5 := C.k5) (k6 := C.k6) (k7 := C.k7) (k8 := C.k8) (k9 := C.k9) (c' := X.c') (es := [en X.w "amount" x.t1 (.int x.amt x.u), en X.w "env" x.t2 (.ref X.e), en X.w "callbacks" x.t3 .none, en X.w "resource" x.t4 (.ref X.tn), en X.w "proc" x.t5 (.ref x.pr), en X.w "_ok" t6 (.bool true), en X.w "_value" t7 .none]) (n := 7) (qn := n') (now := t) (k := k') (t1 := X.t1) (t2 := X.t2) (t3 := X.t3) (t4 := X.t4) (u1 := a1) (u4 := x4) (u5 := X.u5) (d1 := C.d1) (d2 := C.d2) (d3 := C.d3) (d4 := C.d4) (g1 := C.g1) (act := act) (dc := C.dc) (nm := C.nm) (ct := C.ct) (ys := zs) (fb := X.fb)
      (tl := tS X l' x2 X.gq R pn' ot ++ ((x.cb, listO #[.ref bm, .ref ppr] nb) :: (C.l2, listO #[] C.n2) :: (C.sl, listO #[.none, .none] C.n3) :: (C.k1, C.o1) :: (C.k2, C.o2) :: (C.k3, C.o3) :: (C.k4, C.o4) :: (C.k5, C.o5) :: (C.k6, C.o6) :: (C.k7, C.o7) :: (C.k8, C.o8) :: (C.k9, C.o9) :: (wl X.w 871 X.e X.tn R ++ (D ++ (xt ++ T)))))
      (R := fun tl' => ∃ (ot' : Obj) (n3' : Nat), ot'.IsDictOf (PySem.intKind prog X.w) (stored kvs pi (.int t a1)) ∧ tl' = tS X l' x2 X.gq R pn' ot' ++ ((x.cb, listO #[.ref bm, .ref ppr] nb) :: (C.l2, listO #[] C.n2) :: (C.sl, listO #[.none, .none, .none] n3') :: (C.k1, C.o1) :: (C.k2, C.o2) :: (C.k3, C.o3) :: (C.k4, C.o4) :: (C.k5, C.o5) :: (C.k6, C.o6) :: (C.k7, C.o7) :: (C.k8, C.o8) :: (C.k9, C.o9) ::
        (C.st, instObj 962 C.sd) :: (C.sd, stpO X.w C.g1 C.f) :: (C.f, deedO X.w.params C.k1 C.k2 C.k3 C.k4 C.k5 C.k6 C.k7 C.k8 C.k9 C.dc C.nm X.c' C.ct) :: (x.e, instObj 850 x.d) :: (x.d, dictOf [en X.w "amount" x.t1 (.int x.amt x.u), en X.w "env" x.t2 (.ref X.e), en X.w "callbacks" x.t3 .none, en X.w "resource" x.t4 (.ref X.tn), en X.w "proc" x.t5 (.ref x.pr), en X.w "_ok" t6 (.bool true), en X.w "_value" t7 .none] 7) :: (wl X.w 871 X.e X.tn R ++ (D ++ (xt ++ T)))))
      evc_put rfl rfl (by k_cells ndx) (by omega) c1 c2 c3 ?hR ?deed
    case hR =>
      rintro tl' ⟨ot', n3', _, rfl⟩
      exact tups_sub TY2 (by walk_at "sub")
    case deed =>
      have hd := deed_end (prog := prog) (w := X.w) (e := X.e) (ed := X.ed) (q := X.q) (c := X.c) (cd := X.cd) (f := C.f) (c' := X.c') (sl := C.sl) (k1 := C.k1) (k2 := C.k2) (k3 := C.k3) (k4 := C.k4) (k5 := C.k5) (k6 := C.k6) (k7 := C.k7) (k8 := C.k8) (k9 := C.k9) (tol := X.tol) (now := t) (num := pi) (t1 := X.t1) (t2 := X.t2) (t3 := X.t3) (t4 := X.t4) (u1 := a1) (act := .ref ppr) (dc := C.dc) (nm := C.nm) (ct := C.ct) (n3 := C.n3) (kvs := kvs)
        (tl := (X.q, qobj zs n') :: (X.c, cntO X.cd X.fb k' x4 X.u5) :: (X.cd, dictOf [] 0) :: (ppr, instObj 301 C.pd) :: (C.pd, prcO X.w C.d1 C.d2 C.d3 C.d4 X.e C.l2 C.st x.e) :: (C.st, instObj 962 C.sd) :: (C.sd, stpO X.w C.g1 C.f) :: (x.e, instObj 850 x.d) :: (x.d, dictOf [en X.w "amount" x.t1 (.int x.amt x.u), en X.w "env" x.t2 (.ref X.e), en X.w "callbacks" x.t3 .none, en X.w "resource" x.t4 (.ref X.tn), en X.w "proc" x.t5 (.ref x.pr), en X.w "_ok" t6 (.bool true), en X.w "_value" t7 .none] 7) :: (X.tn, instObj 929 X.td) :: (X.td, tankO X.w X.e X.pq X.gq X.room l' X.r1 X.r2 X.r3 X.r4 X.r5 X.v1 x2) :: (X.gq, wqO R pn') ::
          (x.cb, listO #[.ref bm, .ref ppr] nb) :: (C.l2, listO #[] C.n2) :: (C.k2, C.o2) :: (C.k4, C.o4) :: (C.k7, C.o7) :: (C.k8, C.o8) :: (C.k9, C.o9) :: (wl X.w 871 X.e X.tn R ++ (D ++ (xt ++ T))))
        hoc hvs ck.h1 ck.h3 ck.h5 ck.h6 hot hkz (by k_cells ndx)
      refine CallS.conseq hd (Nat.le_refl _) (Nat.le_refl _) ?sub6 ?post6
      case sub6 => walk_at "sub"
      case post6 =>
        rintro r ⟨o', n3', hd', rfl⟩
        refine ⟨_, ?_, _, rfl, ?_, o', n3', hd', rfl⟩
        · walk_at "sub"
        · k_cells ndx
    refine CallT.conseq hres ?h12 ?h22 ?sub2 ?post2
    case h12 => omega
    case h22 => omega
    case sub2 => walk_at "sub"
    case post2 =>
      rintro v r ⟨rfl, t', zs', y1, y2, y3, y4, y5, y6, qn', tl', ⟨ot', n3', hd', rfl⟩, pm2, hp2, rfl, nd3⟩
      refine ⟨_, ?_, rfl, _, rfl, ?_, zs, zs', ⟨t', t + 0, 1, k', y1, y2, y3, .ref ppr⟩, [(ppr, instObj 301 C.pd), (C.pd, endO X.w C.d1 C.d2 C.d3 C.d4 y5 y6 X.e C.l2 C.st), (C.l2, listO #[] C.n2)], D, S, R, l', k', qn', pn', y4, x2, ot', sv, pm2, hp2, rfl, ?_, PRow.s4 rfl rfl, hd', rfl⟩
      · walk_at "sub"
      · k_cells nd3
      · show t + 0 = t
        omega)) only [↓Mine.go_eq]
end
end Mine
end

section
-- part X8
open PySem PySem.W PyProof.Rows PySem.Spec in
theorem Mine.turn_X8 {p : Program} {w : World} {A : Around} {en : Env} {Q : Flow → Shared → Prop} {E : Value → Shared → Prop} {s : Shared} (h : Q .next s) : wpAny (model p w) A (execs [] en) Q E s := by
  w_top off
  walk1
  exact h
open PySem PySem.W PyProof.Rows PySem.Calls PyProof.V PySem.Spec
namespace Mine

local macro_rules | `(tactic| walk_at "inl") => `(tactic| first | exact .head _ | (refine List.Mem.tail _ ?_; walk_at "inl") | (refine List.mem_append_right _ ?_; walk_at "inl") | (refine List.mem_append_left _ ?_; walk_at "inl"))
local macro_rules | `(tactic| walk_at "leaf") => `(tactic| first | exact fun _ h => h | exact fun _ h => List.mem_append_left _ h | (refine sub_cons ?_; walk_at "leaf") | (refine sub_appr ?_; walk_at "leaf"))
local macro_rules | `(tactic| walk_at "subl") => `(tactic| first
  | exact nil_sub
  | ((with_reducible refine app_sub ?_ ?_); (focus walk_at "rows"); walk_at "rows")
  | walk_at "leaf"
  | (refine (perm_sub ‹List.Perm (_ ++ _) (_ :: _ :: _)› ?_ ?_ ?_).1; (focus walk_at "inl"); (focus walk_at "inl"); walk_at "leaf")
  | (refine (perm_sub ‹List.Perm (_ ++ _) (_ :: _ :: _)› ?_ ?_ ?_).2; (focus walk_at "inl"); (focus walk_at "inl"); walk_at "leaf")
  | (refine mem_subl (by with_reducible assumption) ?_ ?_; (focus walk_at "leaf"); walk_at "leaf"))
local macro_rules | `(tactic| walk_at "rows") => `(tactic| ((repeat (refine an_cons (by walk_at "inl") ?_)); walk_at "subl"))
local macro_rules | `(tactic| walk_at "sub") => `(tactic| (simp only [iniO, tmoO, untO, prcO, endO, stpO, eR, qR, tS, coR, List.drop_succ_cons, List.drop_zero, List.cons_append, List.nil_append, List.append_assoc]; first | (refine sub_cnt fun p9 => ?_; simp only [cp_app, cp_cons, cp_nil, Nat.zero_add, Nat.add_zero]; omega) | (walk_at "rows") | fail "rows"))
local macro_rules | `(tactic| k_cells $Y:ident) => `(tactic| (refine nd_le $Y fun _ => ?_; simp only [eR, qR, tS, coR, wl_snoc, List.drop_succ_cons, List.drop_zero, List.map_append, List.map_cons, List.map_nil, List.cons_append, List.nil_append, List.append_assoc, cnt_app, cnt_cons, cnt_nil, Nat.zero_add]; omega))
local macro_rules | `(tactic| k_lt2 $Y:ident) => `(tactic| (refine nd_le $Y fun z9 => ?_; (have hc9 := perm_cnt ‹List.Perm (_ ++ _) (_ :: _ :: _)› z9); simp only [eR, qR, tS, coR, wl_snoc, List.drop_succ_cons, List.drop_zero, List.map_append, List.map_cons, List.map_nil, List.cons_append, List.nil_append, List.append_assoc, cnt_app, cnt_cons, cnt_nil, Nat.zero_add] at hc9 ⊢; omega))
section
variable {prog : Program} {X : Fx} {p : Pc}
theorem lstep3G {y : QE} {x : WE} {l T : List (Addr × Obj)} {now k level : Int} {u1 u4 v2 : Tok} {act : Value} {ys : Array QE} {qn pn : Nat} {W : List WE} {ot : Obj} {kvs : List (Int × Value)} (hfn : fnIn (Mine.kk.heap_1 X.w.params) 810 = true) (R : PRow X p (.s3 y x) l) (hp : p.puts = false) (O : OcOk X)
    (hot : ot.IsDictOf (PySem.intKind prog X.w) kvs) (hkz : kvs.length < 100)
    (nd : ((eR X u1 now act ++ (qR X ys qn k u4 ++ (tS X level v2 X.pq W pn ot ++ (wl X.w 850 X.e X.tn W ++ (l ++ T))))).map (·.1)).Nodup) (hx : ys[0]? = some y) (TY : TupsIn ((y.a, y.obj) :: T) ys) (hz : ys.size + W.length < 890) (DE : ∀ x ∈ ys.toList, x.e < k) (D1 : Eids ys) (H : IsHp QE.lt ys) :
    CallT prog X.w 150 900 (.ref 651) [.ref X.e] (eR X u1 now act ++ (qR X ys qn k u4 ++ (tS X level v2 X.pq W pn ot ++ (wl X.w 850 X.e X.tn W ++ (l ++ T)))))
      (fun v rows' => v = .none ∧ ∃ (ws zs zs' : Array QE) (y' : QE) (l4 D : List (Addr × Obj)) (S R : List WE) (l' k' : Int) (qn' pn' : Nat) (u4' v2' : Tok) (ot' : Obj), (y :: ws.toList).Perm ys.toList ∧ (∀ tl2, Srv (fitsP X.room) stepP X.w X.e X.tn 850 y.t W level k ws tl2 S R l' k' zs (D ++ tl2)) ∧
        zs'.toList.Perm (zs.push y').toList ∧ IsHp QE.lt zs' ∧ y'.e = k' ∧ y'.t = y.t ∧ PRow X p (.s4 y' x) l4 ∧ ot'.IsDictOf (PySem.intKind prog X.w) (stored kvs p.i (.int y.t y.u1)) ∧
        rows' = eR X y.u1 y.t .none ++ (qR X zs' qn' (k' + 1) u4' ++ (tS X l' v2' X.pq R pn' ot' ++ (wl X.w 850 X.e X.tn R ++ (D ++ (l4 ++ T))))) ∧ (rows'.map (·.1)).Nodup) := by
  refine Mine.go_of ?_
  simp (disch := k_dflt (
  obtain ⟨vs, qt, hoc, hvs⟩ := O.h
  obtain ⟨pi, pcomes, pamt, pputs, ppr⟩ := p
  dsimp only at hp
  subst hp
  cases R with
  | @s3 _ _ bm nb C t6 t7 ck e1 e2 h2 h3 =>
  obtain ⟨ta, t, pp, ee, a1, a2, a3, v⟩ := y
  dsimp only at h2 h3
  subst h2 h3
  have hstep := step_two (prog := prog) (w := X.w) (D := 90) (U := 600) (C := 871) (e := X.e) (ed := X.ed) (q := X.q) (c := X.c) (ta := ta) (ev := x.e) (d := x.d) (bm := bm) (tn := X.tn) (tf := 810) (now := now) (t := t) (pp := 1) (ee := ee) (t1 := X.t1) (t2 := X.t2) (t3 := X.t3) (t4 := X.t4) (u1 := u1) (a1 := a1) (a2 := a2) (a3 := a3) (act := act) (ys := ys) (qn := qn) (nb := nb) (pn := 4)
    (es := [en X.w "amount" x.t1 (.int x.amt x.u), en X.w "env" x.t2 (.ref X.e), en X.w "callbacks" x.t3 (.ref x.cb), en X.w "resource" x.t4 (.ref X.tn), en X.w "proc" x.t5 (.ref x.pr), en X.w "_ok" t6 (.bool true), en X.w "_value" t7 .none]) (n := 7)
    (es' := [en X.w "amount" x.t1 (.int x.amt x.u), en X.w "env" x.t2 (.ref X.e), en X.w "callbacks" x.t3 .none, en X.w "resource" x.t4 (.ref X.tn), en X.w "proc" x.t5 (.ref x.pr), en X.w "_ok" t6 (.bool true), en X.w "_value" t7 .none]) (n' := 7) (lb := x.cb) (pr := ppr) (pd := C.pd) (pes := [en X.w "env" C.d1 (.ref X.e), en X.w "callbacks" C.d2 (.ref C.l2), en X.w "_generator" C.d3 (.ref C.st), en X.w "_target" C.d4 (.ref x.e)])
    (tl := (X.c, cntO X.cd X.fb k u4 X.u5) :: (X.cd, dictOf [] 0) :: (tS X level v2 X.pq W pn ot ++ (wl X.w 850 X.e X.tn W ++ ((coR X ⟨pi, pcomes, pamt, false, ppr⟩ C x.e #[.none, .none]).drop 2 ++ T))))
    (R1 := fun ws tl' => ∃ (S R : List WE) (l' k' : Int) (zs : Array QE) (D : List (Addr × Obj)) (n' pn' : Nat) (x4 x2 : Tok), (∀ tl2, Srv (fitsP X.room) stepP X.w X.e X.tn 850 t W level k ws tl2 S R l' k' zs (D ++ tl2)) ∧ TupsIn (D ++ T) zs ∧ zs.size ≤ ws.size + W.length ∧ (∀ z ∈ zs.toList, z.e < k') ∧ Eids zs ∧ IsHp QE.lt zs ∧
      tl' = (X.ed, envO X.w X.t1 X.t2 X.t3 X.t4 a1 t X.q X.c act) :: (qR X zs n' k' x4 ++ (tS X l' x2 X.pq R pn' ot ++ ((coR X ⟨pi, pcomes, pamt, false, ppr⟩ C x.e #[.none, .none]).drop 2 ++ (wl X.w 850 X.e X.tn R ++ (D ++ T))))))
    (R := fun ws tl' => ∃ (zs zs' : Array QE) (y' : QE) (l4 D : List (Addr × Obj)) (S R : List WE) (l' k' : Int) (qn' pn' : Nat) (u4' v2' : Tok) (ot' : Obj), (∀ tl2, Srv (fitsP X.room) stepP X.w X.e X.tn 850 t W level k ws tl2 S R l' k' zs (D ++ tl2)) ∧
        zs'.toList.Perm (zs.push y').toList ∧ IsHp QE.lt zs' ∧ y'.e = k' ∧ y'.t = t ∧ PRow X ⟨pi, pcomes, pamt, false, ppr⟩ (.s4 y' x) ((y'.a, y'.obj) :: (x.e, instObj 871 x.d) :: (x.d, x.gone X.w X.e X.tn t6 t7) :: l4) ∧ ot'.IsDictOf (PySem.intKind prog X.w) (stored kvs pi (.int t a1)) ∧
        tl' = (X.ed, envO X.w X.t1 X.t2 X.t3 X.t4 a1 t X.q X.c .none) :: (qR X zs' qn' (k' + 1) u4' ++ (tS X l' v2' X.pq R pn' ot' ++ ((y'.a, y'.obj) :: (l4 ++ (wl X.w 850 X.e X.tn R ++ (D ++ T)))))))
    hfn evc_get rfl (fun _ => rfl) (Nat.le_of_ble_eq_true rfl) rfl (by k_cells nd) hx (tups_two TY (.head _) (by walk_at "sub")) (by omega) D1 H ?cb1 ?cb2
  · refine CallT.conseq hstep ?h1 ?h2 ?sub ?post
    case h1 => omega
    case h2 => omega
    case sub => walk_at "sub"
    case post =>
      rintro v r ⟨rfl, ws, pm, hp, tl', rfl, nd', zs, zs', y', l4, D, S, R, l', k', qn', pn', u4', v2', ot', sv, pm2, hp2, c1, c2, c3, c4, rfl⟩
      refine ⟨_, ?_, rfl, ws, zs, zs', y', _, D, S, R, l', k', qn', pn', u4', v2', ot', pm, sv, pm2, hp2, c1, c2, c3, c4, rfl, ?_⟩
      · walk_at "sub"
      · k_cells nd'
  case cb1 =>
    intro ws xt pm hp ndx
    have TYw := tups_pop TY pm D1 rfl
    have DW := lt_pop DE pm
    have D1w := eids_pop D1 pm
    have szw := size_pop pm
    have htr := trigPutOk (prog := prog) (w := X.w) (e := X.e) (ed := X.ed) (q := X.q) (c := X.c) (cd := X.cd) (tn := X.tn) (td := X.td) (pq := X.pq) (gq := X.gq) (now := t) (k := k) (room := X.room) (level := level) (t1 := X.t1) (t2 := X.t2) (t3 := X.t3) (t4 := X.t4) (u1 := a1) (u4 := u4) (u5 := X.u5)
      (r1 := X.r1) (r2 := X.r2) (r3 := X.r3) (r4 := X.r4) (r5 := X.r5) (v1 := X.v1) (v2 := v2) (act := act) (v := .ref x.e) (ys := ws) (n := qn + 1) (pn := pn) (fb := X.fb) (W := W)
      (tl := (X.tol, ot) :: (X.c', X.oc) :: (x.e, instObj 871 x.d) :: (x.d, dictOf [en X.w "amount" x.t1 (.int x.amt x.u), en X.w "env" x.t2 (.ref X.e), en X.w "callbacks" x.t3 .none, en X.w "resource" x.t4 (.ref X.tn), en X.w "proc" x.t5 (.ref x.pr), en X.w "_ok" t6 (.bool true), en X.w "_value" t7 .none] 7) :: (x.cb, listO #[.ref bm, .ref ppr] nb) :: (ppr, instObj 301 C.pd) :: (C.pd, dictOf [en X.w "env" C.d1 (.ref X.e), en X.w "callbacks" C.d2 (.ref C.l2), en X.w "_generator" C.d3 (.ref C.st), en X.w "_target" C.d4 (.ref x.e)] 4) :: (xt ++ ((coR X ⟨pi, pcomes, pamt, false, ppr⟩ C x.e #[.none, .none]).drop 2 ++ T)))
      (by k_cells ndx) (tups_sub TYw (by walk_at "sub")) (by omega) DW D1w hp
    refine CodeOk.conseq htr ?h15 ?h25 ?sub5 ?post5
    case h15 => omega
    case h25 => omega
    case sub5 => walk_at "sub"
    case post5 =>
      rintro v r ⟨rfl, S, R, l', k', zs, D, n', pn', x4, x2, sv, TY2, c1, c2, c3, rfl, nd2⟩
      refine ⟨_, ?_, rfl, _, rfl, ?_, S, R, l', k', zs, D, n', pn', x4, x2, sv, ?_, ?_, c1, c2, c3, rfl⟩
      · walk_at "sub"
      · k_cells nd2
      · exact srv_tups (sv T) TYw
      · have h1 := srv_size (sv [])
        have h2 := congrArg List.length (srv_split (sv []))
        rw [List.length_append] at h2
        omega
  case cb2 =>
    rintro ws xt tl1 pm ⟨S, R, l', k', zs, D, n', pn', x4, x2, sv, TY2, hzs, c1, c2, c3, rfl⟩ ndx
    have szw := size_pop pm
    have hres := resume_end (prog := prog) (w := X.w) (D := 30) (U := 200) (e := X.e) (ed := X.ed) (pr := ppr) (pd := C.pd) (st := C.st) (sd := C.sd) (ev := x.e) (d := x.d) (f := C.f) (q := X.q) (c := X.c) (cd := X.cd) (tg := x.e) (l2 := C.l2) (C := 871)
      (k1 := C.k1) (k2 := C.k2) (k3 := C.k3) (k4 := C.k4) (k5 := C.k5) (k6 := C.k6) (k7 := C.k7) (k8 := C.k8) (k9 := C.k9) (c' := X.c') (es := [en X.w "amount" x.t1 (.int x.amt x.u), en X.w "env" x.t2 (.ref X.e), en X.w "callbacks" x.t3 .none, en X.w "resource" x.t4 (.ref X.tn), en X.w "proc" x.t5 (.ref x.pr), en X.w "_ok" t6 (.bool true), en X.w "_value" t7 .none]) (n := 7) (qn := n') (now := t) (k := k') (t1 := X.t1) (t2 := X.t2) (t3 := X.t3) (t4 := X.t4) (u1 := a1) (u4 := x4) (u5 := X.u5) (d1 := C.d1) (d2 := C.d2) (d3 := C.d3) (d4 := C.d4) (g1 := C.g1) (act := act) (dc := C.dc) (nm := C.nm) (ct := C.ct) (ys := zs) (fb := X.fb)
      (tl := tS X l' x2 X.pq R pn' ot ++ ((x.cb, listO #[.ref bm, .ref ppr] nb) :: (C.l2, listO #[] C.n2) :: (C.sl, listO #[.none, .none] C.n3) :: (C.k1, C.o1) :: (C.k2, C.o2) :: (C.k3, C.o3) :: (C.k4, C.o4) :: (C.k5, C.o5) :: (C.k6, C.o6) :: (C.k7, C.o7) :: (C.k8, C.o8) :: (C.k9, C.o9) :: (wl X.w 850 X.e X.tn R ++ (D ++ (xt ++ T)))))
      (R := fun tl' => ∃ (ot' : Obj) (n3' : Nat), ot'.IsDictOf (PySem.intKind prog X.w) (stored kvs pi (.int t a1)) ∧ tl' = tS X l' x2 X.pq R pn' ot' ++ ((x.cb, listO #[.ref bm, .ref ppr] nb) :: (C.l2, listO #[] C.n2) :: (C.sl, listO #[.none, .none, .none] n3') :: (C.k1, C.o1) :: (C.k2, C.o2) :: (C.k3, C.o3) :: (C.k4, C.o4) :: (C.k5, C.o5) :: (C.k6, C.o6) :: (C.k7, C.o7) :: (C.k8, C.o8) :: (C.k9, C.o9) ::
        (C.st, instObj 962 C.sd) :: (C.sd, stpO X.w C.g1 C.f) :: (C.f, deedO X.w.params C.k1 C.k2 C.k3 C.k4 C.k5 C.k6 C.k7 C.k8 C.k9 C.dc C.nm X.c' C.ct) :: (x.e, instObj 871 x.d) :: (x.d, dictOf [en X.w "amount" x.t1 (.int x.amt x.u), en X.w "env" x.t2 (.ref X.e), en X.w "callbacks" x.t3 .none, en X.w "resource" x.t4 (.ref X.tn), en X.w "proc" x.t5 (.ref x.pr), en X.w "_ok" t6 (.bool true), en X.w "_value" t7 .none] 7) :: (wl X.w 850 X.e X.tn R ++ (D ++ (xt ++ T)))))
      evc_get rfl rfl (by k_cells ndx) (by omega) c1 c2 c3 ?hR ?deed
    case hR =>
      rintro tl' ⟨ot', n3', _, rfl⟩
      exact tups_sub TY2 (by walk_at "sub")
    case deed =>
      have hd := deed_end (prog := prog) (w := X.w) (e := X.e) (ed := X.ed) (q := X.q) (c := X.c) (cd := X.cd) (f := C.f) (c' := X.c') (sl := C.sl) (k1 := C.k1) (k2 := C.k2) (k3 := C.k3) (k4 := C.k4) (k5 := C.k5) (k6 := C.k6) (k7 := C.k7) (k8 := C.k8) (k9 := C.k9) (tol := X.tol) (now := t) (num := pi) (t1 := X.t1) (t2 := X.t2) (t3 := X.t3) (t4 := X.t4) (u1 := a1) (act := .ref ppr) (dc := C.dc) (nm := C.nm) (ct := C.ct) (n3 := C.n3) (kvs := kvs)
        (tl := (X.q, qobj zs n') :: (X.c, cntO X.cd X.fb k' x4 X.u5) :: (X.cd, dictOf [] 0) :: (ppr, instObj 301 C.pd) :: (C.pd, prcO X.w C.d1 C.d2 C.d3 C.d4 X.e C.l2 C.st x.e) :: (C.st, instObj 962 C.sd) :: (C.sd, stpO X.w C.g1 C.f) :: (x.e, instObj 871 x.d) :: (x.d, dictOf [en X.w "amount" x.t1 (.int x.amt x.u), en X.w "env" x.t2 (.ref X.e), en X.w "callbacks" x.t3 .none, en X.w "resource" x.t4 (.ref X.tn), en X.w "proc" x.t5 (.ref x.pr), en X.w "_ok" t6 (.bool true), en X.w "_value" t7 .none] 7) :: (X.tn, instObj 929 X.td) :: (X.td, tankO X.w X.e X.pq X.gq X.room l' X.r1 X.r2 X.r3 X.r4 X.r5 X.v1 x2) :: (X.pq, wqO R pn') ::
          (x.cb, listO #[.ref bm, .ref ppr] nb) :: (C.l2, listO #[] C.n2) :: (C.k2, C.o2) :: (C.k4, C.o4) :: (C.k7, C.o7) :: (C.k8, C.o8) :: (C.k9, C.o9) :: (wl X.w 850 X.e X.tn R ++ (D ++ (xt ++ T))))
        hoc hvs ck.h1 ck.h3 ck.h5 ck.h6 hot hkz (by k_cells ndx)
      refine CallS.conseq hd (Nat.le_refl _) (Nat.le_refl _) ?sub6 ?post6
      case sub6 => walk_at "sub"
      case post6 =>
        rintro r ⟨o', n3', hd', rfl⟩
        refine ⟨_, ?_, _, rfl, ?_, o', n3', hd', rfl⟩
        · walk_at "sub"
        · k_cells ndx
    refine CallT.conseq hres ?h12 ?h22 ?sub2 ?post2
    case h12 => omega
    case h22 => omega
    case sub2 => walk_at "sub"
    case post2 =>
      rintro v r ⟨rfl, t', zs', y1, y2, y3, y4, y5, y6, qn', tl', ⟨ot', n3', hd', rfl⟩, pm2, hp2, rfl, nd3⟩
      refine ⟨_, ?_, rfl, _, rfl, ?_, zs, zs', ⟨t', t + 0, 1, k', y1, y2, y3, .ref ppr⟩, [(ppr, instObj 301 C.pd), (C.pd, endO X.w C.d1 C.d2 C.d3 C.d4 y5 y6 X.e C.l2 C.st), (C.l2, listO #[] C.n2)], D, S, R, l', k', qn', pn', y4, x2, ot', sv, pm2, hp2, rfl, ?_, PRow.s4 rfl rfl, hd', rfl⟩
      · walk_at "sub"
      · k_cells nd3
      · show t + 0 = t
        omega)) only [↓Mine.go_eq]
end
end Mine
end

section
-- part X9
open PySem PySem.W PyProof.Rows PySem.Spec in
theorem Mine.turn_X9 {p : Program} {w : World} {A : Around} {en : Env} {Q : Flow → Shared → Prop} {E : Value → Shared → Prop} {s : Shared} (h : Q .next s) : wpAny (model p w) A (execs [] en) Q E s := by
  w_top off
  walk1
  exact h
open PySem PySem.W PyProof.Rows PySem.Calls PyProof.V PySem.Spec
namespace Mine

local macro_rules | `(tactic| walk_at "inl") => `(tactic| first | exact .head _ | (refine List.Mem.tail _ ?_; walk_at "inl") | (refine List.mem_append_right _ ?_; walk_at "inl") | (refine List.mem_append_left _ ?_; walk_at "inl"))
local macro_rules | `(tactic| walk_at "leaf") => `(tactic| first | exact fun _ h => h | exact fun _ h => List.mem_append_left _ h | (refine sub_cons ?_; walk_at "leaf") | (refine sub_appr ?_; walk_at "leaf"))
local macro_rules | `(tactic| walk_at "subl") => `(tactic| first
  | exact nil_sub
  | ((with_reducible refine app_sub ?_ ?_); (focus walk_at "rows"); walk_at "rows")
  | walk_at "leaf"
  | (refine (perm_sub ‹List.Perm (_ ++ _) (_ :: _ :: _)› ?_ ?_ ?_).1; (focus walk_at "inl"); (focus walk_at "inl"); walk_at "leaf")
  | (refine (perm_sub ‹List.Perm (_ ++ _) (_ :: _ :: _)› ?_ ?_ ?_).2; (focus walk_at "inl"); (focus walk_at "inl"); walk_at "leaf")
  | (refine mem_subl (by with_reducible assumption) ?_ ?_; (focus walk_at "leaf"); walk_at "leaf"))
local macro_rules | `(tactic| walk_at "rows") => `(tactic| ((repeat (refine an_cons (by walk_at "inl") ?_)); walk_at "subl"))
local macro_rules | `(tactic| walk_at "sub") => `(tactic| (simp only [iniO, tmoO, untO, prcO, endO, stpO, eR, qR, tS, coR, List.drop_succ_cons, List.drop_zero, List.cons_append, List.nil_append, List.append_assoc]; first | (refine sub_cnt fun p9 => ?_; simp only [cp_app, cp_cons, cp_nil, Nat.zero_add, Nat.add_zero]; omega) | (walk_at "rows") | fail "rows"))
local macro_rules | `(tactic| k_cells $Y:ident) => `(tactic| (refine nd_le $Y fun _ => ?_; simp only [eR, qR, tS, coR, wl_snoc, List.drop_succ_cons, List.drop_zero, List.map_append, List.map_cons, List.map_nil, List.cons_append, List.nil_append, List.append_assoc, cnt_app, cnt_cons, cnt_nil, Nat.zero_add]; omega))
local macro_rules | `(tactic| k_lt2 $Y:ident) => `(tactic| (refine nd_le $Y fun z9 => ?_; (have hc9 := perm_cnt ‹List.Perm (_ ++ _) (_ :: _ :: _)› z9); simp only [eR, qR, tS, coR, wl_snoc, List.drop_succ_cons, List.drop_zero, List.map_append, List.map_cons, List.map_nil, List.cons_append, List.nil_append, List.append_assoc, cnt_app, cnt_cons, cnt_nil, Nat.zero_add] at hc9 ⊢; omega))
section
variable {prog : Program} {X : Fx} {p : Pc}
/-- an ended process popped -/
theorem lstep4 {y : QE} {x : WE} {l T : List (Addr × Obj)} {now k : Int} {u1 u4 : Tok} {act : Value} {ys : Array QE} {qn : Nat} (R : PRow X p (.s4 y x) l)
    (nd : ((eR X u1 now act ++ (qR X ys qn k u4 ++ (l ++ T))).map (·.1)).Nodup) (hx : ys[0]? = some y) (TY : TupsIn ((y.a, y.obj) :: T) ys) (hz : ys.size < 900) (D1 : Eids ys) (H : IsHp QE.lt ys) :
    CallT prog X.w 150 900 (.ref 651) [.ref X.e] (eR X u1 now act ++ (qR X ys qn k u4 ++ (l ++ T)))
      (fun v rows' => v = .none ∧ ∃ (ws : Array QE) (l' : List (Addr × Obj)) (qn' : Nat), (y :: ws.toList).Perm ys.toList ∧ IsHp QE.lt ws ∧ PRow X p (.s5 x) l' ∧
        rows' = eR X y.u1 y.t act ++ (qR X ws qn' k u4 ++ (l' ++ T)) ∧ (rows'.map (·.1)).Nodup) := by
  refine Mine.go_of ?_
  simp (disch := k_dflt (
  cases R with
  | @s4 _ _ pd l2 st b1 b2 b3 b4 b5 b6 t6 t7 n2 h1 h2 =>
  obtain ⟨ta, t, pp, ee, a1, a2, a3, v⟩ := y
  dsimp only at h1 h2
  subst h1 h2
  refine CallT.conseq (step_zero (prog := prog) (w := X.w) (e := X.e) (ed := X.ed) (q := X.q) (c := X.c) (ta := ta) (ev := p.pr) (d := pd) (lb := l2) (C := 301) (now := now) (t := t) (pp := 1) (ee := ee) (t1 := X.t1) (t2 := X.t2) (t3 := X.t3) (t4 := X.t4) (u1 := u1) (a1 := a1) (a2 := a2) (a3 := a3) (act := act) (ys := ys) (qn := qn) (nb := n2)
    (es := [en X.w "env" b1 (.ref X.e), en X.w "callbacks" b2 (.ref l2), en X.w "_generator" b3 (.ref st), en X.w "_target" b4 .none, en X.w "_ok" b5 (.bool true), en X.w "_value" b6 .none]) (n := 6)
    (es' := [en X.w "env" b1 (.ref X.e), en X.w "callbacks" b2 .none, en X.w "_generator" b3 (.ref st), en X.w "_target" b4 .none, en X.w "_ok" b5 (.bool true), en X.w "_value" b6 .none]) (n' := 6)
    (tl := (X.c, cntO X.cd X.fb k u4 X.u5) :: (X.cd, dictOf [] 0) :: (x.e, instObj (cls p.puts) x.d) :: (x.d, x.gone X.w X.e X.tn t6 t7) :: T)
    evc_prc rfl (fun _ => rfl) (Nat.le_of_ble_eq_true rfl) rfl (by k_cells nd) hx (tups_two TY (.head _) (by walk_at "leaf")) hz D1 H) ?h1 ?h2 ?sub ?post
  case h1 => omega
  case h2 => omega
  case sub => walk_at "sub"
  case post =>
    rintro v r ⟨rfl, ws, pm, hp, rfl⟩
    refine ⟨eR X a1 t act ++ (qR X ws (qn + 1) k u4 ++ ([(x.e, instObj (cls p.puts) x.d), (x.d, x.gone X.w X.e X.tn t6 t7)] ++ T)), ?_, rfl, ws, _, _, pm, hp, PRow.s5, rfl, ?_⟩
    · walk_at "sub"
    · k_cells nd)) only [↓Mine.go_eq]
/-- an old until popped -/
theorem lstepOld {y : QE} {ev d lb : Addr} {b1 b2 b3 b4 : Tok} {nb : Nat} {T : List (Addr × Obj)} {now k : Int} {u1 u4 : Tok} {act : Value} {ys : Array QE} {qn : Nat} (hp : y.p = -1) (hv : y.v = .ref ev)
    (nd : ((eR X u1 now act ++ (qR X ys qn k u4 ++ ((y.a, y.obj) :: (ev, instObj 181 d) :: (d, untO X.w b1 b2 b3 b4 X.e lb) :: (lb, listO #[] nb) :: T))).map (·.1)).Nodup) (hx : ys[0]? = some y) (TY : TupsIn ((y.a, y.obj) :: T) ys) (hz : ys.size < 900) (D1 : Eids ys) (H : IsHp QE.lt ys) :
    CallT prog X.w 150 900 (.ref 651) [.ref X.e] (eR X u1 now act ++ (qR X ys qn k u4 ++ ((y.a, y.obj) :: (ev, instObj 181 d) :: (d, untO X.w b1 b2 b3 b4 X.e lb) :: (lb, listO #[] nb) :: T)))
      (fun v rows' => v = .none ∧ ∃ (ws : Array QE) (qn' : Nat), (y :: ws.toList).Perm ys.toList ∧ IsHp QE.lt ws ∧
        rows' = eR X y.u1 y.t act ++ (qR X ws qn' k u4 ++ T) ∧ (rows'.map (·.1)).Nodup) := by
  refine Mine.go_of ?_
  simp (disch := k_dflt (
  obtain ⟨ta, t, pp, ee, a1, a2, a3, v⟩ := y
  dsimp only at hp hv
  subst hp hv
  refine CallT.conseq (step_zero (prog := prog) (w := X.w) (e := X.e) (ed := X.ed) (q := X.q) (c := X.c) (ta := ta) (ev := ev) (d := d) (lb := lb) (C := 181) (now := now) (t := t) (pp := -1) (ee := ee) (t1 := X.t1) (t2 := X.t2) (t3 := X.t3) (t4 := X.t4) (u1 := u1) (a1 := a1) (a2 := a2) (a3 := a3) (act := act) (ys := ys) (qn := qn) (nb := nb)
    (es := [en X.w "env" b1 (.ref X.e), en X.w "callbacks" b2 (.ref lb), en X.w "_ok" b3 (.bool true), en X.w "_value" b4 .none]) (n := 4)
    (es' := [en X.w "env" b1 (.ref X.e), en X.w "callbacks" b2 .none, en X.w "_ok" b3 (.bool true), en X.w "_value" b4 .none]) (n' := 4)
    (tl := (X.c, cntO X.cd X.fb k u4 X.u5) :: (X.cd, dictOf [] 0) :: T)
    evc_unt rfl (fun _ => rfl) (Nat.le_of_ble_eq_true rfl) rfl (by k_cells nd) hx (tups_two TY (.head _) (by walk_at "leaf")) hz D1 H) ?h1 ?h2 ?sub ?post
  case h1 => omega
  case h2 => omega
  case sub => walk_at "sub"
  case post =>
    rintro v r ⟨rfl, ws, pm, hp, rfl⟩
    refine ⟨eR X a1 t act ++ (qR X ws (qn + 1) k u4 ++ T), ?_, rfl, ws, _, pm, hp, rfl, ?_⟩
    · walk_at "sub"
    · k_cells nd)) only [↓Mine.go_eq]
/-- the until popped -/
theorem lstepU {y : QE} {ev d lb bm : Addr} {b1 b2 b3 b4 : Tok} {nb : Nat} {T : List (Addr × Obj)} {now k : Int} {u1 u4 : Tok} {act : Value} {ys : Array QE} {qn : Nat} (hv : y.v = .ref ev)
    (nd : ((eR X u1 now act ++ (qR X ys qn k u4 ++ ((y.a, y.obj) :: (ev, instObj 181 d) :: (d, untO X.w b1 b2 b3 b4 X.e lb) :: (lb, listO #[.ref bm] nb) :: (bm, methodObj (.ref 493) (.ref 499)) :: T))).map (·.1)).Nodup) (hx : ys[0]? = some y) (TY : TupsIn ((y.a, y.obj) :: T) ys) (hz : ys.size < 900) (DE : ∀ x ∈ ys.toList, x.e < k) (D1 : Eids ys) (H : IsHp QE.lt ys) :
    CallSS prog X.w 150 900 (.ref 651) [.ref X.e] (eR X u1 now act ++ (qR X ys qn k u4 ++ ((y.a, y.obj) :: (ev, instObj 181 d) :: (d, untO X.w b1 b2 b3 b4 X.e lb) :: (lb, listO #[.ref bm] nb) :: (bm, methodObj (.ref 493) (.ref 499)) :: T)))
      (fun rows' => ∃ (ws zs : Array QE) (y' : QE) (lb' : Addr) (qn' nb' : Nat) (u4' : Tok), (y :: ws.toList).Perm ys.toList ∧ zs.toList.Perm (ws.push y').toList ∧ IsHp QE.lt zs ∧ y'.t = y.t ∧ y'.p = -1 ∧ y'.e = k ∧ y'.v = .ref ev ∧
        rows' = eR X y.u1 y.t act ++ (qR X zs qn' (k + 1) u4' ++ ((y'.a, y'.obj) :: (ev, instObj 181 d) :: (d, untO X.w b1 b2 b3 b4 X.e lb') :: (lb', listO #[] nb') :: T)) ∧ (rows'.map (·.1)).Nodup) := by
  refine Mine.go_of ?_
  simp (disch := k_dflt (
  obtain ⟨ta, t, pp, ee, a1, a2, a3, v⟩ := y
  dsimp only at hv
  subst hv
  refine CallSS.conseq (step_until (prog := prog) (w := X.w) (e := X.e) (ed := X.ed) (q := X.q) (c := X.c) (cd := X.cd) (ta := ta) (ev := ev) (d := d) (lb := lb) (bm := bm) (now := now) (t := t) (pp := pp) (ee := ee) (k := k) (t1 := X.t1) (t2 := X.t2) (t3 := X.t3) (t4 := X.t4) (u1 := u1) (u4 := u4) (u5 := X.u5) (a1 := a1) (a2 := a2) (a3 := a3) (b1 := b1) (b2 := b2) (b3 := b3) (b4 := b4) (act := act) (ys := ys) (fb := X.fb) (qn := qn) (nb := nb)
    (tl := T) (by k_cells nd) hx (tups_two TY (.head _) (by walk_at "leaf")) hz DE D1 H) ?h1 ?h2 ?sub ?post
  case h1 => omega
  case h2 => omega
  case sub => walk_at "sub"
  case post =>
    rintro r ⟨t', lb', ws, zs, x1, x2, x3, x4, qn', nb', pm, pm2, hp, rfl, nd2⟩
    refine ⟨_, ?_, ws, zs, ⟨t', t + 0, -1, k, x1, x2, x3, .ref ev⟩, lb', qn', nb', x4, pm, pm2, hp, by dsimp only; omega, rfl, rfl, rfl, rfl, ?_⟩
    · walk_at "sub"
    · k_cells nd2)) only [↓Mine.go_eq]
end
end Mine
end

section
-- part Y1
open PySem PySem.W PyProof.Rows PySem.Spec in
theorem Mine.turn_Y1 {p : Program} {w : World} {A : Around} {en : Env} {Q : Flow → Shared → Prop} {E : Value → Shared → Prop} {s : Shared} (h : Q .next s) : wpAny (model p w) A (execs [] en) Q E s := by
  w_top off
  walk1
  exact h
open PySem PySem.W PyProof.Rows PySem.Calls PyProof.V PySem.Spec
namespace Mine

/-! the world -/
structure Pr where
  p : Pc
  ph : Ph
  l : List (Addr × Obj)
structure Wt where
  p : Pc
  x : WE
  l : List (Addr × Obj)
def Pr.pend (a : Pr) : List QE := a.ph.pend
abbrev Wt.pr (q : Wt) : Pr := ⟨q.p, .s2 q.x, q.l⟩
def Ph.asked : Ph → Option Value
  | .s0 .. => none
  | .s1 .. => none
  | .s2 x => some (.ref x.e)
  | .s3 _ x => some (.ref x.e)
  | .s4 _ x => some (.ref x.e)
  | .s5 x => some (.ref x.e)
def Ph.told : Ph → Bool
  | .s4 .. => true
  | .s5 .. => true
  | _ => false
/-- where the clock stands -/
def Ph.tm (r comes : Int) : Ph → Prop
  | .s0 .. => r + 1 ≤ comes
  | .s1 .. => r + 1 ≤ comes
  | .s2 _ => comes ≤ r + 1
  | .s3 y _ => y.t = r + 1 ∧ comes ≤ r + 1
  | .s4 y _ => y.t = r + 1 ∧ comes ≤ r + 1
  | .s5 _ => comes ≤ r + 1
structure Gl where
  now : Int
  u1 : Tok
  act : Value
  ys : Array QE
  qn : Nat
  k : Int
  u4 : Tok
  level : Int
  v2 : Tok
  np : Nat
  ng : Nat
  oa : Obj
  ot : Obj
abbrev wR (X : Fx) (g : Gl) (Wp Wg : List WE) (r : List (Addr × Obj)) : List (Addr × Obj) :=
  eR X g.u1 g.now g.act ++ (qR X g.ys g.qn g.k g.u4 ++ ([(X.tn, instObj 929 X.td), (X.td, tankO X.w X.e X.pq X.gq X.room g.level X.r1 X.r2 X.r3 X.r4 X.r5 X.v1 g.v2), (X.pq, wqO Wp g.np), (X.gq, wqO Wg g.ng), (X.ask, g.oa), (X.tol, g.ot), (X.c', X.oc)] ++
    (wl X.w 850 X.e X.tn Wp ++ (wl X.w 871 X.e X.tn Wg ++ r))))
structure Ag (X : Fx) (g : Gl) (M : List Pr) (us : List QE) (Wp Wg : List WE) (T : List (Addr × Obj)) : Prop where
  ag : g.ys.toList.Perm (M.flatMap Pr.pend ++ us)
  hp : IsHp QE.lt g.ys
  de : ∀ y ∈ g.ys.toList, y.e < g.k
  ei : Eids g.ys
  nd : ((wR X g Wp Wg (M.flatMap Pr.l ++ T)).map (·.1)).Nodup
  tu : ∀ y ∈ us, (y.a, y.obj) ∈ T
structure Ok (prog : Program) (X : Fx) (PS : List Pc) (r : Int) (kT0 : List (Int × Value)) (g : Gl) (M : List Pr) (kA kT : List (Int × Value)) : Prop where
  ps : (M.map Pr.p).Perm PS
  ok : ∀ a ∈ M, PRow X a.p a.ph a.l
  oa : g.oa.IsDictOf (PySem.intKind prog X.w) kA
  ot : g.ot.IsDictOf (PySem.intKind prog X.w) kT
  ak : ∀ a ∈ M, valueAt kA a.p.i = a.ph.asked
  tk : ∀ a ∈ M, (valueAt kT a.p.i).isSome = a.ph.told
  ak2 : ∀ n, (valueAt kA n).isSome = true → n ∈ PS.map Pc.i
  tk2 : ∀ n, (valueAt kT n).isSome = true → n ∈ PS.map Pc.i
  tm1 : ∀ n v, valueAt kT0 n = some v → valueAt kT n = some v
  tm2 : ∀ n v, valueAt kT n = some v → valueAt kT0 n = none → ∃ u, v = .int (r + 1) u
  tm : ∀ a ∈ M, a.ph.tm r a.p.comes
/-- what is asked of the processes -/
structure PsOk (PS : List Pc) : Prop where
  ni : (PS.map Pc.i).Nodup
  nc : (PS.map Pc.comes).Nodup
  am : ∀ p ∈ PS, 0 < p.amt
  co : ∀ p ∈ PS, 0 ≤ p.comes
  ln : PS.length ≤ 7

theorem Ag.perm {X : Fx} {g : Gl} {M M' : List Pr} {us : List QE} {Wp Wg : List WE} {T : List (Addr × Obj)} (A : Ag X g M us Wp Wg T) (h : M.Perm M') : Ag X g M' us Wp Wg T := by
  refine ⟨A.ag.trans ((h.flatMap_right _).append_right _), A.hp, A.de, A.ei, ?_, A.tu⟩
  refine (List.Perm.nodup_iff (List.Perm.map _ ?_)).mp A.nd
  exact List.Perm.append_left _ (.append_left _ (.append_left _ (.append_left _ (.append_left _ (.append_right _ (h.flatMap_right _))))))
theorem Ok.perm {prog : Program} {X : Fx} {PS : List Pc} {r : Int} {kT0 kA kT : List (Int × Value)} {g : Gl} {M M' : List Pr} (A : Ok prog X PS r kT0 g M kA kT) (h : M.Perm M') : Ok prog X PS r kT0 g M' kA kT :=
  ⟨(h.map _).symm.trans A.ps, fun a ha => A.ok a (h.mem_iff.mpr ha), A.oa, A.ot, fun a ha => A.ak a (h.mem_iff.mpr ha), fun a ha => A.tk a (h.mem_iff.mpr ha), A.ak2, A.tk2, A.tm1, A.tm2, fun a ha => A.tm a (h.mem_iff.mpr ha)⟩
theorem pend_row {X : Fx} {p : Pc} {ph : Ph} {l : List (Addr × Obj)} {y : QE} (h : PRow X p ph l) (hy : y ∈ ph.pend) : (y.a, y.obj) ∈ l := by
  cases h <;> simp only [Ph.pend, List.mem_singleton, List.not_mem_nil] at hy <;> (subst hy; exact .head _)
theorem pend_one {ph : Ph} {y : QE} (hy : y ∈ ph.pend) : ph.pend = [y] := by
  cases ph <;> simp only [Ph.pend, List.mem_singleton, List.not_mem_nil] at hy ⊢ <;> rw [hy]
theorem pick {M : List Pr} {y : QE} (h : y ∈ M.flatMap Pr.pend) : ∃ a M', a ∈ M ∧ M.Perm (a :: M') ∧ a.ph.pend = [y] := by
  obtain ⟨a, ha, hy⟩ := List.mem_flatMap.mp h
  obtain ⟨A, B, rfl⟩ := List.append_of_mem ha
  exact ⟨a, A ++ B, ha, List.perm_middle, pend_one hy⟩
theorem tups_of {X : Fx} {M : List Pr} {us ys : List QE} {T : List (Addr × Obj)} (hok : ∀ a ∈ M, PRow X a.p a.ph a.l) (hu : ∀ y ∈ us, (y.a, y.obj) ∈ T) (h : ∀ y ∈ ys, y ∈ M.flatMap Pr.pend ++ us) : ∀ y ∈ ys, (y.a, y.obj) ∈ M.flatMap Pr.l ++ T := fun y hy => by
  rcases List.mem_append.mp (h y hy) with h | h
  · obtain ⟨a, ha, hy⟩ := List.mem_flatMap.mp h
    exact List.mem_append_left _ (List.mem_flatMap.mpr ⟨a, ha, pend_row (hok a ha) hy⟩)
  · exact List.mem_append_right _ (hu y h)
/-- the rows of the agenda when one process's entry is on top -/
theorem tups_head {X : Fx} {a : Pr} {M : List Pr} {us : List QE} {y : QE} {ys : Array QE} {T l0 : List (Addr × Obj)} (hok : ∀ b ∈ M, PRow X b.p b.ph b.l) (hu : ∀ y ∈ us, (y.a, y.obj) ∈ T) (hp : a.ph.pend = [y]) (ag : ys.toList.Perm ((a :: M).flatMap Pr.pend ++ us)) (h0 : ∀ p ∈ M.flatMap Pr.l ++ T, p ∈ l0) : TupsIn ((y.a, y.obj) :: l0) ys := fun z hz => by
  have := ag.mem_iff.mp hz
  rw [List.flatMap_cons, show a.pend = [y] from hp] at this
  rcases List.mem_cons.mp this with rfl | h
  · exact .head _
  · exact .tail _ (h0 _ (tups_of hok hu (fun z hz => hz) z h))
theorem ag_pop {a : Pr} {M : List Pr} {us : List QE} {y : QE} {ys ws : Array QE} (hp : a.ph.pend = [y]) (ag : ys.toList.Perm ((a :: M).flatMap Pr.pend ++ us)) (pm : (y :: ws.toList).Perm ys.toList) : ws.toList.Perm (M.flatMap Pr.pend ++ us) := by
  have h := pm.trans ag
  rw [List.flatMap_cons, show a.pend = [y] from hp] at h
  exact h.cons_inv
theorem ag_push {ws zs : Array QE} {y : QE} {l : List QE} (h : ws.toList.Perm l) (pm : zs.toList.Perm (ws.push y).toList) : zs.toList.Perm (y :: l) := by
  refine pm.trans ?_
  rw [Array.toList_push]
  exact (List.perm_append_comm).trans (h.cons _)
theorem valueAt_app {kvs : List (Int × Value)} {k n : Int} {v : Value} (h : valueAt kvs k = none) : valueAt (stored kvs k v) n = if n = k then some v else valueAt kvs n := by
  rw [stored_absent h]
  unfold valueAt at *
  rw [List.find?_append]
  by_cases e : n = k
  · subst e
    rw [Option.map_eq_none_iff] at h
    rw [h]
    simp
  · have e' : ¬ k = n := fun h => e h.symm
    simp only [List.find?_cons, decide_eq_false e', List.find?_nil, if_neg e, Option.or_none]
theorem length_app {kvs : List (Int × Value)} {k : Int} {v : Value} (h : valueAt kvs k = none) : (stored kvs k v).length = kvs.length + 1 := by
  rw [stored_absent h, List.length_append]
  rfl
theorem eids_next {ws zs : Array QE} {y : QE} {k : Int} (D : ∀ x ∈ ws.toList, x.e < k) (D1 : Eids ws) (hk : y.e = k) (pm : zs.toList.Perm (ws.push y).toList) : Eids zs := by
  obtain ⟨a, t, p, e, u1, u2, u3, v⟩ := y
  dsimp only at hk
  subst hk
  exact eids_perm (eids_push D D1 _ _ _ _ _ _ _) pm
theorem tups_us {X : Fx} {M : List Pr} {us : List QE} {y : QE} {ys : Array QE} {T l0 : List (Addr × Obj)} (hok : ∀ b ∈ M, PRow X b.p b.ph b.l) (hu : ∀ y ∈ us, (y.a, y.obj) ∈ T) (ag : ys.toList.Perm (y :: (M.flatMap Pr.pend ++ us))) (h0 : ∀ p ∈ M.flatMap Pr.l ++ T, p ∈ l0) : TupsIn ((y.a, y.obj) :: l0) ys := fun z hz => by
  rcases List.mem_cons.mp (ag.mem_iff.mp hz) with rfl | h
  · exact .head _
  · exact .tail _ (h0 _ (tups_of (ys := [z]) hok hu (fun x hx => by rw [List.mem_singleton.mp hx]; exact h) z (.head _)))
end Mine
end

section
-- part Y2
open PySem PySem.W PyProof.Rows PySem.Spec in
theorem Mine.turn_Y2 {p : Program} {w : World} {A : Around} {en : Env} {Q : Flow → Shared → Prop} {E : Value → Shared → Prop} {s : Shared} (h : Q .next s) : wpAny (model p w) A (execs [] en) Q E s := by
  w_top off
  walk1
  exact h
open PySem PySem.W PyProof.Rows PySem.Calls PyProof.V PySem.Spec
namespace Mine

local macro_rules | `(tactic| walk_at "inl") => `(tactic| first | exact .head _ | (refine List.Mem.tail _ ?_; walk_at "inl") | (refine List.mem_append_right _ ?_; walk_at "inl") | (refine List.mem_append_left _ ?_; walk_at "inl"))
local macro_rules | `(tactic| walk_at "leaf") => `(tactic| first | exact fun _ h => h | exact fun _ h => List.mem_append_left _ h | (refine sub_cons ?_; walk_at "leaf") | (refine sub_appr ?_; walk_at "leaf"))
local macro_rules | `(tactic| walk_at "subl") => `(tactic| first
  | exact nil_sub
  | ((with_reducible refine app_sub ?_ ?_); (focus walk_at "rows"); walk_at "rows")
  | walk_at "leaf")
local macro_rules | `(tactic| walk_at "rows") => `(tactic| ((repeat (refine an_cons (by walk_at "inl") ?_)); walk_at "subl"))
local macro_rules | `(tactic| walk_at "sub") => `(tactic| (simp only [eR, qR, tS, tR, List.flatMap_cons, List.map_append, List.cons_append, List.nil_append, List.append_assoc]; first | (refine sub_cnt fun p9 => ?_; simp only [cp_app, cp_cons, cp_nil, Nat.zero_add, Nat.add_zero]; omega) | (walk_at "rows") | fail "rows"))
local macro_rules | `(tactic| k_cells $Y:ident) => `(tactic| (refine nd_le $Y fun _ => ?_; simp only [eR, qR, tS, tR, wl_snoc, List.flatMap_cons, List.map_append, List.map_cons, List.map_nil, List.cons_append, List.nil_append, List.append_assoc, cnt_app, cnt_cons, cnt_nil, Nat.zero_add]; omega))
section
variable {prog : Program} {X : Fx} {PS : List Pc} {r : Int} {kT0 kA kT : List (Int × Value)} {g : Gl} {a : Pr} {M : List Pr} {us : List QE} {Wp Wg : List WE} {T : List (Addr × Obj)}
/-- one process's phase changed, with what is asked and told unchanged -/
theorem Ok.swap {g' : Gl} {a' : Pr} (O : Ok prog X PS r kT0 g (a :: M) kA kT) (hA : g'.oa = g.oa) (hT : g'.ot = g.ot) (hp : a'.p = a.p) (hl : PRow X a'.p a'.ph a'.l) (h1 : a'.ph.asked = a.ph.asked) (h2 : a'.ph.told = a.ph.told) (h3 : a'.ph.tm r a.p.comes) : Ok prog X PS r kT0 g' (a' :: M) kA kT := by
  refine ⟨?_, ?_, hA ▸ O.oa, hT ▸ O.ot, ?_, ?_, O.ak2, O.tk2, O.tm1, O.tm2, ?_⟩
  · have := O.ps
    rw [List.map_cons] at this ⊢
    rw [hp]
    exact this
  · intro b hb
    rcases List.mem_cons.mp hb with rfl | hb
    · exact hl
    · exact O.ok b (.tail _ hb)
  · intro b hb
    rcases List.mem_cons.mp hb with rfl | hb
    · rw [hp, h1]
      exact O.ak a (.head _)
    · exact O.ak b (.tail _ hb)
  · intro b hb
    rcases List.mem_cons.mp hb with rfl | hb
    · rw [hp, h2]
      exact O.tk a (.head _)
    · exact O.tk b (.tail _ hb)
  · intro b hb
    rcases List.mem_cons.mp hb with rfl | hb
    · rw [hp]
      exact h3
    · exact O.tm b (.tail _ hb)
theorem w0 {y : QE} {ie : Addr} (P : PsOk PS) (G : OcOk X) (A : Ag X g (a :: M) us Wp Wg T) (O : Ok prog X PS r kT0 g (a :: M) kA kT) (ha : a.ph = .s0 y ie) (hx : g.ys[0]? = some y) (hz : g.ys.size < 880) :
    CallT prog X.w 150 900 (.ref 651) [.ref X.e] (wR X g Wp Wg ((a :: M).flatMap Pr.l ++ T)) (fun v rows' => v = .none ∧ ∃ (g' : Gl) (a' : Pr) (y' : QE) (te : Addr), rows' = wR X g' Wp Wg ((a' :: M).flatMap Pr.l ++ T) ∧ Ag X g' (a' :: M) us Wp Wg T ∧ Ok prog X PS r kT0 g' (a' :: M) kA kT ∧
      a'.p = a.p ∧ a'.ph = .s1 y' te ∧ g'.level = g.level) := by
  refine Mine.go_of ?_
  simp (disch := k_dflt (
  obtain ⟨p, ph, l⟩ := a
  dsimp only at ha
  subst ha
  have hr := O.ok _ (.head _)
  dsimp only at hr
  have hcm : (0 : Int) ≤ p.comes := P.co p (O.ps.mem_iff.mp (.head _))
  refine CallT.conseq (lstep0 (l := l) (u1 := g.u1) (now := g.now) (act := g.act) (ys := g.ys) (qn := g.qn) (k := g.k) (u4 := g.u4) (T := [(X.tn, instObj 929 X.td), (X.td, tankO X.w X.e X.pq X.gq X.room g.level X.r1 X.r2 X.r3 X.r4 X.r5 X.v1 g.v2), (X.pq, wqO Wp g.np), (X.gq, wqO Wg g.ng), (X.ask, g.oa), (X.tol, g.ot)] ++
    (wl X.w 850 X.e X.tn Wp ++ (wl X.w 871 X.e X.tn Wg ++ (M.flatMap Pr.l ++ T)))) hr hcm G (by have nd := A.nd; k_cells nd) hx (tups_head (fun b hb => O.ok b (.tail _ hb)) A.tu rfl A.ag (by walk_at "leaf")) (by omega) A.de A.ei A.hp) (by omega) (by omega) ?sub ?post
  case sub => walk_at "sub"
  case post =>
    rintro v r ⟨rfl, ws, zs, y', te, l', qn', u4', pm, pm2, hp2, hk, hR, rfl, nd⟩
    have e1 := ag_pop rfl A.ag pm
    have e2 := ag_push e1 pm2
    refine ⟨wR X ⟨y.t, y.u1, .none, zs, qn', g.k + 1, u4', g.level, g.v2, g.np, g.ng, g.oa, g.ot⟩ Wp Wg ((⟨p, .s1 y' te, l'⟩ :: M : List Pr).flatMap Pr.l ++ T), ?_, rfl, _, _, y', te, rfl, ⟨e2, hp2, lt_push (lt_pop A.de pm) pm2 hk, ?_, ?_, A.tu⟩, O.swap rfl rfl rfl hR rfl rfl (O.tm _ (.head _)), rfl, rfl, rfl⟩
    · walk_at "sub"
    · exact eids_next (lt_pop A.de pm) (eids_pop A.ei pm) hk pm2
    · k_cells nd)) only [↓Mine.go_eq]
theorem w4 {y : QE} {x : WE} (A : Ag X g (a :: M) us Wp Wg T) (O : Ok prog X PS r kT0 g (a :: M) kA kT) (ha : a.ph = .s4 y x) (hx : g.ys[0]? = some y) (hz : g.ys.size < 880) :
    CallT prog X.w 150 900 (.ref 651) [.ref X.e] (wR X g Wp Wg ((a :: M).flatMap Pr.l ++ T)) (fun v rows' => v = .none ∧ ∃ (g' : Gl) (a' : Pr), rows' = wR X g' Wp Wg ((a' :: M).flatMap Pr.l ++ T) ∧ Ag X g' (a' :: M) us Wp Wg T ∧ Ok prog X PS r kT0 g' (a' :: M) kA kT ∧
      a'.p = a.p ∧ a'.ph = .s5 x ∧ g'.level = g.level) := by
  refine Mine.go_of ?_
  simp (disch := k_dflt (
  obtain ⟨p, ph, l⟩ := a
  dsimp only at ha
  subst ha
  have hr := O.ok _ (.head _)
  dsimp only at hr
  refine CallT.conseq (lstep4 (l := l) (u1 := g.u1) (now := g.now) (act := g.act) (ys := g.ys) (qn := g.qn) (k := g.k) (u4 := g.u4) (T := [(X.tn, instObj 929 X.td), (X.td, tankO X.w X.e X.pq X.gq X.room g.level X.r1 X.r2 X.r3 X.r4 X.r5 X.v1 g.v2), (X.pq, wqO Wp g.np), (X.gq, wqO Wg g.ng), (X.ask, g.oa), (X.tol, g.ot), (X.c', X.oc)] ++
    (wl X.w 850 X.e X.tn Wp ++ (wl X.w 871 X.e X.tn Wg ++ (M.flatMap Pr.l ++ T)))) hr (by have nd := A.nd; k_cells nd) hx (tups_head (fun b hb => O.ok b (.tail _ hb)) A.tu rfl A.ag (by walk_at "leaf")) (by omega) A.ei A.hp) (by omega) (by omega) ?sub ?post
  case sub => walk_at "sub"
  case post =>
    rintro v r ⟨rfl, ws, l', qn', pm, hp2, hR, rfl, nd⟩
    have e1 := ag_pop rfl A.ag pm
    refine ⟨wR X ⟨y.t, y.u1, g.act, ws, qn', g.k, g.u4, g.level, g.v2, g.np, g.ng, g.oa, g.ot⟩ Wp Wg ((⟨p, .s5 x, l'⟩ :: M : List Pr).flatMap Pr.l ++ T), ?_, rfl, _, _, rfl, ⟨e1, hp2, lt_pop A.de pm, eids_pop A.ei pm, ?_, A.tu⟩, O.swap rfl rfl rfl hR rfl rfl (O.tm _ (.head _)).2, rfl, rfl, rfl⟩
    · walk_at "sub"
    · k_cells nd)) only [↓Mine.go_eq]
theorem wOld {y : QE} {ev d lb : Addr} {b1 b2 b3 b4 : Tok} {nb : Nat} (hp : y.p = -1) (hv : y.v = .ref ev) (A : Ag X g M (y :: us) Wp Wg ((y.a, y.obj) :: (ev, instObj 181 d) :: (d, untO X.w b1 b2 b3 b4 X.e lb) :: (lb, listO #[] nb) :: T)) (hu : ∀ z ∈ us, (z.a, z.obj) ∈ T) (O : Ok prog X PS r kT0 g M kA kT) (hx : g.ys[0]? = some y) (hz : g.ys.size < 880) :
    CallT prog X.w 150 900 (.ref 651) [.ref X.e] (wR X g Wp Wg (M.flatMap Pr.l ++ ((y.a, y.obj) :: (ev, instObj 181 d) :: (d, untO X.w b1 b2 b3 b4 X.e lb) :: (lb, listO #[] nb) :: T))) (fun v rows' => v = .none ∧ ∃ (g' : Gl), rows' = wR X g' Wp Wg (M.flatMap Pr.l ++ T) ∧ Ag X g' M us Wp Wg T ∧ Ok prog X PS r kT0 g' M kA kT ∧
      g'.level = g.level) := by
  refine Mine.go_of ?_
  simp (disch := k_dflt (
  have ag : g.ys.toList.Perm (y :: (M.flatMap Pr.pend ++ us)) := A.ag.trans List.perm_middle
  refine CallT.conseq (lstepOld (u1 := g.u1) (now := g.now) (act := g.act) (ys := g.ys) (qn := g.qn) (k := g.k) (u4 := g.u4) (b1 := b1) (b2 := b2) (b3 := b3) (b4 := b4) (nb := nb) (d := d) (lb := lb) (T := [(X.tn, instObj 929 X.td), (X.td, tankO X.w X.e X.pq X.gq X.room g.level X.r1 X.r2 X.r3 X.r4 X.r5 X.v1 g.v2), (X.pq, wqO Wp g.np), (X.gq, wqO Wg g.ng), (X.ask, g.oa), (X.tol, g.ot), (X.c', X.oc)] ++
    (wl X.w 850 X.e X.tn Wp ++ (wl X.w 871 X.e X.tn Wg ++ (M.flatMap Pr.l ++ T)))) hp hv (by have nd := A.nd; k_cells nd) hx ?ty (by omega) A.ei A.hp) (by omega) (by omega) ?sub ?post
  case sub => walk_at "sub"
  case ty =>
    exact tups_us O.ok hu ag (by walk_at "leaf")
  case post =>
    rintro v r ⟨rfl, ws, qn', pm, hp2, rfl, nd⟩
    refine ⟨wR X ⟨y.t, y.u1, g.act, ws, qn', g.k, g.u4, g.level, g.v2, g.np, g.ng, g.oa, g.ot⟩ Wp Wg (M.flatMap Pr.l ++ T), ?_, rfl, _, rfl, ⟨(pm.trans ag).cons_inv, hp2, lt_pop A.de pm, eids_pop A.ei pm, ?_, hu⟩, ⟨O.ps, O.ok, O.oa, O.ot, O.ak, O.tk, O.ak2, O.tk2, O.tm1, O.tm2, O.tm⟩, rfl⟩
    · walk_at "sub"
    · k_cells nd)) only [↓Mine.go_eq]
theorem wU {y : QE} {ev d lb bm : Addr} {b1 b2 b3 b4 : Tok} {nb : Nat} (hv : y.v = .ref ev) (A : Ag X g M (y :: us) Wp Wg ((y.a, y.obj) :: (ev, instObj 181 d) :: (d, untO X.w b1 b2 b3 b4 X.e lb) :: (lb, listO #[.ref bm] nb) :: (bm, methodObj (.ref 493) (.ref 499)) :: T)) (hu : ∀ z ∈ us, (z.a, z.obj) ∈ T) (O : Ok prog X PS r kT0 g M kA kT) (hx : g.ys[0]? = some y) (hz : g.ys.size < 880) :
    CallSS prog X.w 150 900 (.ref 651) [.ref X.e] (wR X g Wp Wg (M.flatMap Pr.l ++ ((y.a, y.obj) :: (ev, instObj 181 d) :: (d, untO X.w b1 b2 b3 b4 X.e lb) :: (lb, listO #[.ref bm] nb) :: (bm, methodObj (.ref 493) (.ref 499)) :: T))) (fun rows' => ∃ (g' : Gl) (y' : QE) (lb' : Addr) (nb' : Nat), y'.t = y.t ∧ y'.p = -1 ∧ y'.v = .ref ev ∧ g'.now = y.t ∧
      rows' = wR X g' Wp Wg (M.flatMap Pr.l ++ ((y'.a, y'.obj) :: (ev, instObj 181 d) :: (d, untO X.w b1 b2 b3 b4 X.e lb') :: (lb', listO #[] nb') :: T)) ∧ Ag X g' M (y' :: us) Wp Wg ((y'.a, y'.obj) :: (ev, instObj 181 d) :: (d, untO X.w b1 b2 b3 b4 X.e lb') :: (lb', listO #[] nb') :: T) ∧ Ok prog X PS r kT0 g' M kA kT ∧
      g'.level = g.level) := by
  refine Mine.go_of ?_
  simp (disch := k_dflt (
  have ag : g.ys.toList.Perm (y :: (M.flatMap Pr.pend ++ us)) := A.ag.trans List.perm_middle
  refine CallSS.conseq (lstepU (bm := bm) (u1 := g.u1) (now := g.now) (act := g.act) (ys := g.ys) (qn := g.qn) (k := g.k) (u4 := g.u4) (b1 := b1) (b2 := b2) (b3 := b3) (b4 := b4) (nb := nb) (d := d) (lb := lb) (T := [(X.tn, instObj 929 X.td), (X.td, tankO X.w X.e X.pq X.gq X.room g.level X.r1 X.r2 X.r3 X.r4 X.r5 X.v1 g.v2), (X.pq, wqO Wp g.np), (X.gq, wqO Wg g.ng), (X.ask, g.oa), (X.tol, g.ot), (X.c', X.oc)] ++
    (wl X.w 850 X.e X.tn Wp ++ (wl X.w 871 X.e X.tn Wg ++ (M.flatMap Pr.l ++ T)))) hv (by have nd := A.nd; k_cells nd) hx ?ty (by omega) A.de A.ei A.hp) (by omega) (by omega) ?sub ?post
  case sub => walk_at "sub"
  case ty =>
    exact tups_us O.ok hu ag (by walk_at "leaf")
  case post =>
    rintro r ⟨ws, zs, y', lb', qn', nb', u4', pm, pm2, hp2, h1, h2, h3, h4, rfl, nd⟩
    refine ⟨wR X ⟨y.t, y.u1, g.act, zs, qn', g.k + 1, u4', g.level, g.v2, g.np, g.ng, g.oa, g.ot⟩ Wp Wg (M.flatMap Pr.l ++ ((y'.a, y'.obj) :: (ev, instObj 181 d) :: (d, untO X.w b1 b2 b3 b4 X.e lb') :: (lb', listO #[] nb') :: T)), ?_, _, y', lb', nb', h1, h2, h4, rfl, rfl,
      ⟨(ag_push (pm.trans ag).cons_inv pm2).trans List.perm_middle.symm, hp2, lt_push (lt_pop A.de pm) pm2 h3, eids_next (lt_pop A.de pm) (eids_pop A.ei pm) h3 pm2, ?_, ?_⟩, ⟨O.ps, O.ok, O.oa, O.ot, O.ak, O.tk, O.ak2, O.tk2, O.tm1, O.tm2, O.tm⟩, rfl⟩
    · walk_at "sub"
    · k_cells nd
    · intro z hz
      rcases List.mem_cons.mp hz with rfl | hz
      · exact .head _
      · exact .tail _ (.tail _ (.tail _ (.tail _ (hu z hz)))))) only [↓Mine.go_eq]
end
end Mine
end

section
-- part Y3
open PySem PySem.W PyProof.Rows PySem.Spec in
theorem Mine.turn_Y3 {p : Program} {w : World} {A : Around} {en : Env} {Q : Flow → Shared → Prop} {E : Value → Shared → Prop} {s : Shared} (h : Q .next s) : wpAny (model p w) A (execs [] en) Q E s := by
  w_top off
  walk1
  exact h
open PySem PySem.W PyProof.Rows PySem.Calls PyProof.V PySem.Spec
namespace Mine

abbrev nm (q : Wt) : Int × Int := (q.p.i, q.p.amt)
/-- plain reckoning: heads of either row served, one after the other -/
inductive Reach (room : Int) : Int → List (Int × Int) → List (Int × Int) → Int → List (Int × Int) → List (Int × Int) → Prop
  | refl {l ps gs} : Reach room l ps gs l ps gs
  | put {n a l ps gs l' ps' gs'} : a ≤ room - l → Reach room (l + a) ps gs l' ps' gs' → Reach room l ((n, a) :: ps) gs l' ps' gs'
  | get {n a l ps gs l' ps' gs'} : a ≤ l → Reach room (l - a) ps gs l' ps' gs' → Reach room l ps ((n, a) :: gs) l' ps' gs'
section
variable {fits : Int → WE → Bool} {step : Int → WE → Int} {X : Fx} {C : Addr} {now : Int} {W S R : List WE} {l k l' k' : Int} {ys zs : Array QE} {tl tl' : List (Addr × Obj)}
theorem s2_s3 {p : Pc} {x : WE} {r : List (Addr × Obj)} {y : QE} {t6 t7 : Tok} (h : PRow X p (.s2 x) r) (h1 : y.p = 1) (h2 : y.v = .ref x.e) : PRow X p (.s3 y x) ((y.a, y.obj) :: (x.e, instObj (cls p.puts) x.d) :: (x.d, x.done X.w X.e X.tn t6 t7) :: r) := by
  cases h with
  | s2 a b c => exact .s3 a b c h1 h2
theorem srv_world (h : Srv fits step X.w X.e X.tn C now W l k ys tl S R l' k' zs tl') : ∀ (Q : List Wt), Q.map Wt.x = W → (∀ q ∈ Q, PRow X q.p (.s2 q.x) q.l ∧ cls q.p.puts = C) →
    ∃ (Qs Qr : List Wt) (sl : List Pr) (D : List (Addr × Obj)), Q = Qs ++ Qr ∧ Qr.map Wt.x = R ∧ Qs.map Wt.x = S ∧ sl.map Pr.p = Qs.map Wt.p ∧ (∀ b ∈ sl, PRow X b.p b.ph b.l ∧ ∃ q ∈ Qs, b.p = q.p ∧ ∃ y, b.ph = .s3 y q.x ∧ y.t = now) ∧
      zs.toList.Perm (sl.flatMap Pr.pend ++ ys.toList) ∧ tl' = D ++ tl ∧ (sl.flatMap Pr.l).Perm (D ++ Qs.flatMap Wt.l) := by
  induction h with
  | nil => exact fun Q hq _ => ⟨[], Q, [], [], rfl, hq, rfl, rfl, fun _ h => (nomatch h), .refl _, rfl, .refl _⟩
  | stop hf => exact fun Q hq _ => ⟨[], Q, [], [], rfl, hq, rfl, rfl, fun _ h => (nomatch h), .refl _, rfl, .refl _⟩
  | @go x W l k ys tl S R l' k' ys' tl' t a1 a2 a3 t6 t7 zs hf hp hs ih =>
    intro Q hq hR
    cases Q with
    | nil => exact nomatch hq
    | cons q Q =>
      injection hq with e1 e2
      subst e1
      obtain ⟨Qs, Qr, sl, D, rfl, h1, h2, h3, h4, h5, rfl, h6⟩ := ih Q e2 fun q hq => hR q (.tail _ hq)
      obtain ⟨hq, hc⟩ := hR q (.head _)
      refine ⟨q :: Qs, Qr, ⟨q.p, .s3 ⟨t, now + 0, 1, k, a1, a2, a3, .ref q.x.e⟩ q.x, (t, tupo (now + 0) 1 k a1 a2 a3 (.ref q.x.e)) :: (q.x.e, instObj C q.x.d) :: (q.x.d, q.x.done X.w X.e X.tn t6 t7) :: q.l⟩ :: sl, D ++ [(t, tupo (now + 0) 1 k a1 a2 a3 (.ref q.x.e)), (q.x.e, instObj C q.x.d), (q.x.d, q.x.done X.w X.e X.tn t6 t7)], rfl, h1, ?_, ?_, ?_, ?_, ?_, ?_⟩
      · rw [List.map_cons, h2]
      · rw [List.map_cons, List.map_cons, h3]
      · intro b hb
        rcases List.mem_cons.mp hb with rfl | hb
        · refine ⟨?_, q, .head _, rfl, _, rfl, by dsimp only; omega⟩
          rw [← hc]
          exact s2_s3 hq rfl rfl
        · obtain ⟨a, z, hz, b⟩ := h4 b hb
          exact ⟨a, z, .tail _ hz, b⟩
      · refine h5.trans (((ag_push (.refl _) hp).append_left _).trans ?_)
        exact List.perm_middle
      · rw [List.append_assoc]
        rfl
      · rw [List.flatMap_cons, List.flatMap_cons, List.append_assoc]
        refine (h6.append_left _).trans ?_
        refine List.perm_append_comm_assoc _ _ _ |>.trans ?_
        exact .append_left _ (by simp only [List.cons_append, List.nil_append]; exact .refl _)
theorem srv_ids (h : Srv fits step X.w X.e X.tn C now W l k ys tl S R l' k' zs tl') : (∀ y ∈ ys.toList, y.e < k) → Eids ys → (∀ y ∈ zs.toList, y.e < k') ∧ Eids zs := by
  induction h with
  | nil => exact fun a b => ⟨a, b⟩
  | stop => exact fun a b => ⟨a, b⟩
  | go _ hp _ ih => exact fun a b => ih (lt_push a hp rfl) (eids_next a b rfl hp)
theorem srv_stop (h : Srv fits step X.w X.e X.tn C now W l k ys tl S R l' k' zs tl') : ∀ x R', R = x :: R' → fits l' x = false := by
  induction h with
  | nil => exact fun _ _ h => nomatch h
  | stop hf => intro x R' h; injection h with h; subst h; exact hf
  | go _ _ _ ih => exact ih
theorem srv_nil (h : Srv fits step X.w X.e X.tn C now W l k ys tl S R l' k' zs tl') : S = [] → l' = l := by
  cases h with
  | nil => exact fun _ => rfl
  | stop hf => exact fun _ => rfl
  | go _ _ _ => exact fun h => nomatch h
end
section
variable {X : Fx} {C : Addr} {now room : Int} {W S R : List WE} {l k l' k' : Int} {ys zs : Array QE} {tl tl' : List (Addr × Obj)}
theorem srv_reachP (h : Srv (fitsP room) stepP X.w X.e X.tn C now W l k ys tl S R l' k' zs tl') (gs : List (Int × Int)) : ∀ (Qs Qr : List Wt), (Qs ++ Qr).map Wt.x = W → Qs.map Wt.x = S → (∀ q ∈ Qs ++ Qr, q.x.amt = q.p.amt) → Reach room l ((Qs ++ Qr).map nm) gs l' (Qr.map nm) gs := by
  induction h with
  | nil =>
    intro Qs Qr h1 h2 h3
    cases Qs with
    | nil => exact .refl
    | cons => exact nomatch h2
  | stop =>
    intro Qs Qr h1 h2 h3
    cases Qs with
    | nil => exact .refl
    | cons => exact nomatch h2
  | @go x W l k ys tl S R l' k' ys' tl' t a1 a2 a3 t6 t7 zs hf hp hs ih =>
    intro Qs Qr h1 h2 h3
    cases Qs with
    | nil => exact nomatch h2
    | cons q Qs =>
      injection h1 with h1 h1'
      injection h2 with h2 h2'
      subst h2
      have e := h3 q (.head _)
      have hf := of_decide_eq_true hf
      have hr := ih Qs Qr h1' h2' fun z hz => h3 z (.tail _ hz)
      rw [show stepP l q.x = l + q.p.amt from by show l + q.x.amt = _; rw [e]] at hr
      exact .put (by rw [← e]; exact hf) hr
theorem srv_reachG (h : Srv fitsG stepG X.w X.e X.tn C now W l k ys tl S R l' k' zs tl') (ps : List (Int × Int)) : ∀ (Qs Qr : List Wt), (Qs ++ Qr).map Wt.x = W → Qs.map Wt.x = S → (∀ q ∈ Qs ++ Qr, q.x.amt = q.p.amt) → Reach room l ps ((Qs ++ Qr).map nm) l' ps (Qr.map nm) := by
  induction h with
  | nil =>
    intro Qs Qr h1 h2 h3
    cases Qs with
    | nil => exact .refl
    | cons => exact nomatch h2
  | stop =>
    intro Qs Qr h1 h2 h3
    cases Qs with
    | nil => exact .refl
    | cons => exact nomatch h2
  | @go x W l k ys tl S R l' k' ys' tl' t a1 a2 a3 t6 t7 zs hf hp hs ih =>
    intro Qs Qr h1 h2 h3
    cases Qs with
    | nil => exact nomatch h2
    | cons q Qs =>
      injection h1 with h1 h1'
      injection h2 with h2 h2'
      subst h2
      have e := h3 q (.head _)
      have hf := of_decide_eq_true hf
      have hr := ih Qs Qr h1' h2' fun z hz => h3 z (.tail _ hz)
      rw [show stepG l q.x = l - q.p.amt from by show l - q.x.amt = _; rw [e]] at hr
      exact .get (by rw [← e]; exact hf) hr
end
section
variable {prog : Program} {X : Fx} {PS : List Pc} {r : Int} {kT0 kA kT : List (Int × Value)} {g : Gl}
theorem s2_amt {p : Pc} {x : WE} {l : List (Addr × Obj)} (h : PRow X p (.s2 x) l) : x.amt = p.amt := by
  cases h
  assumption
theorem s0_t {p : Pc} {y : QE} {ie : Addr} {l : List (Addr × Obj)} (h : PRow X p (.s0 y ie) l) : y.t = 0 := by
  cases h
  assumption
theorem s1_t {p : Pc} {y : QE} {ie : Addr} {l : List (Addr × Obj)} (h : PRow X p (.s1 y ie) l) : y.t = p.comes ∧ y.p = 1 := by
  cases h with
  | s1 a b c d => exact ⟨b, c⟩
/-- some of the waiting ones served -/
theorem Ok.serve {g' : Gl} {Qs : List Wt} {sl N : List Pr} (O : Ok prog X PS r kT0 g (Qs.map Wt.pr ++ N) kA kT) (hA : g'.oa = g.oa) (hT : g'.ot = g.ot) (hp : sl.map Pr.p = Qs.map Wt.p)
    (hs : ∀ b ∈ sl, PRow X b.p b.ph b.l ∧ ∃ q ∈ Qs, b.p = q.p ∧ ∃ y, b.ph = .s3 y q.x ∧ y.t = r + 1) : Ok prog X PS r kT0 g' (sl ++ N) kA kT := by
  have hin : ∀ q ∈ Qs, q.pr ∈ Qs.map Wt.pr ++ N := fun q hq => List.mem_append_left _ (List.mem_map.mpr ⟨q, hq, rfl⟩)
  refine ⟨?_, ?_, hA ▸ O.oa, hT ▸ O.ot, ?_, ?_, O.ak2, O.tk2, O.tm1, O.tm2, ?_⟩
  · have := O.ps
    rw [List.map_append, List.map_map, show (Pr.p ∘ Wt.pr) = Wt.p from rfl, ← hp, ← List.map_append] at this
    exact this
  · intro b hb
    rcases List.mem_append.mp hb with hb | hb
    · exact (hs b hb).1
    · exact O.ok b (List.mem_append_right _ hb)
  · intro b hb
    rcases List.mem_append.mp hb with hb | hb
    · obtain ⟨_, q, hq, e, y, e2, _⟩ := hs b hb
      rw [e, e2]
      exact O.ak _ (hin q hq)
    · exact O.ak b (List.mem_append_right _ hb)
  · intro b hb
    rcases List.mem_append.mp hb with hb | hb
    · obtain ⟨_, q, hq, e, y, e2, _⟩ := hs b hb
      rw [e, e2]
      exact O.tk _ (hin q hq)
    · exact O.tk b (List.mem_append_right _ hb)
  · intro b hb
    rcases List.mem_append.mp hb with hb | hb
    · obtain ⟨_, q, hq, e, y, e2, e3⟩ := hs b hb
      rw [e2, e]
      exact ⟨e3, O.tm _ (hin q hq)⟩
    · exact O.tm b (List.mem_append_right _ hb)
theorem ni_ne {a : Pr} {M : List Pr} (P : PsOk PS) (h : ((a :: M).map Pr.p).Perm PS) : ∀ b ∈ M, b.p.i ≠ a.p.i := fun b hb e => by
  have := ((h.map Pc.i).nodup_iff).mpr P.ni
  rw [List.map_cons, List.map_cons, List.nodup_cons] at this
  exact this.1 (List.mem_map.mpr ⟨b.p, List.mem_map.mpr ⟨b, hb, rfl⟩, e⟩)
/-- a comer has asked -/
theorem Ok.ask {g' : Gl} {a a' : Pr} {N : List Pr} {v : Value} (P : PsOk PS) (O : Ok prog X PS r kT0 g (a :: N) kA kT) (h0 : a.ph.asked = none) (hA : g'.oa.IsDictOf (PySem.intKind prog X.w) (stored kA a.p.i v)) (hT : g'.ot = g.ot) (hp : a'.p = a.p) (hl : PRow X a'.p a'.ph a'.l) (h1 : a'.ph.asked = some v) (h2 : a'.ph.told = a.ph.told) (h3 : a'.ph.tm r a.p.comes) :
    Ok prog X PS r kT0 g' (a' :: N) (stored kA a.p.i v) kT := by
  have hn := O.ak a (.head _)
  rw [h0] at hn
  have ne := ni_ne P O.ps
  refine ⟨?_, ?_, hA, hT ▸ O.ot, ?_, ?_, ?_, O.tk2, O.tm1, O.tm2, ?_⟩
  · have := O.ps
    rw [List.map_cons] at this ⊢
    rw [hp]
    exact this
  · intro b hb
    rcases List.mem_cons.mp hb with rfl | hb
    · exact hl
    · exact O.ok b (.tail _ hb)
  · intro b hb
    rcases List.mem_cons.mp hb with rfl | hb
    · rw [hp, h1, valueAt_app hn, if_pos rfl]
    · rw [valueAt_app hn, if_neg (ne b hb)]
      exact O.ak b (.tail _ hb)
  · intro b hb
    rcases List.mem_cons.mp hb with rfl | hb
    · rw [hp, h2]
      exact O.tk a (.head _)
    · exact O.tk b (.tail _ hb)
  · intro n h
    rw [valueAt_app hn] at h
    split at h
    · rename_i e
      subst e
      exact List.mem_map.mpr ⟨a.p, O.ps.mem_iff.mp (.head _), rfl⟩
    · exact O.ak2 n h
  · intro b hb
    rcases List.mem_cons.mp hb with rfl | hb
    · rw [hp]
      exact h3
    · exact O.tm b (.tail _ hb)
/-- one has been told -/
theorem Ok.tell {g' : Gl} {a a' : Pr} {N : List Pr} {u : Tok} (P : PsOk PS) (O : Ok prog X PS r kT0 g (a :: N) kA kT) (h0 : a.ph.told = false) (hA : g'.oa = g.oa) (hT : g'.ot.IsDictOf (PySem.intKind prog X.w) (stored kT a.p.i (.int (r + 1) u))) (hp : a'.p = a.p) (hl : PRow X a'.p a'.ph a'.l) (h1 : a'.ph.asked = a.ph.asked) (h2 : a'.ph.told = true) (h3 : a'.ph.tm r a.p.comes) :
    Ok prog X PS r kT0 g' (a' :: N) kA (stored kT a.p.i (.int (r + 1) u)) := by
  have hn := O.tk a (.head _)
  rw [h0] at hn
  have hn : valueAt kT a.p.i = none := by
    cases h : valueAt kT a.p.i with
    | none => rfl
    | some => rw [h] at hn; exact nomatch hn
  have ne := ni_ne P O.ps
  refine ⟨?_, ?_, hA ▸ O.oa, hT, ?_, ?_, O.ak2, ?_, ?_, ?_, ?_⟩
  · have := O.ps
    rw [List.map_cons] at this ⊢
    rw [hp]
    exact this
  · intro b hb
    rcases List.mem_cons.mp hb with rfl | hb
    · exact hl
    · exact O.ok b (.tail _ hb)
  · intro b hb
    rcases List.mem_cons.mp hb with rfl | hb
    · rw [hp, h1]
      exact O.ak a (.head _)
    · exact O.ak b (.tail _ hb)
  · intro b hb
    rcases List.mem_cons.mp hb with rfl | hb
    · rw [hp, h2, valueAt_app hn, if_pos rfl]
      rfl
    · rw [valueAt_app hn, if_neg (ne b hb)]
      exact O.tk b (.tail _ hb)
  · intro n h
    rw [valueAt_app hn] at h
    split at h
    · rename_i e
      subst e
      exact List.mem_map.mpr ⟨a.p, O.ps.mem_iff.mp (.head _), rfl⟩
    · exact O.tk2 n h
  · intro n v h
    rw [valueAt_app hn]
    have := O.tm1 n v h
    split
    · rename_i e
      subst e
      rw [hn] at this
      exact nomatch this
    · exact this
  · intro n v h h'
    rw [valueAt_app hn] at h
    split at h
    · injection h with h
      exact ⟨u, h.symm⟩
    · exact O.tm2 n v h h'
  · intro b hb
    rcases List.mem_cons.mp hb with rfl | hb
    · rw [hp]
      exact h3
    · exact O.tm b (.tail _ hb)
end
end Mine
end

section
-- part Y4
open PySem PySem.W PyProof.Rows PySem.Spec in
theorem Mine.turn_Y4 {p : Program} {w : World} {A : Around} {en : Env} {Q : Flow → Shared → Prop} {E : Value → Shared → Prop} {s : Shared} (h : Q .next s) : wpAny (model p w) A (execs [] en) Q E s := by
  w_top off
  walk1
  exact h
open PySem PySem.W PyProof.Rows PySem.Calls PyProof.V PySem.Spec
namespace Mine

theorem fm_pr {Q : List Wt} : (Q.map Wt.pr).flatMap Pr.l = Q.flatMap Wt.l := by
  rw [List.flatMap_map]
theorem sub_trans {A B C : List (Addr × Obj)} (h1 : ∀ p ∈ A, p ∈ B) (h2 : ∀ p ∈ B, p ∈ C) : ∀ p ∈ A, p ∈ C := fun p hp => h2 p (h1 p hp)
theorem fm_pend {Q : List Wt} : (Q.map Wt.pr).flatMap Pr.pend = [] := by
  induction Q with
  | nil => rfl
  | cons q Q ih => rw [List.map_cons, List.flatMap_cons, ih]; rfl
local macro_rules | `(tactic| walk_at "inl") => `(tactic| first | exact .head _ | (refine List.Mem.tail _ ?_; walk_at "inl") | (refine List.mem_append_right _ ?_; walk_at "inl") | (refine List.mem_append_left _ ?_; walk_at "inl"))
local macro_rules | `(tactic| walk_at "leaf") => `(tactic| first | exact fun _ h => h | exact fun _ h => List.mem_append_left _ h | (refine sub_cons ?_; walk_at "leaf") | (refine sub_appr ?_; walk_at "leaf"))
local macro_rules | `(tactic| walk_at "subl") => `(tactic| first
  | exact nil_sub
  | ((with_reducible refine app_sub ?_ ?_); (focus walk_at "rows"); walk_at "rows")
  | walk_at "leaf"
  | (refine sub_trans (by with_reducible assumption) ?_; walk_at "rows"))
local macro_rules | `(tactic| walk_at "rows") => `(tactic| ((repeat (refine an_cons (by walk_at "inl") ?_)); walk_at "subl"))
local macro_rules | `(tactic| walk_at "sub") => `(tactic| (simp only [eR, qR, tS, tR, List.flatMap_cons, List.flatMap_append, fm_pr, List.map_append, List.cons_append, List.nil_append, List.append_assoc]; first | (refine sub_cnt fun p9 => ?_; simp only [cp_app, cp_cons, cp_nil, Nat.zero_add, Nat.add_zero]; omega) | (walk_at "rows") | fail "rows"))
local macro_rules | `(tactic| k_cells $Y:ident) => `(tactic| (refine nd_le $Y fun _ => ?_; simp only [eR, qR, tS, tR, wl_snoc, List.flatMap_cons, List.flatMap_append, fm_pr, List.map_append, List.map_cons, List.map_nil, List.cons_append, List.nil_append, List.append_assoc, cnt_app, cnt_cons, cnt_nil, Nat.zero_add]; omega))
local macro_rules | `(tactic| k_lt2 $Y:ident) => `(tactic| (refine nd_le $Y fun z9 => ?_; (have hc9 := perm_cnt ‹List.Perm (List.flatMap Pr.l _ ++ List.flatMap Wt.l _) _› z9); simp only [eR, qR, tS, tR, wl_snoc, List.flatMap_cons, List.flatMap_append, fm_pr, List.map_append, List.map_cons, List.map_nil, List.cons_append, List.nil_append, List.append_assoc, cnt_app, cnt_cons, cnt_nil, Nat.zero_add] at hc9 ⊢; omega))
section
variable {prog : Program} {X : Fx} {PS : List Pc} {r : Int} {kT0 kA kT : List (Int × Value)} {g : Gl} {a : Pr} {N : List Pr} {Qp : List Wt} {us : List QE} {Wp Wg : List WE} {T : List (Addr × Obj)}
theorem w1 {y : QE} {te : Addr} (P : PsOk PS) (H : PgOk prog) (G : OcOk X) (A : Ag X g (a :: (Qp.map Wt.pr ++ N)) us (Qp.map Wt.x) Wg T) (O : Ok prog X PS r kT0 g (a :: (Qp.map Wt.pr ++ N)) kA kT) (ha : a.ph = .s1 y te) (hp : a.p.puts = true) (hQ : ∀ q ∈ Qp, q.p.puts = true) (hr : y.t = r + 1)
    (hx : g.ys[0]? = some y) (hz : g.ys.size + Qp.length < 880) (hkz : kA.length < 100) :
    CallT prog X.w 150 900 (.ref 651) [.ref X.e] (wR X g (Qp.map Wt.x) Wg ((a :: (Qp.map Wt.pr ++ N)).flatMap Pr.l ++ T)) (fun v rows' => v = .none ∧ ∃ (g' : Gl) (q : Wt) (Qs Qr : List Wt) (sl : List Pr) (kA' : List (Int × Value)), rows' = wR X g' (Qr.map Wt.x) Wg ((sl ++ (Qr.map Wt.pr ++ N)).flatMap Pr.l ++ T) ∧ Ag X g' (sl ++ (Qr.map Wt.pr ++ N)) us (Qr.map Wt.x) Wg T ∧ Ok prog X PS r kT0 g' (sl ++ (Qr.map Wt.pr ++ N)) kA' kT ∧
      q.p = a.p ∧ Qp ++ [q] = Qs ++ Qr ∧ sl.map Pr.p = Qs.map Wt.p ∧ (∀ b ∈ sl, b.p.puts = true ∧ ∃ y x, b.ph = .s3 y x) ∧ (∀ gs, Reach X.room g.level ((Qp ++ [q]).map nm) gs g'.level (Qr.map nm) gs) ∧ (∀ q Q', Qr = q :: Q' → ¬ q.p.amt ≤ X.room - g'.level) ∧ (Qs = [] → g'.level = g.level) ∧ kA'.length = kA.length + 1) := by
  refine Mine.go_of ?_
  simp (disch := k_dflt (
  obtain ⟨p, ph, l⟩ := a
  dsimp only at ha hp
  subst ha
  have hr0 := O.ok _ (.head _)
  have hak := O.ak _ (.head _)
  have hct := O.tm _ (.head _)
  dsimp only at hr0 hak
  have hR : ∀ q ∈ Qp, PRow X q.p (.s2 q.x) q.l := fun q hq => O.ok q.pr (.tail _ (List.mem_append_left _ (List.mem_map.mpr ⟨q, hq, rfl⟩)))
  have ham : (0 : Int) < p.amt := P.am p (O.ps.mem_iff.mp (.head _))
  refine CallT.conseq (lstep1 (p := p) (prog := prog) (l := l) (level := g.level) (v2 := g.v2) (W := Qp.map Wt.x) (pn := g.np) (oa := g.oa) (u1 := g.u1) (now := g.now) (act := g.act) (ys := g.ys) (qn := g.qn) (k := g.k) (u4 := g.u4) (T := [(X.gq, wqO Wg g.ng), (X.tol, g.ot)] ++
    (wl X.w 871 X.e X.tn Wg ++ (Qp.flatMap Wt.l ++ (N.flatMap Pr.l ++ T)))) H hr0 hp ham G O.oa hak hkz (by have nd := A.nd; k_cells nd) hx (tups_head (fun b hb => O.ok b (.tail _ hb)) A.tu rfl A.ag (by simp only [List.flatMap_append, fm_pr, List.append_assoc]; walk_at "leaf")) (by rw [List.length_map]; omega) A.de A.ei A.hp) (by omega) (by omega) ?sub ?post
  case sub => walk_at "sub"
  case post =>
    rintro v rw ⟨rfl, ws, zs, x, l2, D, S, R, l', k', qn', pn', u4', v2', oa', pm, d1, d2, d3, hR2, sv, hoa, nd1, rfl, nd⟩
    have e1 := ag_pop rfl A.ag pm
    obtain ⟨Qs, Qr, sl, D2, q1, q2, q3, q4, q5, q6, q7, q8⟩ := srv_world (sv []) (Qp ++ [⟨p, x, l2⟩]) (by rw [List.map_append]; rfl) (fun q hq => by
      rcases List.mem_append.mp hq with hq | hq
      · exact ⟨hR q hq, by show cls q.p.puts = 850; rw [hQ q hq]; rfl⟩
      · rw [List.mem_singleton] at hq
        subst hq
        exact ⟨hR2, by show cls p.puts = 850; rw [hp]; rfl⟩)
    have q7 : D = D2 := List.append_cancel_right q7
    subst q7
    subst q2
    have hfm : Qp.flatMap Wt.l ++ l2 = Qs.flatMap Wt.l ++ Qr.flatMap Wt.l := by
      have := congrArg (List.flatMap Wt.l) q1
      rw [List.flatMap_append, List.flatMap_append] at this
      rw [← this]
      simp
    have hP : (sl.flatMap Pr.l ++ Qr.flatMap Wt.l).Perm (D ++ (Qp.flatMap Wt.l ++ l2)) := by
      rw [hfm, ← List.append_assoc]
      exact q8.append_right _
    have hs1 : ∀ z ∈ sl.flatMap Pr.l, z ∈ D ++ (Qp.flatMap Wt.l ++ l2) := fun z hz => hP.mem_iff.mp (List.mem_append_left _ hz)
    have hs2 : ∀ z ∈ Qr.flatMap Wt.l, z ∈ D ++ (Qp.flatMap Wt.l ++ l2) := fun z hz => hP.mem_iff.mp (List.mem_append_right _ hz)
    have hA1 := Ok.ask (g' := ⟨y.t, y.u1, .none, zs, qn', k', u4', l', v2', pn', g.ng, oa', g.ot⟩) (a' := ⟨p, .s2 x, l2⟩) (v := .ref x.e) P O rfl hoa rfl rfl hR2 rfl rfl (by show p.comes ≤ r + 1; have := (s1_t hr0).1; omega)
    have hA2 : Ok prog X PS r kT0 ⟨y.t, y.u1, .none, zs, qn', k', u4', l', v2', pn', g.ng, oa', g.ot⟩ (Qs.map Wt.pr ++ (Qr.map Wt.pr ++ N)) (stored kA p.i (.ref x.e)) kT := by
      refine hA1.perm ?_
      rw [← List.append_assoc, ← List.map_append, ← q1, List.map_append, List.append_assoc]
      exact List.perm_middle.symm
    have hA3 := Ok.serve (g' := ⟨y.t, y.u1, .none, zs, qn', k', u4', l', v2', pn', g.ng, oa', g.ot⟩) hA2 rfl rfl q4 (fun b hb => by
      obtain ⟨a1, q, hq, a2, y2, a3, a4⟩ := q5 b hb
      exact ⟨a1, q, hq, a2, y2, a3, a4.trans hr⟩)
    have hQs : ∀ q ∈ Qs, q.p.puts = true := fun q hq => by
      have : q ∈ Qp ++ [⟨p, x, l2⟩] := by rw [q1]; exact List.mem_append_left _ hq
      rcases List.mem_append.mp this with h | h
      · exact hQ q h
      · rw [List.mem_singleton] at h
        subst h
        exact hp
    refine ⟨wR X ⟨y.t, y.u1, .none, zs, qn', k', u4', l', v2', pn', g.ng, oa', g.ot⟩ (Qr.map Wt.x) Wg ((sl ++ (Qr.map Wt.pr ++ N)).flatMap Pr.l ++ T), ?_, rfl, _, ⟨p, x, l2⟩, Qs, Qr, sl, stored kA p.i (.ref x.e), rfl, ⟨?_, d3, d1, d2, ?_, A.tu⟩, hA3, rfl, q1, q4, ?_, ?_, ?_, ?_, length_app hak⟩
    · walk_at "sub"
    · refine q6.trans ?_
      rw [List.flatMap_append, List.flatMap_append, fm_pend, List.nil_append, List.append_assoc]
      refine (e1.append_left _).trans ?_
      rw [List.flatMap_append, fm_pend, List.nil_append]
    · k_lt2 nd
    · intro b hb
      obtain ⟨_, q, hq, e, y2, e2, _⟩ := q5 b hb
      exact ⟨by rw [e]; exact hQs q hq, y2, q.x, e2⟩
    · intro gs
      rw [q1]
      refine srv_reachP (sv []) gs Qs Qr (by rw [← q1, List.map_append]; rfl) q3 fun q hq => ?_
      rw [← q1] at hq
      rcases List.mem_append.mp hq with hq | hq
      · exact s2_amt (hR q hq)
      · rw [List.mem_singleton] at hq
        subst hq
        exact s2_amt hR2
    · intro q Q' hq
      subst hq
      have h1 := srv_stop (sv []) q.x (Q'.map Wt.x) rfl
      have h2 : q.x.amt = q.p.amt := s2_amt (hA3.ok q.pr (List.mem_append_right _ (.head _)))
      rw [← h2]
      exact of_decide_eq_false h1
    · intro h
      subst h
      exact srv_nil (sv []) q3.symm)) only [↓Mine.go_eq]
end
end Mine
end

section
-- part Y5
open PySem PySem.W PyProof.Rows PySem.Spec in
theorem Mine.turn_Y5 {p : Program} {w : World} {A : Around} {en : Env} {Q : Flow → Shared → Prop} {E : Value → Shared → Prop} {s : Shared} (h : Q .next s) : wpAny (model p w) A (execs [] en) Q E s := by
  w_top off
  walk1
  exact h
open PySem PySem.W PyProof.Rows PySem.Calls PyProof.V PySem.Spec
namespace Mine

local macro_rules | `(tactic| walk_at "inl") => `(tactic| first | exact .head _ | (refine List.Mem.tail _ ?_; walk_at "inl") | (refine List.mem_append_right _ ?_; walk_at "inl") | (refine List.mem_append_left _ ?_; walk_at "inl"))
local macro_rules | `(tactic| walk_at "leaf") => `(tactic| first | exact fun _ h => h | exact fun _ h => List.mem_append_left _ h | (refine sub_cons ?_; walk_at "leaf") | (refine sub_appr ?_; walk_at "leaf"))
local macro_rules | `(tactic| walk_at "subl") => `(tactic| first
  | exact nil_sub
  | ((with_reducible refine app_sub ?_ ?_); (focus walk_at "rows"); walk_at "rows")
  | walk_at "leaf"
  | (refine sub_trans (by with_reducible assumption) ?_; walk_at "rows"))
local macro_rules | `(tactic| walk_at "rows") => `(tactic| ((repeat (refine an_cons (by walk_at "inl") ?_)); walk_at "subl"))
local macro_rules | `(tactic| walk_at "sub") => `(tactic| (simp only [eR, qR, tS, tR, List.flatMap_cons, List.flatMap_append, fm_pr, List.map_append, List.cons_append, List.nil_append, List.append_assoc]; first | (refine sub_cnt fun p9 => ?_; simp only [cp_app, cp_cons, cp_nil, Nat.zero_add, Nat.add_zero]; omega) | (walk_at "rows") | fail "rows"))
local macro_rules | `(tactic| k_cells $Y:ident) => `(tactic| (refine nd_le $Y fun _ => ?_; simp only [eR, qR, tS, tR, wl_snoc, List.flatMap_cons, List.flatMap_append, fm_pr, List.map_append, List.map_cons, List.map_nil, List.cons_append, List.nil_append, List.append_assoc, cnt_app, cnt_cons, cnt_nil, Nat.zero_add]; omega))
local macro_rules | `(tactic| k_lt2 $Y:ident) => `(tactic| (refine nd_le $Y fun z9 => ?_; (have hc9 := perm_cnt ‹List.Perm (List.flatMap Pr.l _ ++ List.flatMap Wt.l _) _› z9); simp only [eR, qR, tS, tR, wl_snoc, List.flatMap_cons, List.flatMap_append, fm_pr, List.map_append, List.map_cons, List.map_nil, List.cons_append, List.nil_append, List.append_assoc, cnt_app, cnt_cons, cnt_nil, Nat.zero_add] at hc9 ⊢; omega))
section
variable {prog : Program} {X : Fx} {PS : List Pc} {r : Int} {kT0 kA kT : List (Int × Value)} {g : Gl} {a : Pr} {N : List Pr} {Qp : List Wt} {us : List QE} {Wp Wg : List WE} {T : List (Addr × Obj)}
theorem w1G {y : QE} {te : Addr} (P : PsOk PS) (H : PgOk prog) (G : OcOk X) (A : Ag X g (a :: (Qp.map Wt.pr ++ N)) us Wp (Qp.map Wt.x) T) (O : Ok prog X PS r kT0 g (a :: (Qp.map Wt.pr ++ N)) kA kT) (ha : a.ph = .s1 y te) (hp : a.p.puts = false) (hQ : ∀ q ∈ Qp, q.p.puts = false) (hr : y.t = r + 1)
    (hx : g.ys[0]? = some y) (hz : g.ys.size + Qp.length < 880) (hkz : kA.length < 100) :
    CallT prog X.w 150 900 (.ref 651) [.ref X.e] (wR X g Wp (Qp.map Wt.x) ((a :: (Qp.map Wt.pr ++ N)).flatMap Pr.l ++ T)) (fun v rows' => v = .none ∧ ∃ (g' : Gl) (q : Wt) (Qs Qr : List Wt) (sl : List Pr) (kA' : List (Int × Value)), rows' = wR X g' Wp (Qr.map Wt.x) ((sl ++ (Qr.map Wt.pr ++ N)).flatMap Pr.l ++ T) ∧ Ag X g' (sl ++ (Qr.map Wt.pr ++ N)) us Wp (Qr.map Wt.x) T ∧ Ok prog X PS r kT0 g' (sl ++ (Qr.map Wt.pr ++ N)) kA' kT ∧
      q.p = a.p ∧ Qp ++ [q] = Qs ++ Qr ∧ sl.map Pr.p = Qs.map Wt.p ∧ (∀ b ∈ sl, b.p.puts = false ∧ ∃ y x, b.ph = .s3 y x) ∧ (∀ ps, Reach X.room g.level ps ((Qp ++ [q]).map nm) g'.level ps (Qr.map nm)) ∧ (∀ q Q', Qr = q :: Q' → ¬ q.p.amt ≤ g'.level) ∧ (Qs = [] → g'.level = g.level) ∧ kA'.length = kA.length + 1) := by
  refine Mine.go_of ?_
  simp (disch := k_dflt (
  obtain ⟨p, ph, l⟩ := a
  dsimp only at ha hp
  subst ha
  have hr0 := O.ok _ (.head _)
  have hak := O.ak _ (.head _)
  have hct := O.tm _ (.head _)
  dsimp only at hr0 hak
  have hR : ∀ q ∈ Qp, PRow X q.p (.s2 q.x) q.l := fun q hq => O.ok q.pr (.tail _ (List.mem_append_left _ (List.mem_map.mpr ⟨q, hq, rfl⟩)))
  have ham : (0 : Int) < p.amt := P.am p (O.ps.mem_iff.mp (.head _))
  refine CallT.conseq (lstep1G (p := p) (prog := prog) (l := l) (level := g.level) (v2 := g.v2) (W := Qp.map Wt.x) (pn := g.ng) (oa := g.oa) (u1 := g.u1) (now := g.now) (act := g.act) (ys := g.ys) (qn := g.qn) (k := g.k) (u4 := g.u4) (T := [(X.pq, wqO Wp g.np), (X.tol, g.ot)] ++
    (wl X.w 850 X.e X.tn Wp ++ (Qp.flatMap Wt.l ++ (N.flatMap Pr.l ++ T)))) H hr0 hp ham G O.oa hak hkz (by have nd := A.nd; k_cells nd) hx (tups_head (fun b hb => O.ok b (.tail _ hb)) A.tu rfl A.ag (by simp only [List.flatMap_append, fm_pr, List.append_assoc]; walk_at "leaf")) (by rw [List.length_map]; omega) A.de A.ei A.hp) (by omega) (by omega) ?sub ?post
  case sub => walk_at "sub"
  case post =>
    rintro v rw ⟨rfl, ws, zs, x, l2, D, S, R, l', k', qn', pn', u4', v2', oa', pm, d1, d2, d3, hR2, sv, hoa, nd1, rfl, nd⟩
    have e1 := ag_pop rfl A.ag pm
    obtain ⟨Qs, Qr, sl, D2, q1, q2, q3, q4, q5, q6, q7, q8⟩ := srv_world (sv []) (Qp ++ [⟨p, x, l2⟩]) (by rw [List.map_append]; rfl) (fun q hq => by
      rcases List.mem_append.mp hq with hq | hq
      · exact ⟨hR q hq, by show cls q.p.puts = 871; rw [hQ q hq]; rfl⟩
      · rw [List.mem_singleton] at hq
        subst hq
        exact ⟨hR2, by show cls p.puts = 871; rw [hp]; rfl⟩)
    have q7 : D = D2 := List.append_cancel_right q7
    subst q7
    subst q2
    have hfm : Qp.flatMap Wt.l ++ l2 = Qs.flatMap Wt.l ++ Qr.flatMap Wt.l := by
      have := congrArg (List.flatMap Wt.l) q1
      rw [List.flatMap_append, List.flatMap_append] at this
      rw [← this]
      simp
    have hP : (sl.flatMap Pr.l ++ Qr.flatMap Wt.l).Perm (D ++ (Qp.flatMap Wt.l ++ l2)) := by
      rw [hfm, ← List.append_assoc]
      exact q8.append_right _
    have hs1 : ∀ z ∈ sl.flatMap Pr.l, z ∈ D ++ (Qp.flatMap Wt.l ++ l2) := fun z hz => hP.mem_iff.mp (List.mem_append_left _ hz)
    have hs2 : ∀ z ∈ Qr.flatMap Wt.l, z ∈ D ++ (Qp.flatMap Wt.l ++ l2) := fun z hz => hP.mem_iff.mp (List.mem_append_right _ hz)
    have hA1 := Ok.ask (g' := ⟨y.t, y.u1, .none, zs, qn', k', u4', l', v2', g.np, pn', oa', g.ot⟩) (a' := ⟨p, .s2 x, l2⟩) (v := .ref x.e) P O rfl hoa rfl rfl hR2 rfl rfl (by show p.comes ≤ r + 1; have := (s1_t hr0).1; omega)
    have hA2 : Ok prog X PS r kT0 ⟨y.t, y.u1, .none, zs, qn', k', u4', l', v2', g.np, pn', oa', g.ot⟩ (Qs.map Wt.pr ++ (Qr.map Wt.pr ++ N)) (stored kA p.i (.ref x.e)) kT := by
      refine hA1.perm ?_
      rw [← List.append_assoc, ← List.map_append, ← q1, List.map_append, List.append_assoc]
      exact List.perm_middle.symm
    have hA3 := Ok.serve (g' := ⟨y.t, y.u1, .none, zs, qn', k', u4', l', v2', g.np, pn', oa', g.ot⟩) hA2 rfl rfl q4 (fun b hb => by
      obtain ⟨a1, q, hq, a2, y2, a3, a4⟩ := q5 b hb
      exact ⟨a1, q, hq, a2, y2, a3, a4.trans hr⟩)
    have hQs : ∀ q ∈ Qs, q.p.puts = false := fun q hq => by
      have : q ∈ Qp ++ [⟨p, x, l2⟩] := by rw [q1]; exact List.mem_append_left _ hq
      rcases List.mem_append.mp this with h | h
      · exact hQ q h
      · rw [List.mem_singleton] at h
        subst h
        exact hp
    refine ⟨wR X ⟨y.t, y.u1, .none, zs, qn', k', u4', l', v2', g.np, pn', oa', g.ot⟩ Wp (Qr.map Wt.x) ((sl ++ (Qr.map Wt.pr ++ N)).flatMap Pr.l ++ T), ?_, rfl, _, ⟨p, x, l2⟩, Qs, Qr, sl, stored kA p.i (.ref x.e), rfl, ⟨?_, d3, d1, d2, ?_, A.tu⟩, hA3, rfl, q1, q4, ?_, ?_, ?_, ?_, length_app hak⟩
    · walk_at "sub"
    · refine q6.trans ?_
      rw [List.flatMap_append, List.flatMap_append, fm_pend, List.nil_append, List.append_assoc]
      refine (e1.append_left _).trans ?_
      rw [List.flatMap_append, fm_pend, List.nil_append]
    · k_lt2 nd
    · intro b hb
      obtain ⟨_, q, hq, e, y2, e2, _⟩ := q5 b hb
      exact ⟨by rw [e]; exact hQs q hq, y2, q.x, e2⟩
    · intro gs
      rw [q1]
      refine srv_reachG (sv []) gs Qs Qr (by rw [← q1, List.map_append]; rfl) q3 fun q hq => ?_
      rw [← q1] at hq
      rcases List.mem_append.mp hq with hq | hq
      · exact s2_amt (hR q hq)
      · rw [List.mem_singleton] at hq
        subst hq
        exact s2_amt hR2
    · intro q Q' hq
      subst hq
      have h1 := srv_stop (sv []) q.x (Q'.map Wt.x) rfl
      have h2 : q.x.amt = q.p.amt := s2_amt (hA3.ok q.pr (List.mem_append_right _ (.head _)))
      rw [← h2]
      exact of_decide_eq_false h1
    · intro h
      subst h
      exact srv_nil (sv []) q3.symm)) only [↓Mine.go_eq]
end
section
variable {prog : Program} {X : Fx} {PS : List Pc} {r : Int} {kT0 kA kT : List (Int × Value)} {g : Gl} {a : Pr} {N : List Pr} {Qp : List Wt} {us : List QE} {Wp Wg : List WE} {T : List (Addr × Obj)}
theorem w3 {y : QE} {x : WE} (P : PsOk PS) (hfn : fnIn (Mine.kk.heap_1 X.w.params) 824 = true) (G : OcOk X) (A : Ag X g (a :: (Qp.map Wt.pr ++ N)) us Wp (Qp.map Wt.x) T) (O : Ok prog X PS r kT0 g (a :: (Qp.map Wt.pr ++ N)) kA kT) (ha : a.ph = .s3 y x) (hp : a.p.puts = true) (hQ : ∀ q ∈ Qp, q.p.puts = false)
    (hx : g.ys[0]? = some y) (hz : g.ys.size + Qp.length < 880) (hkz : kT.length < 100) :
    CallT prog X.w 150 900 (.ref 651) [.ref X.e] (wR X g Wp (Qp.map Wt.x) ((a :: (Qp.map Wt.pr ++ N)).flatMap Pr.l ++ T)) (fun v rows' => v = .none ∧ ∃ (g' : Gl) (Qs Qr : List Wt) (sl : List Pr) (a' : Pr) (y' : QE) (kT' : List (Int × Value)), rows' = wR X g' Wp (Qr.map Wt.x) ((sl ++ (a' :: (Qr.map Wt.pr ++ N))).flatMap Pr.l ++ T) ∧ Ag X g' (sl ++ (a' :: (Qr.map Wt.pr ++ N))) us Wp (Qr.map Wt.x) T ∧ Ok prog X PS r kT0 g' (sl ++ (a' :: (Qr.map Wt.pr ++ N))) kA kT' ∧
      a'.p = a.p ∧ a'.ph = .s4 y' x ∧ Qp = Qs ++ Qr ∧ sl.map Pr.p = Qs.map Wt.p ∧ (∀ b ∈ sl, b.p.puts = false ∧ ∃ y x, b.ph = .s3 y x) ∧ (∀ ps, Reach X.room g.level ps (Qp.map nm) g'.level ps (Qr.map nm)) ∧ (∀ q Q', Qr = q :: Q' → ¬ q.p.amt ≤ g'.level) ∧ (Qs = [] → g'.level = g.level) ∧ kT'.length = kT.length + 1) := by
  refine Mine.go_of ?_
  simp (disch := k_dflt (
  obtain ⟨p, ph, l⟩ := a
  dsimp only at ha hp
  subst ha
  have hr0 := O.ok _ (.head _)
  have htk := O.tk _ (.head _)
  have hr : y.t = r + 1 := (O.tm _ (.head _)).1
  dsimp only at hr0 htk
  have htn : valueAt kT p.i = none := by
    cases h : valueAt kT p.i with
    | none => rfl
    | some => rw [h] at htk; exact nomatch htk
  have hR : ∀ q ∈ Qp, PRow X q.p (.s2 q.x) q.l := fun q hq => O.ok q.pr (.tail _ (List.mem_append_left _ (List.mem_map.mpr ⟨q, hq, rfl⟩)))
  refine CallT.conseq (lstep3 (p := p) (prog := prog) (l := l) (level := g.level) (v2 := g.v2) (W := Qp.map Wt.x) (pn := g.ng) (ot := g.ot) (u1 := g.u1) (now := g.now) (act := g.act) (ys := g.ys) (qn := g.qn) (k := g.k) (u4 := g.u4) (T := [(X.pq, wqO Wp g.np), (X.ask, g.oa)] ++
    (wl X.w 850 X.e X.tn Wp ++ (Qp.flatMap Wt.l ++ (N.flatMap Pr.l ++ T)))) hfn hr0 hp G O.ot hkz (by have nd := A.nd; k_cells nd) hx (tups_head (fun b hb => O.ok b (.tail _ hb)) A.tu rfl A.ag (by simp only [List.flatMap_append, fm_pr, List.append_assoc]; walk_at "leaf")) (by rw [List.length_map]; omega) A.de A.ei A.hp) (by omega) (by omega) ?sub ?post
  case sub => walk_at "sub"
  case post =>
    rintro v rw ⟨rfl, ws, zs, zs', y', l4, D, S, R, l', k', qn', pn', u4', v2', ot', pm, sv, pm2, hp2, h1, h2, hR2, hot, rfl, nd⟩
    have e1 := ag_pop rfl A.ag pm
    obtain ⟨i1, i2⟩ := srv_ids (sv []) (lt_pop A.de pm) (eids_pop A.ei pm)
    obtain ⟨Qs, Qr, sl, D2, rfl, q2, q3, q4, q5, q6, q7, q8⟩ := srv_world (sv []) Qp rfl (fun q hq => ⟨hR q hq, by show cls q.p.puts = 871; rw [hQ q hq]; rfl⟩)
    have q7 : D = D2 := List.append_cancel_right q7
    subst q7
    subst q2
    have hP : (sl.flatMap Pr.l ++ Qr.flatMap Wt.l).Perm (D ++ (Qs.flatMap Wt.l ++ Qr.flatMap Wt.l)) := by
      rw [← List.append_assoc]
      exact q8.append_right _
    have hs1 : ∀ z ∈ sl.flatMap Pr.l, z ∈ D ++ (Qs.flatMap Wt.l ++ Qr.flatMap Wt.l) := fun z hz => hP.mem_iff.mp (List.mem_append_left _ hz)
    rw [hr] at hot
    have hA1 := Ok.tell (g' := ⟨y.t, y.u1, .none, zs', qn', k' + 1, u4', l', v2', g.np, pn', g.oa, ot'⟩) (a' := ⟨p, .s4 y' x, l4⟩) P O rfl rfl hot rfl hR2 rfl rfl ⟨h2.trans hr, (O.tm _ (.head _)).2⟩
    have hA2 : Ok prog X PS r kT0 ⟨y.t, y.u1, .none, zs', qn', k' + 1, u4', l', v2', g.np, pn', g.oa, ot'⟩ (Qs.map Wt.pr ++ (⟨p, .s4 y' x, l4⟩ :: (Qr.map Wt.pr ++ N))) kA (stored kT p.i (.int (r + 1) y.u1)) := by
      refine hA1.perm ?_
      rw [List.map_append, List.append_assoc]
      exact List.perm_middle.symm
    have hA3 := Ok.serve (g' := ⟨y.t, y.u1, .none, zs', qn', k' + 1, u4', l', v2', g.np, pn', g.oa, ot'⟩) hA2 rfl rfl q4 (fun b hb => by
      obtain ⟨a1, q, hq, a2, y2, a3, a4⟩ := q5 b hb
      exact ⟨a1, q, hq, a2, y2, a3, a4.trans hr⟩)
    refine ⟨wR X ⟨y.t, y.u1, .none, zs', qn', k' + 1, u4', l', v2', g.np, pn', g.oa, ot'⟩ Wp (Qr.map Wt.x) ((sl ++ (⟨p, .s4 y' x, l4⟩ :: (Qr.map Wt.pr ++ N))).flatMap Pr.l ++ T), ?_, rfl, _, Qs, Qr, sl, _, y', _, rfl, ⟨?_, hp2, lt_push i1 pm2 h1, eids_next i1 i2 h1 pm2, ?_, A.tu⟩, hA3, rfl, rfl, rfl, q4, ?_, ?_, ?_, ?_, length_app htn⟩
    · walk_at "sub"
    · refine (ag_push q6 pm2).trans ?_
      rw [List.flatMap_append, List.flatMap_cons, List.flatMap_append, fm_pend, List.nil_append, List.append_assoc]
      refine List.perm_middle.symm.trans (List.Perm.append_left _ ?_)
      refine (List.Perm.cons _ e1).trans ?_
      rw [List.flatMap_append, fm_pend, List.nil_append]
      exact .refl _
    · k_lt2 nd
    · intro b hb
      obtain ⟨_, q, hq, e, y2, e2, _⟩ := q5 b hb
      exact ⟨by rw [e]; exact hQ q (List.mem_append_left _ hq), y2, q.x, e2⟩
    · intro gs
      exact srv_reachG (sv []) gs Qs Qr rfl q3 fun q hq => s2_amt (hR q hq)
    · intro q Q' hq
      subst hq
      have h1 := srv_stop (sv []) q.x (Q'.map Wt.x) rfl
      have h2 : q.x.amt = q.p.amt := s2_amt (hR q (List.mem_append_right _ (.head _)))
      rw [← h2]
      exact of_decide_eq_false h1
    · intro h
      subst h
      exact srv_nil (sv []) q3.symm)) only [↓Mine.go_eq]
end
section
variable {prog : Program} {X : Fx} {PS : List Pc} {r : Int} {kT0 kA kT : List (Int × Value)} {g : Gl} {a : Pr} {N : List Pr} {Qp : List Wt} {us : List QE} {Wp Wg : List WE} {T : List (Addr × Obj)}
theorem w3G {y : QE} {x : WE} (P : PsOk PS) (hfn : fnIn (Mine.kk.heap_1 X.w.params) 810 = true) (G : OcOk X) (A : Ag X g (a :: (Qp.map Wt.pr ++ N)) us (Qp.map Wt.x) Wg T) (O : Ok prog X PS r kT0 g (a :: (Qp.map Wt.pr ++ N)) kA kT) (ha : a.ph = .s3 y x) (hp : a.p.puts = false) (hQ : ∀ q ∈ Qp, q.p.puts = true)
    (hx : g.ys[0]? = some y) (hz : g.ys.size + Qp.length < 880) (hkz : kT.length < 100) :
    CallT prog X.w 150 900 (.ref 651) [.ref X.e] (wR X g (Qp.map Wt.x) Wg ((a :: (Qp.map Wt.pr ++ N)).flatMap Pr.l ++ T)) (fun v rows' => v = .none ∧ ∃ (g' : Gl) (Qs Qr : List Wt) (sl : List Pr) (a' : Pr) (y' : QE) (kT' : List (Int × Value)), rows' = wR X g' (Qr.map Wt.x) Wg ((sl ++ (a' :: (Qr.map Wt.pr ++ N))).flatMap Pr.l ++ T) ∧ Ag X g' (sl ++ (a' :: (Qr.map Wt.pr ++ N))) us (Qr.map Wt.x) Wg T ∧ Ok prog X PS r kT0 g' (sl ++ (a' :: (Qr.map Wt.pr ++ N))) kA kT' ∧
      a'.p = a.p ∧ a'.ph = .s4 y' x ∧ Qp = Qs ++ Qr ∧ sl.map Pr.p = Qs.map Wt.p ∧ (∀ b ∈ sl, b.p.puts = true ∧ ∃ y x, b.ph = .s3 y x) ∧ (∀ gs, Reach X.room g.level (Qp.map nm) gs g'.level (Qr.map nm) gs) ∧ (∀ q Q', Qr = q :: Q' → ¬ q.p.amt ≤ X.room - g'.level) ∧ (Qs = [] → g'.level = g.level) ∧ kT'.length = kT.length + 1) := by
  refine Mine.go_of ?_
  simp (disch := k_dflt (
  obtain ⟨p, ph, l⟩ := a
  dsimp only at ha hp
  subst ha
  have hr0 := O.ok _ (.head _)
  have htk := O.tk _ (.head _)
  have hr : y.t = r + 1 := (O.tm _ (.head _)).1
  dsimp only at hr0 htk
  have htn : valueAt kT p.i = none := by
    cases h : valueAt kT p.i with
    | none => rfl
    | some => rw [h] at htk; exact nomatch htk
  have hR : ∀ q ∈ Qp, PRow X q.p (.s2 q.x) q.l := fun q hq => O.ok q.pr (.tail _ (List.mem_append_left _ (List.mem_map.mpr ⟨q, hq, rfl⟩)))
  refine CallT.conseq (lstep3G (p := p) (prog := prog) (l := l) (level := g.level) (v2 := g.v2) (W := Qp.map Wt.x) (pn := g.np) (ot := g.ot) (u1 := g.u1) (now := g.now) (act := g.act) (ys := g.ys) (qn := g.qn) (k := g.k) (u4 := g.u4) (T := [(X.gq, wqO Wg g.ng), (X.ask, g.oa)] ++
    (wl X.w 871 X.e X.tn Wg ++ (Qp.flatMap Wt.l ++ (N.flatMap Pr.l ++ T)))) hfn hr0 hp G O.ot hkz (by have nd := A.nd; k_cells nd) hx (tups_head (fun b hb => O.ok b (.tail _ hb)) A.tu rfl A.ag (by simp only [List.flatMap_append, fm_pr, List.append_assoc]; walk_at "leaf")) (by rw [List.length_map]; omega) A.de A.ei A.hp) (by omega) (by omega) ?sub ?post
  case sub => walk_at "sub"
  case post =>
    rintro v rw ⟨rfl, ws, zs, zs', y', l4, D, S, R, l', k', qn', pn', u4', v2', ot', pm, sv, pm2, hp2, h1, h2, hR2, hot, rfl, nd⟩
    have e1 := ag_pop rfl A.ag pm
    obtain ⟨i1, i2⟩ := srv_ids (sv []) (lt_pop A.de pm) (eids_pop A.ei pm)
    obtain ⟨Qs, Qr, sl, D2, rfl, q2, q3, q4, q5, q6, q7, q8⟩ := srv_world (sv []) Qp rfl (fun q hq => ⟨hR q hq, by show cls q.p.puts = 850; rw [hQ q hq]; rfl⟩)
    have q7 : D = D2 := List.append_cancel_right q7
    subst q7
    subst q2
    have hP : (sl.flatMap Pr.l ++ Qr.flatMap Wt.l).Perm (D ++ (Qs.flatMap Wt.l ++ Qr.flatMap Wt.l)) := by
      rw [← List.append_assoc]
      exact q8.append_right _
    have hs1 : ∀ z ∈ sl.flatMap Pr.l, z ∈ D ++ (Qs.flatMap Wt.l ++ Qr.flatMap Wt.l) := fun z hz => hP.mem_iff.mp (List.mem_append_left _ hz)
    rw [hr] at hot
    have hA1 := Ok.tell (g' := ⟨y.t, y.u1, .none, zs', qn', k' + 1, u4', l', v2', pn', g.ng, g.oa, ot'⟩) (a' := ⟨p, .s4 y' x, l4⟩) P O rfl rfl hot rfl hR2 rfl rfl ⟨h2.trans hr, (O.tm _ (.head _)).2⟩
    have hA2 : Ok prog X PS r kT0 ⟨y.t, y.u1, .none, zs', qn', k' + 1, u4', l', v2', pn', g.ng, g.oa, ot'⟩ (Qs.map Wt.pr ++ (⟨p, .s4 y' x, l4⟩ :: (Qr.map Wt.pr ++ N))) kA (stored kT p.i (.int (r + 1) y.u1)) := by
      refine hA1.perm ?_
      rw [List.map_append, List.append_assoc]
      exact List.perm_middle.symm
    have hA3 := Ok.serve (g' := ⟨y.t, y.u1, .none, zs', qn', k' + 1, u4', l', v2', pn', g.ng, g.oa, ot'⟩) hA2 rfl rfl q4 (fun b hb => by
      obtain ⟨a1, q, hq, a2, y2, a3, a4⟩ := q5 b hb
      exact ⟨a1, q, hq, a2, y2, a3, a4.trans hr⟩)
    refine ⟨wR X ⟨y.t, y.u1, .none, zs', qn', k' + 1, u4', l', v2', pn', g.ng, g.oa, ot'⟩ (Qr.map Wt.x) Wg ((sl ++ (⟨p, .s4 y' x, l4⟩ :: (Qr.map Wt.pr ++ N))).flatMap Pr.l ++ T), ?_, rfl, _, Qs, Qr, sl, _, y', _, rfl, ⟨?_, hp2, lt_push i1 pm2 h1, eids_next i1 i2 h1 pm2, ?_, A.tu⟩, hA3, rfl, rfl, rfl, q4, ?_, ?_, ?_, ?_, length_app htn⟩
    · walk_at "sub"
    · refine (ag_push q6 pm2).trans ?_
      rw [List.flatMap_append, List.flatMap_cons, List.flatMap_append, fm_pend, List.nil_append, List.append_assoc]
      refine List.perm_middle.symm.trans (List.Perm.append_left _ ?_)
      refine (List.Perm.cons _ e1).trans ?_
      rw [List.flatMap_append, fm_pend, List.nil_append]
      exact .refl _
    · k_lt2 nd
    · intro b hb
      obtain ⟨_, q, hq, e, y2, e2, _⟩ := q5 b hb
      exact ⟨by rw [e]; exact hQ q (List.mem_append_left _ hq), y2, q.x, e2⟩
    · intro gs
      exact srv_reachP (sv []) gs Qs Qr rfl q3 fun q hq => s2_amt (hR q hq)
    · intro q Q' hq
      subst hq
      have h1 := srv_stop (sv []) q.x (Q'.map Wt.x) rfl
      have h2 : q.x.amt = q.p.amt := s2_amt (hR q (List.mem_append_right _ (.head _)))
      rw [← h2]
      exact of_decide_eq_false h1
    · intro h
      subst h
      exact srv_nil (sv []) q3.symm)) only [↓Mine.go_eq]
end
end Mine
end

section
-- part Z1
open PySem PySem.W PyProof.Rows PySem.Spec in
theorem Mine.turn_Z1 {p : Program} {w : World} {A : Around} {en : Env} {Q : Flow → Shared → Prop} {E : Value → Shared → Prop} {s : Shared} (h : Q .next s) : wpAny (model p w) A (execs [] en) Q E s := by
  w_top off
  walk1
  exact h
open PySem PySem.W PyProof.Rows PySem.Calls PyProof.V PySem.Spec
namespace Mine

/-! a run -/
theorem Reach.trans {room l1 l2 l3 : Int} {p1 p2 p3 g1 g2 g3 : List (Int × Int)} (h : Reach room l1 p1 g1 l2 p2 g2) (h2 : Reach room l2 p2 g2 l3 p3 g3) : Reach room l1 p1 g1 l3 p3 g3 := by
  induction h with
  | refl => exact h2
  | put hf _ ih => exact .put hf (ih h2)
  | get hf _ ih => exact .get hf (ih h2)
theorem Reach.app {room l1 l2 : Int} {p1 p2 g1 g2 : List (Int × Int)} (a b : List (Int × Int)) (h : Reach room l1 p1 g1 l2 p2 g2) : Reach room l1 (p1 ++ a) (g1 ++ b) l2 (p2 ++ a) (g2 ++ b) := by
  induction h with
  | refl => exact .refl
  | put hf _ ih => exact .put hf ih
  | get hf _ ih => exact .get hf ih
theorem head_min {ys : Array QE} {y z : QE} (H : IsHp QE.lt ys) (hx : ys[0]? = some y) (hz : z ∈ ys.toList) : z.lt y = false := by
  obtain ⟨i, hi, rfl⟩ := List.mem_iff_getElem.mp hz
  have h0 : 0 < ys.size := by
    rcases Nat.eq_zero_or_pos ys.size with h | h
    · rw [Array.getElem?_eq_none (by omega)] at hx
      exact nomatch hx
    · exact h
  rw [Array.length_toList] at hi
  have := root_min QE.ord H i hi
  rw [get_of_lt hi, get_of_lt h0] at this
  rw [Array.getElem?_eq_getElem h0] at hx
  injection hx with hx
  rw [← hx]
  exact this
theorem qlt_no {y z : QE} (h : z.lt y = false) : y.t ≤ z.t ∧ (z.t = y.t → y.p ≤ z.p) := by
  have := of_decide_eq_false h
  omega
inductive OldR (X : Fx) (r : Int) : List QE → List (Addr × Obj) → Prop
  | none : OldR X r [] []
  | one {y : QE} {ev d lb : Addr} {b1 b2 b3 b4 : Tok} {nb : Nat} : y.t = r + 1 → y.p = -1 → y.v = .ref ev → OldR X r [y] [(y.a, y.obj), (ev, instObj 181 d), (d, untO X.w b1 b2 b3 b4 X.e lb), (lb, listO #[] nb)]
inductive UnR (X : Fx) (r : Int) (y : QE) : List (Addr × Obj) → Prop
  | mk {ev d lb bm : Addr} {b1 b2 b3 b4 : Tok} {nb : Nat} : y.t = r + 2 → y.p = 0 → y.v = .ref ev → UnR X r y [(y.a, y.obj), (ev, instObj 181 d), (d, untO X.w b1 b2 b3 b4 X.e lb), (lb, listO #[.ref bm] nb), (bm, methodObj (.ref 493) (.ref 499))]
def meas (M : List Pr) : Nat := (M.map fun a => a.ph.left).sum
theorem meas_cons {a : Pr} {M : List Pr} : meas (a :: M) = a.ph.left + meas M := by
  unfold meas
  rw [List.map_cons, List.sum_cons]
theorem meas_app {A B : List Pr} : meas (A ++ B) = meas A + meas B := by
  unfold meas
  rw [List.map_append, List.sum_append]
theorem meas_perm {A B : List Pr} (h : A.Perm B) : meas A = meas B := by
  unfold meas
  induction h with
  | nil => rfl
  | cons _ _ ih => rw [List.map_cons, List.map_cons, List.sum_cons, List.sum_cons, ih]
  | swap => simp only [List.map_cons, List.sum_cons]; omega
  | trans _ _ h1 h2 => rw [h1, h2]
theorem meas_wt {Q : List Wt} : meas (Q.map Wt.pr) = 3 * Q.length := by
  induction Q with
  | nil => rfl
  | cons q Q ih => rw [List.map_cons, meas_cons, ih, List.length_cons]; show 3 + _ = _; omega
theorem meas_s3 {sl : List Pr} (h : ∀ b ∈ sl, ∃ y x, b.ph = .s3 y x) : meas sl = 2 * sl.length := by
  induction sl with
  | nil => rfl
  | cons b sl ih =>
    obtain ⟨y, x, e⟩ := h b (.head _)
    rw [meas_cons, ih fun b hb => h b (.tail _ hb), List.length_cons, e]
    show 2 + _ = _
    omega
theorem pend_len (M : List Pr) : (M.flatMap Pr.pend).length ≤ M.length := by
  induction M with
  | nil => exact Nat.le_refl _
  | cons a M ih =>
    rw [List.flatMap_cons, List.length_append, List.length_cons]
    have : a.pend.length ≤ 1 := by
      unfold Pr.pend
      cases a.ph <;> simp [Ph.pend]
    omega
theorem nodup_len {l : List Int} : ∀ {m : List Int}, l.Nodup → (∀ x ∈ l, x ∈ m) → l.length ≤ m.length := by
  induction l with
  | nil => exact fun _ _ => Nat.zero_le _
  | cons a l ih =>
    intro m hn hs
    rw [List.nodup_cons] at hn
    have ha := hs a (.head _)
    have := ih (m := m.erase a) hn.2 fun x hx => (List.mem_erase_of_ne (fun e => hn.1 (by rw [← e]; exact hx))).mpr (hs x (.tail _ hx))
    rw [List.length_erase_of_mem ha] at this
    have := List.length_pos_of_mem ha
    rw [List.length_cons]
    omega
theorem val_some {kvs : List (Int × Value)} {n : Int} (h : n ∈ kvs.map (·.1)) : (valueAt kvs n).isSome = true := by
  rw [valueAt_isSome_eq_any, List.any_eq_true]
  obtain ⟨kv, h1, h2⟩ := List.mem_map.mp h
  exact ⟨kv, h1, by simp [h2]⟩
section
variable {prog : Program} {X : Fx} {PS : List Pc} {r : Int} {kT0 kA kT : List (Int × Value)} {g : Gl} {M : List Pr}
theorem Ok.lenA (P : PsOk PS) (O : Ok prog X PS r kT0 g M kA kT) : kA.length ≤ 7 := by
  obtain ⟨es, ep, _, _, _, _, nd⟩ := O.oa
  have := nodup_len nd fun n hn => O.ak2 n (val_some hn)
  rw [List.length_map, List.length_map] at this
  exact Nat.le_trans this P.ln
theorem Ok.lenT (P : PsOk PS) (O : Ok prog X PS r kT0 g M kA kT) : kT.length ≤ 7 := by
  obtain ⟨es, ep, _, _, _, _, nd⟩ := O.ot
  have := nodup_len nd fun n hn => O.tk2 n (val_some hn)
  rw [List.length_map, List.length_map] at this
  exact Nat.le_trans this P.ln
theorem Ok.lenM (P : PsOk PS) (O : Ok prog X PS r kT0 g M kA kT) : M.length ≤ 7 := by
  have := O.ps.length_eq
  rw [List.length_map] at this
  have := P.ln
  omega
theorem nc_ne {a : Pr} {M : List Pr} (P : PsOk PS) (h : ((a :: M).map Pr.p).Perm PS) : ∀ b ∈ M, b.p.comes ≠ a.p.comes := fun b hb e => by
  have := ((h.map Pc.comes).nodup_iff).mpr P.nc
  rw [List.map_cons, List.map_cons, List.nodup_cons] at this
  exact this.1 (List.mem_map.mpr ⟨b.p, List.mem_map.mpr ⟨b, hb, rfl⟩, e⟩)
theorem nodup_inj {α : Type} {f : α → Int} {l : List α} (h : (l.map f).Nodup) : ∀ {a b : α}, a ∈ l → b ∈ l → f a = f b → a = b := by
  induction l with
  | nil => exact fun h => nomatch h
  | cons x l ih =>
    rw [List.map_cons, List.nodup_cons] at h
    intro a b ha hb e
    rcases List.mem_cons.mp ha with h1 | h1
    · rcases List.mem_cons.mp hb with h2 | h2
      · rw [h1, h2]
      · exact (h.1 (List.mem_map.mpr ⟨b, h2, by rw [← e, h1]⟩)).elim
    · rcases List.mem_cons.mp hb with h2 | h2
      · exact (h.1 (List.mem_map.mpr ⟨a, h1, by rw [e, h2]⟩)).elim
      · exact ih h.2 h1 h2 e
theorem wR_sub {M' : List Pr} {Wp Wg : List WE} {T : List (Addr × Obj)} (h : M.Perm M') : ∀ p ∈ wR X g Wp Wg (M'.flatMap Pr.l ++ T), p ∈ wR X g Wp Wg (M.flatMap Pr.l ++ T) := fun p hp => by
  refine (List.Perm.mem_iff ?_).mpr hp
  exact List.Perm.append_left _ (.append_left _ (.append_left _ (.append_left _ (.append_left _ (.append_right _ (h.flatMap_right _))))))
end
end Mine
end

section
-- part Z2
open PySem PySem.W PyProof.Rows PySem.Spec in
theorem Mine.turn_Z2 {p : Program} {w : World} {A : Around} {en : Env} {Q : Flow → Shared → Prop} {E : Value → Shared → Prop} {s : Shared} (h : Q .next s) : wpAny (model p w) A (execs [] en) Q E s := by
  w_top off
  walk1
  exact h
open PySem PySem.W PyProof.Rows PySem.Calls PyProof.V PySem.Spec
namespace Mine

section
variable (prog : Program) (X : Fx) (PS : List Pc) (r : Int) (kT0 : List (Int × Value)) (pc : Pc) (l0 : Int) (ps0 gs0 : List (Int × Int)) (T0 : List (Addr × Obj))
abbrev psC (pc : Pc) (ps0 : List (Int × Int)) : List (Int × Int) := ps0 ++ if pc.puts then [(pc.i, pc.amt)] else []
abbrev gsC (pc : Pc) (gs0 : List (Int × Int)) : List (Int × Int) := gs0 ++ if pc.puts then [] else [(pc.i, pc.amt)]
/-- the world in a run -/
structure InvF (g : Gl) (M L : List Pr) (Qp Qg : List Wt) (os : List QE) (uy : QE) (orow urow : List (Addr × Obj)) (kA kT : List (Int × Value)) : Prop where
  hM : M.Perm (L ++ (Qp.map Wt.pr ++ Qg.map Wt.pr))
  A : Ag X g M (os ++ [uy]) (Qp.map Wt.x) (Qg.map Wt.x) (orow ++ (urow ++ T0))
  O : Ok prog X PS r kT0 g M kA kT
  ol : OldR X r os orow
  un : UnR X r uy urow
  hP : ∀ q ∈ Qp, q.p.puts = true
  hG : ∀ q ∈ Qg, q.p.puts = false
  ns : ∀ a ∈ L, ∀ x, a.ph ≠ .s2 x
  i1 : ∀ q Q', Qp = q :: Q' → q.p.amt ≤ X.room - g.level → ∃ a ∈ L, a.p.puts = false ∧ ∃ y x, a.ph = .s3 y x
  i2 : ∀ q Q', Qg = q :: Q' → q.p.amt ≤ g.level → ∃ a ∈ L, a.p.puts = true ∧ ∃ y x, a.ph = .s3 y x
  ar : ((∃ a ∈ L, a.p = pc ∧ a.ph.asked = none) ∧ Reach X.room l0 ps0 gs0 g.level (Qp.map nm) (Qg.map nm)) ∨ ((∀ a ∈ L, a.ph.asked = none → a.p.comes ≠ r + 1) ∧ Reach X.room l0 (psC pc ps0) (gsC pc gs0) g.level (Qp.map nm) (Qg.map nm))
/-- the world between two runs -/
structure Rest (g : Gl) (M L : List Pr) (Qp Qg : List Wt) (os : List QE) (orow : List (Addr × Obj)) (kA kT : List (Int × Value)) : Prop where
  hM : M.Perm (L ++ (Qp.map Wt.pr ++ Qg.map Wt.pr))
  A : Ag X g M os (Qp.map Wt.x) (Qg.map Wt.x) (orow ++ T0)
  O : Ok prog X PS r kT g M kA kT
  ol : OldR X r os orow
  hP : ∀ q ∈ Qp, q.p.puts = true
  hG : ∀ q ∈ Qg, q.p.puts = false
  ph : ∀ a ∈ L, (∃ y te, a.ph = .s0 y te) ∨ (∃ y te, a.ph = .s1 y te) ∨ ∃ x, a.ph = .s5 x
  i1 : ∀ q Q', Qp = q :: Q' → ¬ q.p.amt ≤ X.room - g.level
  i2 : ∀ q Q', Qg = q :: Q' → ¬ q.p.amt ≤ g.level
  ac : ∀ a ∈ M, a.ph.asked ≠ none → a.p.comes ≤ r
  now : g.now < r + 2
def InvW (n : Nat) (u : Tok) (now : Int) (act : Value) (tl : List (Addr × Obj)) : Prop :=
  ∃ g M L Qp Qg os uy orow urow kA kT, InvF prog X PS r kT0 pc l0 ps0 gs0 T0 g M L Qp Qg os uy orow urow kA kT ∧ n = meas M + os.length ∧ ∀ p ∈ wR X g (Qp.map Wt.x) (Qg.map Wt.x) (M.flatMap Pr.l ++ (orow ++ (urow ++ T0))), p ∈ (X.e, instObj 662 X.ed) :: (X.ed, envO X.w X.t1 X.t2 X.t3 X.t4 u now X.q X.c act) :: tl
def DoneW (rows : List (Addr × Obj)) : Prop :=
  ∃ g M L Qp Qg os orow kA kT, Rest prog X PS (r + 1) T0 g M L Qp Qg os orow kA kT ∧ rows = wR X g (Qp.map Wt.x) (Qg.map Wt.x) (M.flatMap Pr.l ++ (orow ++ T0)) ∧ Reach X.room l0 (psC pc ps0) (gsC pc gs0) g.level (Qp.map nm) (Qg.map nm) ∧
    (∀ n v, valueAt kT0 n = some v → valueAt kT n = some v) ∧ (∀ n v, valueAt kT n = some v → valueAt kT0 n = none → ∃ u, v = .int (r + 1) u) ∧ ∀ a ∈ L, a.ph.asked = none → a.p.comes ≠ r + 1
end
section
variable {prog : Program} {X : Fx} {PS : List Pc} {r : Int} {kT0 : List (Int × Value)} {pc : Pc} {l0 : Int} {ps0 gs0 : List (Int × Int)} {T0 : List (Addr × Obj)} {g : Gl} {M L : List Pr} {Qp Qg : List Wt} {os : List QE} {uy : QE} {orow urow : List (Addr × Obj)} {kA kT : List (Int × Value)}
theorem InvF.size (P : PsOk PS) (I : InvF prog X PS r kT0 pc l0 ps0 gs0 T0 g M L Qp Qg os uy orow urow kA kT) : g.ys.size + (Qp.length + Qg.length) < 800 := by
  have h1 := I.O.lenM P
  have h2 := I.A.ag.length_eq
  have h3 := pend_len M
  have h4 := I.hM.length_eq
  simp only [List.length_append, List.length_map, List.length_cons, List.length_nil, Array.length_toList] at h2 h4
  have h5 : os.length ≤ 1 := by cases I.ol <;> simp
  omega
/-- the entry on top -/
theorem InvF.top (I : InvF prog X PS r kT0 pc l0 ps0 gs0 T0 g M L Qp Qg os uy orow urow kA kT) : ∃ y, g.ys[0]? = some y ∧ (∀ z ∈ g.ys.toList, y.t ≤ z.t ∧ (z.t = y.t → y.p ≤ z.p)) ∧ y.t ≤ r + 2 ∧ (y.t = r + 2 → y.p ≤ 0) ∧ ((∃ a L', a.ph.pend = [y] ∧ L.Perm (a :: L')) ∨ y ∈ os ∨ y = uy) := by
  have hu : uy ∈ g.ys.toList := I.A.ag.mem_iff.mpr (List.mem_append_right _ (List.mem_append_right _ (.head _)))
  have hs : 0 < g.ys.size := by
    have := List.length_pos_of_mem hu
    rwa [Array.length_toList] at this
  have hx : g.ys[0]? = some g.ys[0] := Array.getElem?_eq_getElem hs
  have hm := fun z hz => qlt_no (head_min I.A.hp hx (z := z) hz)
  refine ⟨g.ys[0], hx, hm, ?_, ?_, ?_⟩
  · have := (hm uy hu).1
    cases I.un
    omega
  · intro h
    have := (hm uy hu).2
    cases I.un with
    | mk h1 h2 h3 => rw [← h2]; exact this (by omega)
  · have hy : g.ys[0] ∈ g.ys.toList := by simp
    rcases List.mem_append.mp (I.A.ag.mem_iff.mp hy) with h | h
    · obtain ⟨a, M', ha, _, hp⟩ := pick h
      left
      rcases List.mem_append.mp (I.hM.mem_iff.mp ha) with ha | ha
      · obtain ⟨B, C, rfl⟩ := List.append_of_mem ha
        exact ⟨a, B ++ C, hp, List.perm_middle⟩
      · exfalso
        rw [← List.map_append] at ha
        obtain ⟨q, _, rfl⟩ := List.mem_map.mp ha
        exact nomatch hp
    · right
      rcases List.mem_append.mp h with h | h
      · exact .inl h
      · exact .inr (List.mem_singleton.mp h)
theorem permP {a : Pr} {L' : List Pr} (hM : M.Perm (L ++ (Qp.map Wt.pr ++ Qg.map Wt.pr))) (h : L.Perm (a :: L')) : M.Perm (a :: (Qp.map Wt.pr ++ (L' ++ Qg.map Wt.pr))) := by
  refine hM.trans ((h.append_right _).trans ?_)
  rw [List.cons_append]
  refine .cons _ ?_
  exact List.perm_append_comm_assoc _ _ _
theorem permG {a : Pr} {L' : List Pr} (hM : M.Perm (L ++ (Qp.map Wt.pr ++ Qg.map Wt.pr))) (h : L.Perm (a :: L')) : M.Perm (a :: (Qg.map Wt.pr ++ (L' ++ Qp.map Wt.pr))) := by
  refine hM.trans ((h.append_right _).trans ?_)
  rw [List.cons_append]
  refine .cons _ ?_
  rw [← List.append_assoc]
  exact List.perm_append_comm
end
end Mine
end

section
-- part Z3
open PySem PySem.W PyProof.Rows PySem.Spec in
theorem Mine.turn_Z3 {p : Program} {w : World} {A : Around} {en : Env} {Q : Flow → Shared → Prop} {E : Value → Shared → Prop} {s : Shared} (h : Q .next s) : wpAny (model p w) A (execs [] en) Q E s := by
  w_top off
  walk1
  exact h
open PySem PySem.W PyProof.Rows PySem.Calls PyProof.V PySem.Spec
namespace Mine

section
variable {prog : Program} {X : Fx} {PS : List Pc} {r : Int} {kT0 : List (Int × Value)} {pc : Pc} {l0 : Int} {ps0 gs0 : List (Int × Int)} {T0 : List (Addr × Obj)} {g g' : Gl} {M L : List Pr} {Qp Qg : List Wt} {os : List QE} {uy : QE} {orow urow : List (Addr × Obj)} {kA kT : List (Int × Value)}
/-- one that is left when a is taken out -/
theorem out {a b : Pr} {L' : List Pr} (h : L.Perm (a :: L')) (hb : b ∈ L) (hne : b ≠ a) : b ∈ L' := by
  rcases List.mem_cons.mp (h.mem_iff.mp hb) with h | h
  · exact absurd h hne
  · exact h
theorem InvF.swap {a a' : Pr} {L' M' : List Pr} (I : InvF prog X PS r kT0 pc l0 ps0 gs0 T0 g M L Qp Qg os uy orow urow kA kT) (hL : L.Perm (a :: L')) (hM : M'.Perm (L' ++ (Qp.map Wt.pr ++ Qg.map Wt.pr)))
    (A : Ag X g' (a' :: M') (os ++ [uy]) (Qp.map Wt.x) (Qg.map Wt.x) (orow ++ (urow ++ T0))) (O : Ok prog X PS r kT0 g' (a' :: M') kA kT) (lv : g'.level = g.level) (hp : a'.p = a.p) (hk : a'.ph.asked = a.ph.asked) (h3 : ∀ y x, a.ph ≠ .s3 y x) (h2 : ∀ x, a'.ph ≠ .s2 x) :
    InvF prog X PS r kT0 pc l0 ps0 gs0 T0 g' (a' :: M') (a' :: L') Qp Qg os uy orow urow kA kT := by
  have hin : ∀ b ∈ L', b ∈ L := fun b hb => hL.mem_iff.mpr (.tail _ hb)
  refine ⟨hM.cons _, A, O, I.ol, I.un, I.hP, I.hG, ?_, ?_, ?_, ?_⟩
  · intro b hb
    rcases List.mem_cons.mp hb with rfl | hb
    · exact h2
    · exact I.ns b (hin b hb)
  · intro q Q' hq hf
    rw [lv] at hf
    obtain ⟨b, hb, e, y, x, e2⟩ := I.i1 q Q' hq hf
    exact ⟨b, .tail _ (out hL hb fun e => h3 y x (e ▸ e2)), e, y, x, e2⟩
  · intro q Q' hq hf
    rw [lv] at hf
    obtain ⟨b, hb, e, y, x, e2⟩ := I.i2 q Q' hq hf
    exact ⟨b, .tail _ (out hL hb fun e => h3 y x (e ▸ e2)), e, y, x, e2⟩
  · rw [lv]
    rcases I.ar with ⟨⟨b, hb, e, e2⟩, R⟩ | ⟨h, R⟩
    · refine .inl ⟨?_, R⟩
      rcases List.mem_cons.mp (hL.mem_iff.mp hb) with rfl | hb
      · exact ⟨a', .head _, hp.trans e, hk.trans e2⟩
      · exact ⟨b, .tail _ hb, e, e2⟩
    · refine .inr ⟨?_, R⟩
      intro b hb
      rcases List.mem_cons.mp hb with rfl | hb
      · rw [hp, hk]
        exact h a (hL.mem_iff.mpr (.head _))
      · exact h b (hin b hb)
theorem sl_some {sl : List Pr} {Qs : List Wt} (h : sl.map Pr.p = Qs.map Wt.p) (hn : Qs ≠ []) : ∃ b, b ∈ sl := by
  cases sl with
  | nil => cases Qs with
    | nil => exact absurd rfl hn
    | cons => exact nomatch h
  | cons b sl => exact ⟨b, .head _⟩
theorem InvF.arriveP {a : Pr} {L' sl : List Pr} {q : Wt} {Qs Qr : List Wt} {kA' : List (Int × Value)} (P : PsOk PS) (hpc : pc ∈ PS) (hcm : pc.comes = r + 1) (I : InvF prog X PS r kT0 pc l0 ps0 gs0 T0 g M L Qp Qg os uy orow urow kA kT) (hL : L.Perm (a :: L')) (ha : a.ph.asked = none) (h3 : ∀ y x, a.ph ≠ .s3 y x) (hc : a.p.comes = r + 1) (hp : a.p.puts = true)
    (A : Ag X g' (sl ++ (Qr.map Wt.pr ++ (L' ++ Qg.map Wt.pr))) (os ++ [uy]) (Qr.map Wt.x) (Qg.map Wt.x) (orow ++ (urow ++ T0))) (O : Ok prog X PS r kT0 g' (sl ++ (Qr.map Wt.pr ++ (L' ++ Qg.map Wt.pr))) kA' kT)
    (hq : q.p = a.p) (hQ : Qp ++ [q] = Qs ++ Qr) (hsl : sl.map Pr.p = Qs.map Wt.p) (hs : ∀ b ∈ sl, b.p.puts = true ∧ ∃ y x, b.ph = .s3 y x) (R : ∀ gs, Reach X.room g.level ((Qp ++ [q]).map nm) gs g'.level (Qr.map nm) gs) (hst : ∀ q Q', Qr = q :: Q' → ¬ q.p.amt ≤ X.room - g'.level) (hn : Qs = [] → g'.level = g.level) :
    InvF prog X PS r kT0 pc l0 ps0 gs0 T0 g' (sl ++ (Qr.map Wt.pr ++ (L' ++ Qg.map Wt.pr))) (sl ++ L') Qr Qg os uy orow urow kA' kT := by
  have hin : ∀ b ∈ L', b ∈ L := fun b hb => hL.mem_iff.mpr (.tail _ hb)
  have haL : a ∈ L := hL.mem_iff.mpr (.head _)
  have hM := permP I.hM hL
  have haP : a.p ∈ PS := (I.O.perm hM).ps.mem_iff.mp (.head _)
  have hpc' : a.p = pc := nodup_inj P.nc haP hpc (hc.trans hcm.symm)
  refine ⟨?_, A, O, I.ol, I.un, ?_, I.hG, ?_, ?_, ?_, ?_⟩
  · rw [List.append_assoc]
    exact .append_left _ (List.perm_append_comm_assoc _ _ _)
  · intro z hz
    have : z ∈ Qp ++ [q] := by rw [hQ]; exact List.mem_append_right _ hz
    rcases List.mem_append.mp this with h | h
    · exact I.hP z h
    · rw [List.mem_singleton] at h
      rw [h, hq]
      exact hp
  · intro b hb x e
    rcases List.mem_append.mp hb with hb | hb
    · obtain ⟨_, y, x2, e2⟩ := hs b hb
      rw [e2] at e
      exact nomatch e
    · exact I.ns b (hin b hb) x e
  · intro z Q' hz hf
    exact absurd hf (hst z Q' hz)
  · intro z Q' hz hf
    by_cases hQs : Qs = []
    · rw [hn hQs] at hf
      obtain ⟨b, hb, e, y, x, e2⟩ := I.i2 z Q' hz hf
      exact ⟨b, List.mem_append_right _ (out hL hb fun e => h3 y x (e ▸ e2)), e, y, x, e2⟩
    · obtain ⟨b, hb⟩ := sl_some hsl hQs
      exact ⟨b, List.mem_append_left _ hb, hs b hb⟩
  · refine .inr ⟨?_, ?_⟩
    · intro b hb hk
      rcases List.mem_append.mp hb with hb | hb
      · obtain ⟨_, y, x2, e2⟩ := hs b hb
        rw [e2] at hk
        exact nomatch hk
      · rw [← hc]
        exact nc_ne P (I.O.perm hM).ps b (List.mem_append_right _ (List.mem_append_left _ hb))
    · rcases I.ar with ⟨_, R0⟩ | ⟨h, _⟩
      · have h1 := (R0.app (if pc.puts then [(pc.i, pc.amt)] else []) (if pc.puts then [] else [(pc.i, pc.amt)])).trans (by
          have := R (Qg.map nm)
          rw [← hpc', hp, if_pos rfl, if_pos rfl, List.append_nil, ← hq]
          rw [List.map_append] at this
          exact this)
        exact h1
      · exact absurd hc (h a haL ha)
theorem InvF.arriveG {a : Pr} {L' sl : List Pr} {q : Wt} {Qs Qr : List Wt} {kA' : List (Int × Value)} (P : PsOk PS) (hpc : pc ∈ PS) (hcm : pc.comes = r + 1) (I : InvF prog X PS r kT0 pc l0 ps0 gs0 T0 g M L Qp Qg os uy orow urow kA kT) (hL : L.Perm (a :: L')) (ha : a.ph.asked = none) (h3 : ∀ y x, a.ph ≠ .s3 y x) (hc : a.p.comes = r + 1) (hp : a.p.puts = false)
    (A : Ag X g' (sl ++ (Qr.map Wt.pr ++ (L' ++ Qp.map Wt.pr))) (os ++ [uy]) (Qp.map Wt.x) (Qr.map Wt.x) (orow ++ (urow ++ T0))) (O : Ok prog X PS r kT0 g' (sl ++ (Qr.map Wt.pr ++ (L' ++ Qp.map Wt.pr))) kA' kT)
    (hq : q.p = a.p) (hQ : Qg ++ [q] = Qs ++ Qr) (hsl : sl.map Pr.p = Qs.map Wt.p) (hs : ∀ b ∈ sl, b.p.puts = false ∧ ∃ y x, b.ph = .s3 y x) (R : ∀ ps, Reach X.room g.level ps ((Qg ++ [q]).map nm) g'.level ps (Qr.map nm)) (hst : ∀ q Q', Qr = q :: Q' → ¬ q.p.amt ≤ g'.level) (hn : Qs = [] → g'.level = g.level) :
    InvF prog X PS r kT0 pc l0 ps0 gs0 T0 g' (sl ++ (Qr.map Wt.pr ++ (L' ++ Qp.map Wt.pr))) (sl ++ L') Qp Qr os uy orow urow kA' kT := by
  have hin : ∀ b ∈ L', b ∈ L := fun b hb => hL.mem_iff.mpr (.tail _ hb)
  have haL : a ∈ L := hL.mem_iff.mpr (.head _)
  have hM := permG I.hM hL
  have haP : a.p ∈ PS := (I.O.perm hM).ps.mem_iff.mp (.head _)
  have hpc' : a.p = pc := nodup_inj P.nc haP hpc (hc.trans hcm.symm)
  refine ⟨?_, A, O, I.ol, I.un, I.hP, ?_, ?_, ?_, ?_, ?_⟩
  · rw [List.append_assoc]
    refine .append_left _ ?_
    rw [← List.append_assoc L']
    exact List.perm_append_comm
  · intro z hz
    have : z ∈ Qg ++ [q] := by rw [hQ]; exact List.mem_append_right _ hz
    rcases List.mem_append.mp this with h | h
    · exact I.hG z h
    · rw [List.mem_singleton] at h
      rw [h, hq]
      exact hp
  · intro b hb x e
    rcases List.mem_append.mp hb with hb | hb
    · obtain ⟨_, y, x2, e2⟩ := hs b hb
      rw [e2] at e
      exact nomatch e
    · exact I.ns b (hin b hb) x e
  · intro z Q' hz hf
    by_cases hQs : Qs = []
    · rw [hn hQs] at hf
      obtain ⟨b, hb, e, y, x, e2⟩ := I.i1 z Q' hz hf
      exact ⟨b, List.mem_append_right _ (out hL hb fun e => h3 y x (e ▸ e2)), e, y, x, e2⟩
    · obtain ⟨b, hb⟩ := sl_some hsl hQs
      exact ⟨b, List.mem_append_left _ hb, hs b hb⟩
  · intro z Q' hz hf
    exact absurd hf (hst z Q' hz)
  · refine .inr ⟨?_, ?_⟩
    · intro b hb hk
      rcases List.mem_append.mp hb with hb | hb
      · obtain ⟨_, y, x2, e2⟩ := hs b hb
        rw [e2] at hk
        exact nomatch hk
      · rw [← hc]
        exact nc_ne P (I.O.perm hM).ps b (List.mem_append_right _ (List.mem_append_left _ hb))
    · rcases I.ar with ⟨_, R0⟩ | ⟨h, _⟩
      · have h1 := (R0.app (if pc.puts then [(pc.i, pc.amt)] else []) (if pc.puts then [] else [(pc.i, pc.amt)])).trans (by
          have := R (Qp.map nm)
          rw [← hpc', hp, if_neg Bool.false_ne_true, if_neg Bool.false_ne_true, List.append_nil, ← hq]
          rw [List.map_append] at this
          exact this)
        exact h1
      · exact absurd hc (h a haL ha)
theorem InvF.tellP {a a' : Pr} {L' sl : List Pr} {Qs Qr : List Wt} {kT' : List (Int × Value)} {y : QE} {x : WE} {y' : QE} (I : InvF prog X PS r kT0 pc l0 ps0 gs0 T0 g M L Qp Qg os uy orow urow kA kT) (hL : L.Perm (a :: L')) (ha : a.ph = .s3 y x) (hp : a.p.puts = true)
    (A : Ag X g' (sl ++ (a' :: (Qr.map Wt.pr ++ (L' ++ Qp.map Wt.pr)))) (os ++ [uy]) (Qp.map Wt.x) (Qr.map Wt.x) (orow ++ (urow ++ T0))) (O : Ok prog X PS r kT0 g' (sl ++ (a' :: (Qr.map Wt.pr ++ (L' ++ Qp.map Wt.pr)))) kA kT')
    (ha' : a'.ph = .s4 y' x) (hQ : Qg = Qs ++ Qr) (hsl : sl.map Pr.p = Qs.map Wt.p) (hs : ∀ b ∈ sl, b.p.puts = false ∧ ∃ y x, b.ph = .s3 y x) (R : ∀ ps, Reach X.room g.level ps (Qg.map nm) g'.level ps (Qr.map nm)) (hst : ∀ q Q', Qr = q :: Q' → ¬ q.p.amt ≤ g'.level) (hn : Qs = [] → g'.level = g.level) :
    InvF prog X PS r kT0 pc l0 ps0 gs0 T0 g' (sl ++ (a' :: (Qr.map Wt.pr ++ (L' ++ Qp.map Wt.pr)))) (sl ++ a' :: L') Qp Qr os uy orow urow kA kT' := by
  have hin : ∀ b ∈ L', b ∈ L := fun b hb => hL.mem_iff.mpr (.tail _ hb)
  refine ⟨?_, A, O, I.ol, I.un, I.hP, ?_, ?_, ?_, ?_, ?_⟩
  · rw [List.append_assoc, List.cons_append]
    refine .append_left _ (.cons _ ?_)
    rw [← List.append_assoc L']
    exact List.perm_append_comm
  · intro z hz
    exact I.hG z (by rw [hQ]; exact List.mem_append_right _ hz)
  · intro b hb x e
    rcases List.mem_append.mp hb with hb | hb
    · obtain ⟨_, y, x2, e2⟩ := hs b hb
      rw [e2] at e
      exact nomatch e
    · rcases List.mem_cons.mp hb with rfl | hb
      · rw [ha'] at e
        exact nomatch e
      · exact I.ns b (hin b hb) x e
  · intro z Q' hz hf
    by_cases hQs : Qs = []
    · rw [hn hQs] at hf
      obtain ⟨b, hb, e, y, x, e2⟩ := I.i1 z Q' hz hf
      exact ⟨b, List.mem_append_right _ (.tail _ (out hL hb fun e3 => by rw [e3, hp] at e; exact nomatch e)), e, y, x, e2⟩
    · obtain ⟨b, hb⟩ := sl_some hsl hQs
      exact ⟨b, List.mem_append_left _ hb, hs b hb⟩
  · intro z Q' hz hf
    exact absurd hf (hst z Q' hz)
  · rcases I.ar with ⟨⟨b, hb, e, e2⟩, R0⟩ | ⟨h, R0⟩
    · refine .inl ⟨⟨b, List.mem_append_right _ (.tail _ (out hL hb fun e3 => ?_)), e, e2⟩, R0.trans (R _)⟩
      rw [e3, ha] at e2
      exact nomatch e2
    · refine .inr ⟨?_, R0.trans (R _)⟩
      intro b hb hk
      rcases List.mem_append.mp hb with hb | hb
      · obtain ⟨_, y, x2, e2⟩ := hs b hb
        rw [e2] at hk
        exact nomatch hk
      · rcases List.mem_cons.mp hb with rfl | hb
        · rw [ha'] at hk
          exact nomatch hk
        · exact h b (hin b hb) hk
theorem InvF.tellG {a a' : Pr} {L' sl : List Pr} {Qs Qr : List Wt} {kT' : List (Int × Value)} {y : QE} {x : WE} {y' : QE} (I : InvF prog X PS r kT0 pc l0 ps0 gs0 T0 g M L Qp Qg os uy orow urow kA kT) (hL : L.Perm (a :: L')) (ha : a.ph = .s3 y x) (hp : a.p.puts = false)
    (A : Ag X g' (sl ++ (a' :: (Qr.map Wt.pr ++ (L' ++ Qg.map Wt.pr)))) (os ++ [uy]) (Qr.map Wt.x) (Qg.map Wt.x) (orow ++ (urow ++ T0))) (O : Ok prog X PS r kT0 g' (sl ++ (a' :: (Qr.map Wt.pr ++ (L' ++ Qg.map Wt.pr)))) kA kT')
    (ha' : a'.ph = .s4 y' x) (hQ : Qp = Qs ++ Qr) (hsl : sl.map Pr.p = Qs.map Wt.p) (hs : ∀ b ∈ sl, b.p.puts = true ∧ ∃ y x, b.ph = .s3 y x) (R : ∀ gs, Reach X.room g.level (Qp.map nm) gs g'.level (Qr.map nm) gs) (hst : ∀ q Q', Qr = q :: Q' → ¬ q.p.amt ≤ X.room - g'.level) (hn : Qs = [] → g'.level = g.level) :
    InvF prog X PS r kT0 pc l0 ps0 gs0 T0 g' (sl ++ (a' :: (Qr.map Wt.pr ++ (L' ++ Qg.map Wt.pr)))) (sl ++ a' :: L') Qr Qg os uy orow urow kA kT' := by
  have hin : ∀ b ∈ L', b ∈ L := fun b hb => hL.mem_iff.mpr (.tail _ hb)
  refine ⟨?_, A, O, I.ol, I.un, ?_, I.hG, ?_, ?_, ?_, ?_⟩
  · rw [List.append_assoc, List.cons_append]
    refine .append_left _ (.cons _ ?_)
    exact List.perm_append_comm_assoc _ _ _
  · intro z hz
    exact I.hP z (by rw [hQ]; exact List.mem_append_right _ hz)
  · intro b hb x e
    rcases List.mem_append.mp hb with hb | hb
    · obtain ⟨_, y, x2, e2⟩ := hs b hb
      rw [e2] at e
      exact nomatch e
    · rcases List.mem_cons.mp hb with rfl | hb
      · rw [ha'] at e
        exact nomatch e
      · exact I.ns b (hin b hb) x e
  · intro z Q' hz hf
    exact absurd hf (hst z Q' hz)
  · intro z Q' hz hf
    by_cases hQs : Qs = []
    · rw [hn hQs] at hf
      obtain ⟨b, hb, e, y, x, e2⟩ := I.i2 z Q' hz hf
      exact ⟨b, List.mem_append_right _ (.tail _ (out hL hb fun e3 => by rw [e3, hp] at e; exact nomatch e)), e, y, x, e2⟩
    · obtain ⟨b, hb⟩ := sl_some hsl hQs
      exact ⟨b, List.mem_append_left _ hb, hs b hb⟩
  · rcases I.ar with ⟨⟨b, hb, e, e2⟩, R0⟩ | ⟨h, R0⟩
    · refine .inl ⟨⟨b, List.mem_append_right _ (.tail _ (out hL hb fun e3 => ?_)), e, e2⟩, R0.trans (R _)⟩
      rw [e3, ha] at e2
      exact nomatch e2
    · refine .inr ⟨?_, R0.trans (R _)⟩
      intro b hb hk
      rcases List.mem_append.mp hb with hb | hb
      · obtain ⟨_, y, x2, e2⟩ := hs b hb
        rw [e2] at hk
        exact nomatch hk
      · rcases List.mem_cons.mp hb with rfl | hb
        · rw [ha'] at hk
          exact nomatch hk
        · exact h b (hin b hb) hk
end
end Mine
end

section
-- part Z4
open PySem PySem.W PyProof.Rows PySem.Spec in
theorem Mine.turn_Z4 {p : Program} {w : World} {A : Around} {en : Env} {Q : Flow → Shared → Prop} {E : Value → Shared → Prop} {s : Shared} (h : Q .next s) : wpAny (model p w) A (execs [] en) Q E s := by
  w_top off
  walk1
  exact h
open PySem PySem.W PyProof.Rows PySem.Calls PyProof.V PySem.Spec
namespace Mine

section
variable {prog : Program} {X : Fx} {PS : List Pc} {r : Int} {kT0 : List (Int × Value)} {pc : Pc} {l0 : Int} {ps0 gs0 : List (Int × Int)} {T0 : List (Addr × Obj)} {g g' : Gl} {M L : List Pr} {Qp Qg : List Wt} {os : List QE} {uy : QE} {orow urow : List (Addr × Obj)} {kA kT : List (Int × Value)}
theorem InvF.meas (I : InvF prog X PS r kT0 pc l0 ps0 gs0 T0 g M L Qp Qg os uy orow urow kA kT) : Mine.meas M = Mine.meas L + 3 * Qp.length + 3 * Qg.length := by
  rw [meas_perm I.hM, meas_app, meas_app, meas_wt, meas_wt]
  omega
theorem wR_eq {g : Gl} {Wp Wg : List WE} {R : List (Addr × Obj)} : ∃ tl, (X.e, instObj 662 X.ed) :: (X.ed, envO X.w X.t1 X.t2 X.t3 X.t4 g.u1 g.now X.q X.c g.act) :: tl = wR X g Wp Wg R := ⟨_, rfl⟩
theorem InvF.w {n : Nat} (I : InvF prog X PS r kT0 pc l0 ps0 gs0 T0 g M L Qp Qg os uy orow urow kA kT) (hn : Mine.meas M + os.length < n) : ∃ n' u' now' act' tl', n' < n ∧ InvW prog X PS r kT0 pc l0 ps0 gs0 T0 n' u' now' act' tl' ∧ wR X g (Qp.map Wt.x) (Qg.map Wt.x) (M.flatMap Pr.l ++ (orow ++ (urow ++ T0))) = (X.e, instObj 662 X.ed) :: (X.ed, envO X.w X.t1 X.t2 X.t3 X.t4 u' now' X.q X.c act') :: tl' := by
  obtain ⟨tl, h⟩ := wR_eq (X := X) (g := g) (Wp := Qp.map Wt.x) (Wg := Qg.map Wt.x) (R := M.flatMap Pr.l ++ (orow ++ (urow ++ T0)))
  exact ⟨_, _, _, _, tl, hn, ⟨g, M, L, Qp, Qg, os, uy, orow, urow, kA, kT, I, rfl, fun p hp => by rw [h]; exact hp⟩, h.symm⟩
theorem steps_go (P : PsOk PS) (H : PgOk prog) (G : OcOk X) (hf1 : fnIn (Mine.kk.heap_1 X.w.params) 824 = true) (hf2 : fnIn (Mine.kk.heap_1 X.w.params) 810 = true) (hpc : pc ∈ PS) (hcm : pc.comes = r + 1) (hr : 0 ≤ r) :
    Steps prog X.w 150 900 X.e X.ed X.q X.c X.t1 X.t2 X.t3 X.t4 (InvW prog X PS r kT0 pc l0 ps0 gs0 T0) (DoneW prog X PS r kT0 pc l0 ps0 gs0 T0) := by
  rintro n u now act tl ⟨g, M, L, Qp, Qg, os, uy, orow, urow, kA, kT, I, rfl, htl⟩
  refine Or.imp (fun h => CallT.conseq h (Nat.le_refl _) (Nat.le_refl _) htl fun v r hr => ⟨r, fun _ h => h, hr⟩) (fun h => CallSS.conseq h (Nat.le_refl _) (Nat.le_refl _) htl fun r hr => ⟨r, fun _ h => h, hr⟩) ?_
  obtain ⟨y, hx, hm, ht, hp, hc⟩ := I.top
  have hsz := I.size P
  have hmM := I.meas
  rcases hc with ⟨a, L', hpe, hL⟩ | hy | rfl
  · have haM : M.Perm (a :: (L' ++ (Qp.map Wt.pr ++ Qg.map Wt.pr))) := I.hM.trans (hL.append_right _)
    have hmL : meas L = a.ph.left + meas L' := by rw [meas_perm hL, meas_cons]
    have hmM2 : meas M = a.ph.left + meas (L' ++ (Qp.map Wt.pr ++ Qg.map Wt.pr)) := by rw [meas_perm haM, meas_cons]
    have ha : a ∈ M := haM.mem_iff.mpr (.head _)
    have hrow := I.O.ok a ha
    have htm := I.O.tm a ha
    have haL : a ∈ L := hL.mem_iff.mpr (.head _)
    cases hph : a.ph with
    | s0 y2 ie =>
      rw [hph] at hpe
      injection hpe with hpe
      subst hpe
      left
      refine CallT.conseq (w0 P G (I.A.perm haM) (I.O.perm haM) hph hx (by omega)) (Nat.le_refl _) (Nat.le_refl _) (wR_sub haM) ?_
      rintro v rw' ⟨rfl, g', a', y', te, rfl, A', O', e1, e2, e3⟩
      have I' := I.swap hL (.refl _) A' O' e3 e1 (by rw [e2, hph]; rfl) (by rw [hph]; exact fun _ _ h => nomatch h) (by rw [e2]; exact fun _ h => nomatch h)
      refine ⟨_, fun _ h => h, rfl, I'.w ?_⟩
      rw [meas_cons, e2, hmM2, hph]
      show 4 + _ + _ < 5 + _ + _
      omega
    | s1 y2 te =>
      rw [hph] at hpe hrow htm
      injection hpe with hpe
      subst hpe
      left
      obtain ⟨t1, t2⟩ := s1_t hrow
      have htm : r + 1 ≤ a.p.comes := htm
      have hrc : y2.t = r + 1 := by omega
      have hcc : a.p.comes = r + 1 := by omega
      rw [hph] at hmL
      have hmL : meas L = 4 + meas L' := hmL
      cases hpp : a.p.puts with
      | true =>
        have hM := permP I.hM hL
        refine CallT.conseq (w1 P H G (I.A.perm hM) (I.O.perm hM) hph hpp I.hP hrc hx (by omega) (by have := I.O.lenA P; omega)) (Nat.le_refl _) (Nat.le_refl _) (wR_sub hM) ?_
        rintro v rw' ⟨rfl, g', q, Qs, Qr, sl, kA', rfl, A', O', e1, e2, e3, e4, e5, e6, e7, e8⟩
        have I' := I.arriveP P hpc hcm hL (by rw [hph]; rfl) (by rw [hph]; exact fun _ _ h => nomatch h) hcc hpp A' O' e1 e2 e3 e4 e5 e6 e7
        refine ⟨_, fun _ h => h, rfl, I'.w ?_⟩
        have l1 := congrArg List.length e2
        have l2 := congrArg List.length e3
        simp only [List.length_append, List.length_map, List.length_cons, List.length_nil] at l1 l2
        rw [I'.meas, meas_app, meas_s3 (fun b hb => (e4 b hb).2), hmM, hmL]
        omega
      | false =>
        have hM := permG I.hM hL
        refine CallT.conseq (w1G P H G (I.A.perm hM) (I.O.perm hM) hph hpp I.hG hrc hx (by omega) (by have := I.O.lenA P; omega)) (Nat.le_refl _) (Nat.le_refl _) (wR_sub hM) ?_
        rintro v rw' ⟨rfl, g', q, Qs, Qr, sl, kA', rfl, A', O', e1, e2, e3, e4, e5, e6, e7, e8⟩
        have I' := I.arriveG P hpc hcm hL (by rw [hph]; rfl) (by rw [hph]; exact fun _ _ h => nomatch h) hcc hpp A' O' e1 e2 e3 e4 e5 e6 e7
        refine ⟨_, fun _ h => h, rfl, I'.w ?_⟩
        have l1 := congrArg List.length e2
        have l2 := congrArg List.length e3
        simp only [List.length_append, List.length_map, List.length_cons, List.length_nil] at l1 l2
        rw [I'.meas, meas_app, meas_s3 (fun b hb => (e4 b hb).2), hmM, hmL]
        omega
    | s2 x => exact absurd hph (I.ns a haL x)
    | s3 y2 x =>
      rw [hph] at hpe
      injection hpe with hpe
      subst hpe
      left
      rw [hph] at hmL
      have hmL : meas L = 2 + meas L' := hmL
      cases hpp : a.p.puts with
      | true =>
        have hM := permG I.hM hL
        refine CallT.conseq (w3 P hf1 G (I.A.perm hM) (I.O.perm hM) hph hpp I.hG hx (by omega) (by have := I.O.lenT P; omega)) (Nat.le_refl _) (Nat.le_refl _) (wR_sub hM) ?_
        rintro v rw' ⟨rfl, g', Qs, Qr, sl, a', y', kT', rfl, A', O', e1, e2, e3, e4, e5, e6, e7, e8, e9⟩
        have I' := I.tellP hL hph hpp A' O' e2 e3 e4 e5 e6 e7 e8
        refine ⟨_, fun _ h => h, rfl, I'.w ?_⟩
        have l1 := congrArg List.length e3
        have l2 := congrArg List.length e4
        simp only [List.length_append, List.length_map, List.length_cons, List.length_nil] at l1 l2
        rw [I'.meas, meas_app, meas_cons, meas_s3 (fun b hb => (e5 b hb).2), hmM, hmL, e2]
        show 2 * _ + (1 + _) + _ + _ + _ < _
        omega
      | false =>
        have hM := permP I.hM hL
        refine CallT.conseq (w3G P hf2 G (I.A.perm hM) (I.O.perm hM) hph hpp I.hP hx (by omega) (by have := I.O.lenT P; omega)) (Nat.le_refl _) (Nat.le_refl _) (wR_sub hM) ?_
        rintro v rw' ⟨rfl, g', Qs, Qr, sl, a', y', kT', rfl, A', O', e1, e2, e3, e4, e5, e6, e7, e8, e9⟩
        have I' := I.tellG hL hph hpp A' O' e2 e3 e4 e5 e6 e7 e8
        refine ⟨_, fun _ h => h, rfl, I'.w ?_⟩
        have l1 := congrArg List.length e3
        have l2 := congrArg List.length e4
        simp only [List.length_append, List.length_map, List.length_cons, List.length_nil] at l1 l2
        rw [I'.meas, meas_app, meas_cons, meas_s3 (fun b hb => (e5 b hb).2), hmM, hmL, e2]
        show 2 * _ + (1 + _) + _ + _ + _ < _
        omega
    | s4 y2 x =>
      rw [hph] at hpe
      injection hpe with hpe
      subst hpe
      left
      refine CallT.conseq (w4 (I.A.perm haM) (I.O.perm haM) hph hx (by omega)) (Nat.le_refl _) (Nat.le_refl _) (wR_sub haM) ?_
      rintro v rw' ⟨rfl, g', a', rfl, A', O', e1, e2, e3⟩
      have I' := I.swap hL (.refl _) A' O' e3 e1 (by rw [e2, hph]; rfl) (by rw [hph]; exact fun _ _ h => nomatch h) (by rw [e2]; exact fun _ h => nomatch h)
      refine ⟨_, fun _ h => h, rfl, I'.w ?_⟩
      rw [meas_cons, e2, hmM2, hph]
      show 0 + _ + _ < 1 + _ + _
      omega
    | s5 x =>
      rw [hph] at hpe
      exact nomatch hpe
  · left
    have hol := I.ol
    have hA := I.A
    cases hol with
    | none => exact nomatch hy
    | @one y2 ev d lb b1 b2 b3 b4 nb h1 h2 h3 =>
      rw [List.mem_singleton] at hy
      subst hy
      refine CallT.conseq (wOld (us := [uy]) (T := urow ++ T0) (g := g) h2 h3 hA ?hu I.O hx (by omega)) (Nat.le_refl _) (Nat.le_refl _) (fun _ h => h) ?_
      case hu =>
        intro z hz
        rw [List.mem_singleton] at hz
        subst hz
        refine List.mem_append_left _ ?_
        cases I.un
        exact .head _
      rintro v rw' ⟨rfl, g', rfl, A', O', e3⟩
      have I' : InvF prog X PS r kT0 pc l0 ps0 gs0 T0 g' M L Qp Qg [] uy [] urow kA kT := ⟨I.hM, A', O', .none, I.un, I.hP, I.hG, I.ns, by rw [e3]; exact I.i1, by rw [e3]; exact I.i2, by rw [e3]; exact I.ar⟩
      refine ⟨_, fun _ h => h, rfl, I'.w ?_⟩
      show _ + 0 < _ + 1
      omega
  · right
    have hol := I.ol
    have hA := I.A
    have hin : ∀ a ∈ L, ∀ z ∈ a.ph.pend, y.t ≤ z.t := fun a ha z hz => (hm z (I.A.ag.mem_iff.mpr (List.mem_append_left _ (List.mem_flatMap.mpr ⟨a, I.hM.mem_iff.mpr (List.mem_append_left _ ha), hz⟩)))).1
    have hok : ∀ a ∈ L, PRow X a.p a.ph a.l ∧ a.ph.tm r a.p.comes := fun a ha => ⟨I.O.ok a (I.hM.mem_iff.mpr (List.mem_append_left _ ha)), I.O.tm a (I.hM.mem_iff.mpr (List.mem_append_left _ ha))⟩
    cases hol with
    | @one y2 ev d lb b1 b2 b3 b4 nb h1 h2 h3 =>
      have := (hm y2 (I.A.ag.mem_iff.mpr (List.mem_append_right _ (.head _)))).1
      cases I.un
      omega
    | none =>
      have hun := I.un
      cases hun with
      | @mk ev d lb bm b1 b2 b3 b4 nb h1 h2 h3 =>
        have hph : ∀ a ∈ L, (∃ y te, a.ph = .s1 y te ∧ r + 2 ≤ a.p.comes) ∨ ∃ x, a.ph = .s5 x := fun a ha => by
          obtain ⟨k1, k2⟩ := hok a ha
          have k3 := hin a ha
          cases hph : a.ph with
          | s0 z ie =>
            rw [hph] at k1 k3
            have := k3 z (.head _)
            have := s0_t k1
            omega
          | s1 z te =>
            rw [hph] at k1 k3
            have := k3 z (.head _)
            have := (s1_t k1).1
            exact .inl ⟨z, te, rfl, by omega⟩
          | s2 x => exact absurd hph (I.ns a ha x)
          | s3 z x =>
            rw [hph] at k2 k3
            have := k3 z (.head _)
            have k2 : z.t = r + 1 := k2.1
            omega
          | s4 z x =>
            rw [hph] at k2 k3
            have := k3 z (.head _)
            have k2 : z.t = r + 1 := k2.1
            omega
          | s5 x => exact .inr ⟨x, rfl⟩
        have hno : ∀ a ∈ L, ∀ z x, a.ph ≠ .s3 z x := fun a ha z x e => by
          rcases hph a ha with ⟨y, te, h, _⟩ | ⟨x, h⟩ <;> (rw [h] at e; exact nomatch e)
        refine CallSS.conseq (wU (us := []) (T := T0) (g := g) h3 hA (fun _ h => nomatch h) I.O hx (by omega)) (Nat.le_refl _) (Nat.le_refl _) (fun _ h => h) ?_
        rintro rw' ⟨g', y', lb', nb', j1, j2, j3, j4, rfl, A', O', e3⟩
        refine ⟨_, fun _ h => h, g', M, L, Qp, Qg, [y'], [(y'.a, y'.obj), (ev, instObj 181 d), (d, untO X.w b1 b2 b3 b4 X.e lb'), (lb', listO #[] nb')], kA, kT, ⟨I.hM, A', ⟨O'.ps, O'.ok, O'.oa, O'.ot, O'.ak, O'.tk, O'.ak2, O'.tk2, fun _ _ h => h, fun n v h h' => (by rw [h] at h'; cases h'), ?_⟩, .one (by omega) j2 j3, I.hP, I.hG, ?_, ?_, ?_, ?_, by omega⟩, rfl, ?_, I.O.tm1, I.O.tm2, ?_⟩
        · intro a ha
          have htm := I.O.tm a ha
          rcases List.mem_append.mp (I.hM.mem_iff.mp ha) with ha | ha
          · rcases hph a ha with ⟨y, te, h, hc⟩ | ⟨x, h⟩
            · rw [h]
              show r + 1 + 1 ≤ _
              omega
            · rw [h] at htm ⊢
              have htm : a.p.comes ≤ r + 1 := htm
              show a.p.comes ≤ r + 1 + 1
              omega
          · rw [← List.map_append] at ha
            obtain ⟨q, _, rfl⟩ := List.mem_map.mp ha
            have htm : q.p.comes ≤ r + 1 := htm
            show q.p.comes ≤ r + 1 + 1
            omega
        · intro a ha
          rcases hph a ha with ⟨y, te, h, hc⟩ | h
          · exact .inr (.inl ⟨y, te, h⟩)
          · exact .inr (.inr h)
        · intro q Q' hq hf
          rw [e3] at hf
          obtain ⟨b, hb, _, z, x, e⟩ := I.i1 q Q' hq hf
          exact hno b hb z x e
        · intro q Q' hq hf
          rw [e3] at hf
          obtain ⟨b, hb, _, z, x, e⟩ := I.i2 q Q' hq hf
          exact hno b hb z x e
        · intro a ha hk
          have htm := I.O.tm a ha
          rcases List.mem_append.mp (I.hM.mem_iff.mp ha) with ha | ha
          · rcases hph a ha with ⟨y, te, h, hc⟩ | ⟨x, h⟩
            · rw [h] at hk
              exact absurd rfl hk
            · rw [h] at htm
              exact htm
          · rw [← List.map_append] at ha
            obtain ⟨q, _, rfl⟩ := List.mem_map.mp ha
            exact htm
        · rw [e3]
          rcases I.ar with ⟨⟨b, hb, e1, e2⟩, _⟩ | ⟨_, R⟩
          · exfalso
            rcases hph b hb with ⟨y, te, h, hc⟩ | ⟨x, h⟩
            · rw [e1] at hc
              omega
            · rw [h] at e2
              exact nomatch e2
          · exact R
        · intro a ha h0 hc0
          rcases hph a ha with ⟨y, te, h, hc⟩ | ⟨x, h⟩
          · omega
          · rw [h] at h0
            exact nomatch h0
end
end Mine
end

section
-- part Z5
open PySem PySem.W PyProof.Rows PySem.Spec in
theorem Mine.turn_Z5 {p : Program} {w : World} {A : Around} {en : Env} {Q : Flow → Shared → Prop} {E : Value → Shared → Prop} {s : Shared} (h : Q .next s) : wpAny (model p w) A (execs [] en) Q E s := by
  w_top off
  walk1
  exact h
open PySem PySem.W PyProof.Rows PySem.Calls PyProof.V PySem.Spec
namespace Mine

local macro_rules | `(tactic| walk_at "inl") => `(tactic| first | exact .head _ | (refine List.Mem.tail _ ?_; walk_at "inl") | (refine List.mem_append_right _ ?_; walk_at "inl") | (refine List.mem_append_left _ ?_; walk_at "inl"))
local macro_rules | `(tactic| walk_at "leaf") => `(tactic| first | exact fun _ h => h | exact fun _ h => List.mem_append_left _ h | (refine sub_cons ?_; walk_at "leaf") | (refine sub_appr ?_; walk_at "leaf"))
local macro_rules | `(tactic| walk_at "subl") => `(tactic| first
  | exact nil_sub
  | ((with_reducible refine app_sub ?_ ?_); (focus walk_at "rows"); walk_at "rows")
  | walk_at "leaf")
local macro_rules | `(tactic| walk_at "rows") => `(tactic| ((repeat (refine an_cons (by walk_at "inl") ?_)); walk_at "subl"))
local macro_rules | `(tactic| walk_at "sub") => `(tactic| (simp only [eR, qR, tS, tR, List.flatMap_cons, List.map_append, List.cons_append, List.nil_append, List.append_assoc]; first | (refine sub_cnt fun p9 => ?_; simp only [cp_app, cp_cons, cp_nil, Nat.zero_add, Nat.add_zero]; omega) | (walk_at "rows") | fail "rows"))
local macro_rules | `(tactic| k_cells $Y:ident) => `(tactic| (refine nd_le $Y fun _ => ?_; simp only [eR, qR, tS, tR, wl_snoc, List.flatMap_cons, List.map_append, List.map_cons, List.map_nil, List.cons_append, List.nil_append, List.append_assoc, cnt_app, cnt_cons, cnt_nil, Nat.zero_add]; omega))
section
variable {prog : Program} {X : Fx} {PS : List Pc} {r : Int} {kT0 : List (Int × Value)} {pc : Pc} {l0 : Int} {ps0 gs0 : List (Int × Int)} {T0 : List (Addr × Obj)} {g g' : Gl} {M L : List Pr} {Qp Qg : List Wt} {os : List QE} {uy : QE} {orow urow : List (Addr × Obj)} {kA kT : List (Int × Value)}
/-- the rows behind the clock's -/
abbrev tR2 (X : Fx) (g : Gl) (Wp Wg : List WE) (R : List (Addr × Obj)) : List (Addr × Obj) := [(X.tn, instObj 929 X.td), (X.td, tankO X.w X.e X.pq X.gq X.room g.level X.r1 X.r2 X.r3 X.r4 X.r5 X.v1 g.v2), (X.pq, wqO Wp g.np), (X.gq, wqO Wg g.ng), (X.ask, g.oa), (X.tol, g.ot), (X.c', X.oc)] ++
    (wl X.w 850 X.e X.tn Wp ++ (wl X.w 871 X.e X.tn Wg ++ R))
theorem Rest.start (I : Rest prog X PS r T0 g M L Qp Qg os orow kA kT) (hc : ∃ a ∈ L, a.p = pc ∧ a.ph.asked = none) :
    Start X.w X.e X.ed X.q X.c X.cd X.t1 X.t2 X.t3 X.t4 g.qn g.now (r + 2) g.k g.u1 g.u4 X.u5 g.act g.ys X.fb (tR2 X g (Qp.map Wt.x) (Qg.map Wt.x) (M.flatMap Pr.l ++ (orow ++ T0))) (InvW prog X PS r kT pc g.level (Qp.map nm) (Qg.map nm) T0) := by
  intro q' t' x' d' l' zs x1 x2 x3 x4 y1 y2 y3 y4 pm hp nd
  refine Mine.go_of ?_
  simp (disch := k_dflt (
  refine ⟨_, ⟨g.now, g.u1, g.act, zs, g.qn + 1, g.k + 1, x4, g.level, g.v2, g.np, g.ng, g.oa, g.ot⟩, M, L, Qp, Qg, os, ⟨t', g.now + (r + 2 - g.now), 0, g.k, x1, x2, x3, .ref x'⟩, orow, [(t', tupo (g.now + (r + 2 - g.now)) 0 g.k x1 x2 x3 (.ref x')), (x', instObj 181 d'), (d', untO X.w y1 y2 y3 y4 X.e l'), (l', listO #[.ref q'] 1), (q', methodObj (.ref 493) (.ref 499))], kA, kT,
    ⟨I.hM, ⟨?_, hp, lt_push I.A.de pm rfl, eids_next I.A.de I.A.ei rfl pm, ?_, ?_⟩, ⟨I.O.ps, I.O.ok, I.O.oa, I.O.ot, I.O.ak, I.O.tk, I.O.ak2, I.O.tk2, I.O.tm1, I.O.tm2, I.O.tm⟩, I.ol, .mk (by dsimp only; omega) rfl rfl, I.hP, I.hG, ?_, ?_, ?_, .inl ⟨hc, .refl⟩⟩, rfl, ?_⟩
  · refine (ag_push I.A.ag pm).trans ?_
    rw [← List.append_assoc]
    exact (List.perm_append_comm (l₁ := [_]))
  · k_cells nd
  · intro y hy
    rcases List.mem_append.mp hy with hy | hy
    · rcases List.mem_append.mp (I.A.tu y hy) with h | h
      · exact List.mem_append_left _ h
      · exact List.mem_append_right _ (List.mem_append_right _ h)
    · rw [List.mem_singleton] at hy
      subst hy
      exact List.mem_append_right _ (.head _)
  · intro a ha x e
    rcases I.ph a ha with ⟨y, te, h⟩ | ⟨y, te, h⟩ | ⟨x, h⟩ <;> (rw [h] at e; exact nomatch e)
  · exact fun q Q' hq hf => absurd hf (I.i1 q Q' hq)
  · exact fun q Q' hq hf => absurd hf (I.i2 q Q' hq)
  · walk_at "sub")) only [↓Mine.go_eq]
theorem run_w (P : PsOk PS) (H : PgOk prog) (G : OcOk X) (hf1 : fnIn (Mine.kk.heap_1 X.w.params) 824 = true) (hf2 : fnIn (Mine.kk.heap_1 X.w.params) 810 = true) (hr : 0 ≤ r) (I : Rest prog X PS r T0 g M L Qp Qg os orow kA kT) (hc : ∃ a ∈ L, a.p = pc ∧ a.ph.asked = none) (hcm : pc.comes = r + 1) {au kt : Tok} :
    ∀ ⦃p : Program⦄ ⦃loose : List Str⦄ ⦃mean : ExcName → Option Value⦄ ⦃mg mb : Str → Option Value⦄ ⦃dp un : Nat⦄ ⦃gd : Option (List Code)⦄ ⦃cn : Str⦄ ⦃cs : Scope⦄ ⦃a : Addr⦄ ⦃ccd : Value⦄ ⦃cl : List (Str × Addr)⦄ ⦃A₀ : Around⦄ ⦃base h₀ : Heap⦄ ⦃L : Addr⦄ ⦃m : Str → Option Value⦄ ⦃s : Shared⦄ ⦃Rr : Result → Shared → Prop⦄,
    Below A₀ base [] h₀ → Fr h₀ L s.heap m → (Mine.kk.heap_1 X.w.params).In base → Top p loose mean mg mb base → CodeHd base 979 975 → cs.kind = .function → dp + 210 < recursionLimit → un + 1200 < cLine →
    News h₀ L s.heap (wR X g (Qp.map Wt.x) (Qg.map Wt.x) (M.flatMap Pr.l ++ (orow ++ T0))) →
    (∀ rows' h' tk', DoneW prog X PS r kT pc g.level ((Qp.map nm)) ((Qg.map nm)) T0 rows' → Fr h₀ L h' m → News h₀ L h' rows' → Rr (.ok (.ret .none)) { s with heap := h', toks := tk' }) →
    codeAny (model prog X.w) (kTop none dp un gd cn cs L a ccd cl []) (.call (.ref 659) ⟨[.ref X.e], [(("until" : Str), .int (r + 2) au)]⟩) Rr s := by
  intro p loose mean mg mb dp un gd cn cs a ccd cl A₀ base h₀ L1 m s Rr B F X1 T C hk hd hu N ret
  refine Mine.go_of ?_
  simp (disch := k_dflt (
  have hpc : pc ∈ PS := by
    obtain ⟨a, ha, e, _⟩ := hc
    rw [← e]
    exact I.O.ps.mem_iff.mp (List.mem_map.mpr ⟨a, I.hM.mem_iff.mpr (List.mem_append_left _ ha), rfl⟩)
  have hsz : g.ys.size < 800 := by
    have h1 := I.O.lenM P
    have h2 := I.A.ag.length_eq
    have h3 := pend_len M
    simp only [List.length_append, Array.length_toList] at h2
    have h5 : os.length ≤ 1 := by cases I.ol <;> simp
    omega
  refine run_l (D := 150) (U := 900) (kt := kt) (tl := tR2 X g (Qp.map Wt.x) (Qg.map Wt.x) (M.flatMap Pr.l ++ (orow ++ T0))) (by have nd := I.A.nd; k_cells nd) (by omega) I.A.de I.A.ei I.A.hp ?ty I.now (I.start hc) (steps_go P H G hf1 hf2 hpc hcm hr) B F X1 T C hk (by omega) (by omega) N ret
  case ty => exact tups_sub (tups_of I.O.ok I.A.tu fun y hy => I.A.ag.mem_iff.mp hy) (by walk_at "leaf"))) only [↓Mine.go_eq]
end
end Mine
end

section
-- part Z6
open PySem PySem.W PyProof.Rows PySem.Spec in
theorem Mine.turn_Z6 {p : Program} {w : World} {A : Around} {en : Env} {Q : Flow → Shared → Prop} {E : Value → Shared → Prop} {s : Shared} (h : Q .next s) : wpAny (model p w) A (execs [] en) Q E s := by
  w_top off
  walk1
  exact h
open PySem PySem.W PyProof.Rows PySem.Calls PyProof.V PySem.Spec
namespace Mine

/-! plain reckoning -/
def Stab (room l : Int) (ps gs : List (Int × Int)) : Prop := (∀ n a r, ps = (n, a) :: r → ¬ a ≤ room - l) ∧ (∀ n a r, gs = (n, a) :: r → ¬ a ≤ l)
def Posi (ps : List (Int × Int)) : Prop := ∀ x ∈ ps, 0 < x.2
theorem Reach.parts {room l1 l2 : Int} {p1 p2 g1 g2 : List (Int × Int)} (h : Reach room l1 p1 g1 l2 p2 g2) : ∃ dp dg, p1 = dp ++ p2 ∧ g1 = dg ++ g2 := by
  induction h with
  | refl => exact ⟨[], [], rfl, rfl⟩
  | @put n a _ _ _ _ _ _ hf _ ih =>
    obtain ⟨dp, dg, rfl, rfl⟩ := ih
    exact ⟨(n, a) :: dp, dg, rfl, rfl⟩
  | @get n a _ _ _ _ _ _ hf _ ih =>
    obtain ⟨dp, dg, rfl, rfl⟩ := ih
    exact ⟨dp, (n, a) :: dg, rfl, rfl⟩
theorem Reach.range {room l1 l2 : Int} {p1 p2 g1 g2 : List (Int × Int)} (h : Reach room l1 p1 g1 l2 p2 g2) : Posi p1 → Posi g1 → 0 ≤ l1 → l1 ≤ room → 0 ≤ l2 ∧ l2 ≤ room := by
  induction h with
  | refl => exact fun _ _ a b => ⟨a, b⟩
  | put hf _ ih =>
    intro hp hg a b
    have := hp _ (.head _)
    dsimp only at this
    exact ih (fun x hx => hp x (.tail _ hx)) hg (by omega) (by omega)
  | get hf _ ih =>
    intro hp hg a b
    have := hg _ (.head _)
    dsimp only at this
    exact ih hp (fun x hx => hg x (.tail _ hx)) (by omega) (by omega)
theorem Reach.viaP {room l l2 n a : Int} {p1 ps p2 g1 g2 : List (Int × Int)} (h : Reach room l p1 g1 l2 p2 g2) : p1 = (n, a) :: ps → Posi p1 → Posi g1 → a ≤ room - l → Stab room l2 p2 g2 → Reach room (l + a) ps g1 l2 p2 g2 := by
  induction h with
  | refl => exact fun e _ _ hf hs => absurd hf (hs.1 _ _ _ e)
  | put hf h ih =>
    intro e _ _ _ _
    injection e with e1 e2
    injection e1 with _ e1
    subst e1 e2
    exact h
  | @get n2 b l ps' gs' l' ps2 gs2 hf h ih =>
    intro e hp hg hf2 hs
    subst e
    have h1 := hp _ (.head _)
    have h2 := hg _ (.head _)
    dsimp only at h1 h2
    have := ih rfl hp (fun x hx => hg x (.tail _ hx)) (by omega) hs
    rw [show l - b + a = l + a - b by omega] at this
    exact .get (by omega) this
theorem Reach.viaG {room l l2 n a : Int} {p1 gs p2 g1 g2 : List (Int × Int)} (h : Reach room l p1 g1 l2 p2 g2) : g1 = (n, a) :: gs → Posi p1 → Posi g1 → a ≤ l → Stab room l2 p2 g2 → Reach room (l - a) p1 gs l2 p2 g2 := by
  induction h with
  | refl => exact fun e _ _ hf hs => absurd hf (hs.2 _ _ _ e)
  | get hf h ih =>
    intro e _ _ _ _
    injection e with e1 e2
    injection e1 with _ e1
    subst e1 e2
    exact h
  | @put n2 b l ps' gs' l' ps2 gs2 hf h ih =>
    intro e hp hg hf2 hs
    subst e
    have h1 := hp _ (.head _)
    have h2 := hg _ (.head _)
    dsimp only at h1 h2
    have := ih rfl (fun x hx => hp x (.tail _ hx)) hg (by omega) hs
    rw [show l + b - a = l - a + b by omega] at this
    exact .put (by omega) this
theorem Reach.conf {room l l1 l2 : Int} {ps gs p1 p2 g1 g2 : List (Int × Int)} (h : Reach room l ps gs l1 p1 g1) : Posi ps → Posi gs → Stab room l1 p1 g1 → Reach room l ps gs l2 p2 g2 → Stab room l2 p2 g2 → l1 = l2 ∧ p1 = p2 ∧ g1 = g2 := by
  induction h with
  | refl =>
    intro _ _ hs h2 _
    cases h2 with
    | refl => exact ⟨rfl, rfl, rfl⟩
    | put hf _ => exact absurd hf (hs.1 _ _ _ rfl)
    | get hf _ => exact absurd hf (hs.2 _ _ _ rfl)
  | put hf _ ih => exact fun hp hg hs h2 hs2 => ih (fun x hx => hp x (.tail _ hx)) hg hs (h2.viaP rfl hp hg hf hs2) hs2
  | get hf _ ih => exact fun hp hg hs h2 hs2 => ih hp (fun x hx => hg x (.tail _ hx)) hs (h2.viaG rfl hp hg hf hs2) hs2
end Mine
end

section
open PySem PySem.W PyProof.Rows PySem.Spec in
theorem Mine.turn_gB {p : Program} {w : World} {A : Around} {en : Env} {Q : Flow → Shared → Prop} {E : Value → Shared → Prop} {s : Shared} (h : Q .next s) : wpAny (model p w) A (execs [] en) Q E s := by
  w_top off
  walk1
  exact h
open PySem PySem.W PyProof.Rows PySem.Calls PyProof.V PySem.Spec
namespace Mine
local macro_rules | `(tactic| walk_at "nd") => `(tactic| ((with_reducible rename List.Nodup _ => nd9); (simp only [List.nodup_cons, List.mem_cons, List.not_mem_nil, not_or, or_false, not_false_eq_true, List.nodup_nil, and_true] at nd9); (repeat (cases ‹_ ∧ _›))))
local macro_rules | `(tactic| walk_at "subl") => `(tactic| (first | exact fun _ h => h | exact fun _ h => List.mem_append_right _ h | (refine sub_cons ?_; walk_at "subl")))
local macro_rules | `(tactic| k_room) => `(tactic| ktr_room)
local macro_rules | `(tactic| walk_at "call builtin:len") => `(tactic| (k_here; (with_reducible show wpAny _ _ (call (Value.builtin "len") [Value.ref _]) _ _ _); k_dflt (refine' len0_K ?N ?m ?z ?_; (case N => k_asm); (case m => k_mem); (case z => walk_at "lenfact"); k_whole)))
local macro_rules | `(tactic| walk_at "call builtin:list.pop") => `(tactic| (k_here; (with_reducible show wpAny _ _ (call (Value.builtin _) [Value.ref _, Value.int 0 _]) _ _ _); k_dflt (refine' pop0_K ?F ?N ?U ?z ?_; (case F => k_asm); (case N => k_asm); (case U => k_upd); (case z => walk_at "lenfact"); k_whole); intro h' F' N'; (try dsimp only at N')))
local macro_rules | `(tactic| walk_at "getItem ref int") => `(tactic| (k_here; (with_reducible show wpAny _ _ (getItem (Value.ref _) (Value.int 0 _)) _ _ _); k_dflt (refine' item0_K ?N ?m ?_; (case N => k_asm); (case m => k_mem); k_whole)))
local macro_rules | `(tactic| walk_at "lenfact") => `(tactic| (simp only [List.length_map]; omega))
local macro_rules | `(tactic| walk_at "WhlRest") => `(tactic| ((with_reducible show WhlRest _ _ _ _ _ _ _ _ _ 0 _); refine' hold_of ?_))
local macro_rules | `(tactic| walk_at "exec While Constant cons nil") => `(tactic| (k_here; refine whl_start 100 ?_))
local macro_rules | `(tactic| walk_at "exec While Compare cons nil") => `(tactic| (k_here; refine whl_start 0 (hold_of ?_)))
local macro_rules | `(tactic| walk_at "schedtail") => `(tactic| ((case N => k_asm); (case e => k_mem); (case d => k_mem); (case U => k_updF); (case V => intro o9; k_updF); (case cd => k_mem); (case B => k_asm); (case F => k_asm); (case X => k_asm); (case T => k_asm); (case hk => first | exact rfl | with_reducible assumption); (case dp => ktr_room); (case un => ktr_units); (case nd => with_reducible assumption); (case TY => first | exact tups_sub (by with_reducible assumption) (by walk_at "subl") | exact tups_two (by with_reducible assumption) (by k_mem) (by walk_at "subl")); (case hz => omega); (case D => with_reducible assumption); (case D1 => with_reducible assumption); (case H => with_reducible assumption); k_whole))
local macro_rules | `(tactic| walk_at "call ref") => `(tactic| (k_here; (with_reducible show wpAny _ _ (call (Value.ref 637) [Value.ref _, Value.ref _]) _ _ _); k_dflt (refine' sched_2 ?B ?F ?X ?T ?hk ?dp ?un ?N ?nd ?U ?V ?e ?d ?cd ?TY ?hz ?D ?D1 ?H ?_; walk_at "schedtail"; intro t9 zs9 x1 x2 x3 x4 h' tk' pm' hp' l1 F' N'; (try dsimp only at N'))))
local macro_rules | `(tactic| walk_at "call ref") => `(tactic| (k_here; (with_reducible show wpAny _ _ (call (Value.ref 637) [Value.ref _, Value.ref _, Value.int _ _]) _ _ _); k_dflt (refine' sched_3 ?B ?F ?X ?T ?hk ?dp ?un ?N ?nd ?U ?V ?e ?d ?cd ?TY ?hz ?D ?D1 ?H ?_; walk_at "schedtail"; intro t9 zs9 x1 x2 x3 x4 h' tk' pm' hp' l1 F' N'; (try dsimp only at N'))))
local macro_rules | `(tactic| walk_at "call ref") => `(tactic| (k_here; (with_reducible show wpAny _ _ (call (Value.ref 637) [Value.ref _, Value.ref _, Value.int _ _, Value.int _ _]) _ _ _); k_dflt (refine' sched_4 ?B ?F ?X ?T ?hk ?dp ?un ?N ?nd ?U ?V ?e ?d ?cd ?TY ?hz ?D ?D1 ?H ?_; walk_at "schedtail"; intro t9 zs9 x1 x2 x3 x4 h' tk' pm' hp' l1 F' N'; (try dsimp only at N'))))
local macro_rules | `(tactic| k_cells $Y:ident) => `(tactic| (have hY := kc_nine $Y; obtain ⟨o1', o2', o3', o4', o5', o6', o7', o8', o9', hE', d1', d2', d3', d4', d5', d6', d7', d8', d9'⟩ := hY; subst hE'; clear $Y))
local macro_rules | `(tactic| walk_at "enterC") => `(tactic| (refine' code_defC ?k1 ?k2 ?k3 ?k4 ?k5 ?kA ?kF ?kK ?k6 ?k7 ?k8 ?k9 ?kB ?kD ?_ ?c2 ?c3 ?c4; (case kA => exact rfl); (case kF => exact rfl); (case kK => assumption); (case k1 => k_asm); (case k2 => k_asm); (case k3 => k_asm); (case k4 => k_asm); (case k5 => k_asm); (case k6 => k_is); (case k7 => k_is); (case k8 => k_room); (case k9 => exact BindsTo.of_eq rfl); (case kB => exact rfl); (case kD => decide +kernel); (case c2 => exact rfl); (case c3 => exact rfl); (case c4 => exact rfl); k_whole; intro g' L' h' tk' cells' FG' F' N' Y' B' X' T' l1; (have l2 := lt_up l1; have l3 := lt_up l2; have l4 := lt_up l3; have l5 := lt_up l4; have l6 := lt_up l5; have l7 := lt_up l6; have l8 := lt_up l7; have l9 := lt_up l8; have l10 := lt_up l9); k_cells Y'; (try simp only [List.cons_append, List.nil_append] at N'); (try dsimp only); (try k_lift B'); (try k_fold)))
local macro_rules | `(tactic| walk_at "call builtin:hasattr") => `(tactic| (k_here; (with_reducible show wpAny _ _ (call (Value.builtin _) [Value.ref _, Value.str _ _]) _ _ _); k_dflt (refine' hasattr_K ?k1 ?k2 ?k3 ?k4 ?kM ?k5 ?k6 ?k7 ?k8 ?k9 ?k10 ?k11 ?k12 ?_; (case k1 => k_asm); (case k2 => k_asm); (case k3 => k_asm); (case k4 => k_inst); (case kM => k_is); (case k5 => k_is); (case k6 => k_is); (case k7 => k_is); (case k8 => k_is); (case k9 => k_is); (case k10 => k_is); (case k11 => decide +kernel); (case k12 => k_get); k_whole; intro q' h' F' N' l1; (try k_lt l1); (try k_sweep))))
local macro_rules | `(tactic| ktr_room) => `(tactic| ((try simp only [depth_under_make, depth_in1, depth_deeper]); (try dsimp only [kTop]); omega))
local macro_rules | `(tactic| ktr_units) => `(tactic| ((try simp only [units_in1, units_deeper, units_under_make, Around.mark_units]); (try dsimp only [kTop]); omega))

local macro_rules | `(tactic| k_lt $h:ident) => `(tactic| skip)
local macro_rules | `(tactic| k_ne) => `(tactic| first | with_reducible assumption | (with_reducible apply Ne.symm; with_reducible assumption) | exact ne_lt (by with_reducible assumption) (by k_mem) | exact ne_gt (by with_reducible assumption) (by k_mem) | exact Nat.ne_of_lt (by with_reducible assumption) | exact Nat.ne_of_gt (by with_reducible assumption))
local macro_rules | `(tactic| k_lt2 $h:ident) => `(tactic| have h8 := lt_through (by with_reducible assumption) $h)
local macro_rules | `(tactic| k_all) => `(tactic| first | with_reducible assumption | exact off_map (by with_reducible assumption) | exact off_of (by with_reducible assumption) (by walk_at "subl"))
local macro_rules | `(tactic| walk_at "call builtin:_heapq.heappop") => `(tactic| (k_here; k_dflt (refine' pop_K ?k0 ?k1 ?k2 ?k3 ?k4 ?k5 ?k6 ?k7 ?k8 ?_; (case k1 => k_asm); (case k2 => k_asm); (case k3 => k_updF); (case k0 => with_reducible assumption); (case k4 => first | exact tups_sub (by with_reducible assumption) (by walk_at "subl") | exact tups_two (by with_reducible assumption) (by k_mem) (by walk_at "subl")); (case k5 => omega); (case k6 => with_reducible assumption); (case k7 => with_reducible assumption); (case k8 => ktr_units); k_whole); intro zs' h' pm' hp' F' N'; (try dsimp only at N'); have TYp := tups_pop (by with_reducible assumption) pm' (by with_reducible assumption) rfl; have Dp := lt_pop (by with_reducible assumption) pm'; have D1p := eids_pop (by with_reducible assumption) pm'; have hzp := size_pop pm'))
local macro_rules | `(tactic| walk_at "exec For Tuple Call cons nil") => `(tactic| (k_here; (rename Fr _ _ _ _ => lF'); (with_unfolding_all refine' For_turns lF' ?_; k_whole)))
local macro_rules | `(tactic| walk_at "call type:enumerate") => `(tactic| (k_here; (with_reducible show wpAny _ _ (call (Value.type _) [Value.ref _]) (fun xv s₁ => wpAny _ _ (pyIter xv) (fun it s₂ => TurnsAt _ _ _ _ _ _ _ _ _ it s₂) _ s₁) _ _); (rename Fr _ _ _ _ => lF'); (with_unfolding_all refine' ktu_enum ?k1 lF' ?k2 ?k3 ?k4 ?k5 ?k6 ?_; (case k1 => rfl); (case k2 => k_asm); (case k3 => k_mem); (case k4 => rfl); (case k5 => first | exact rfl | walk_at "lst0" | walk_at "lst1" | walk_at "lst2"); (case k6 => rfl); k_whole); clear lF'; intro i' l1; have l2 := lt_up l1))
local macro_rules | `(tactic| walk_at "skip") => `(tactic| first
  | ((with_reducible refine' Skip.keep ?ka ?kb); (case ka => (refine an_cons ?_ (an_cons ?_ an_nil) <;> ((try dsimp only); k_ne))); (case kb => walk_at "skip"))
  | ((with_reducible refine' Skip.drop ?kb); (case kb => walk_at "skip"))
  | (refine' Skip.tail ?kt; (case kt => (refine an_cons ?_ (an_cons ?_ an_nil) <;> k_all))))
local macro_rules | `(tactic| walk_at "UnrEndW") => `(tactic| (refine' unrEnd ?k1 ?k2 ?k3 ?k4 ?_; (case k1 => k_asm); (case k2 => k_asm); (case k3 => exact an_cons (by k_mem) (an_cons (by k_mem) an_nil)); (case k4 => (simp only [List.map_cons, List.map_nil]; walk_at "skip")); k_whole; refine And.intro (by k_subL) ?_))
local macro_rules | `(tactic| walk_at "notin") => `(tactic| first
  | (refine List.not_mem_cons_of_ne_of_not_mem ?_ ?_; (focus k_ne); walk_at "notin")
  | (refine notin_map ?_; k_all))
local macro_rules | `(tactic| walk_at "newnd") => `(tactic| first | (with_reducible assumption) | (refine List.nodup_cons.mpr (And.intro ?_ ?_); (focus walk_at "notin"); walk_at "newnd"))
local macro_rules | `(tactic| walk_at "rowo") => `(tactic| first | (with_reducible exact sub_refl9) | ((with_reducible refine an_cons ?_ ?_); (focus k_mem); walk_at "rowo") | (walk_at "subl"))
local macro_rules | `(tactic| walk_at "rows") => `(tactic| first | (with_reducible exact sub_refl9) | (refine sub_cnt fun p9 => ?_; simp only [cp_app, cp_cons, cp_nil, Nat.zero_add, Nat.add_zero]; omega) | (walk_at "rowo"))

local macro_rules | `(tactic| walk_at "wpAt") => `(tactic| ((try dsimp only); with_unfolding_all (first | (ks_step "execs cons"; refine ks_wpAt_execs_cons ?_) | (ks_step "exec Expr"; refine ks_wpAt_Expr_any ?_) | (ks_step "exec Return"; refine ks_wpAt_Return_some ?_) | (ks_step "eval Call"; refine ks_wpAt_MethodCall ?_))))
local macro_rules | `(tactic| walk_at "wpAt") => `(tactic| ((try dsimp only); ks_step "attributeBase Call"; k_here; k_dflt (refine ks_node (by k_asm) (by k_asm) (by k_asm) (by k_asm) (by k_is) (by rfl) (by rfl) (by k_inst) (by k_is) (by rfl) (by assumption) (by k_is) (by k_is) (by k_is) (by k_is) (by decide) (by rfl) (by rfl) (by rfl) (by rfl) (by assumption) (by first | boot_by_name | rfl | kernel_rfl) ?_; intro so' h' F' N' l1)))
section
-- part M6
open PySem PySem.W PyProof.Rows PySem.Spec in
theorem turn_M6 {p : Program} {w : World} {A : Around} {en : Env} {Q : Flow → Shared → Prop} {E : Value → Shared → Prop} {s : Shared} (h : Q .next s) : wpAny (model p w) A (execs [] en) Q E s := by
  w_top off
  walk1
  exact h
open PySem PySem.W PyProof.Rows PySem.Calls PyProof.V PySem.Spec

local macro_rules | `(tactic| walk_at "enterD") => `(tactic| (refine' code_def ?k1 ?k2 ?k3 ?k4 ?k5 ?kA ?kF ?kK ?k6 ?k7 ?k8 ?k9 ?kB ?_ ?c2 ?c3 ?c4 ?c5; (case kA => exact rfl); (case kF => exact rfl); (case kK => first | assumption | exact rfl); (case k1 => k_asm); (case k2 => k_asm); (case k3 => k_asm); (case k4 => k_asm); (case k5 => k_asm); (case k6 => k_is); (case k7 => k_is); (case k8 => ktr_room); (case k9 => first | exact binds_K (by k_in) rfl (by k_is) rfl rfl rfl | exact BindsTo.of_eq rfl); (case c5 => decide); (case kB => exact locs rfl); (case c2 => exact rfl); (case c3 => exact rfl); (case c4 => exact rfl); k_whole; intro g' L' h' FG' F' N' B' X' T'; (try dsimp only); (try k_lift B'); (try k_fold)))
structure Tp where
  a : Addr
  n : Int
  amt : Int
  t1 : Tok
  t2 : Tok
  k : Nat
abbrev tup2 (x y : Value) (k : Nat) : Obj := { cls := .type "tuple", data := .seq #[x, y] k }
abbrev Tp.obj (t : Tp) : Obj := tup2 (.int t.n t.t1) (.int t.amt t.t2) t.k
abbrev Tp.row (t : Tp) : Addr × Obj := (t.a, t.obj)
abbrev Tp.nm (t : Tp) : Int × Int := (t.n, t.amt)
abbrev lsT (P : List Tp) (n : Nat) : Obj := listO (P.map fun t => Value.ref t.a).toArray n
abbrev lsI (S : List (Int × Tok)) (n : Nat) : Obj := listO (S.map fun x => Value.int x.1 x.2).toArray n
section
variable {prog : Program} {w : World} {A : Around} {E : Value → Shared → Prop} {env : Env} {test : PySem.Expr} {body orelse : List Stmt} {Q : Flow → Shared → Prop}
theorem whl_ind2 {I : Nat → Shared → Prop} (J : Shared → Prop) (hE : PassesOwn (model prog w) A env E)
    (done : ∀ s, J s → wpAny (model prog w) A (execs orelse env) Q E s)
    (turn : ∀ n s, I n s → wpAny (model prog w) A (isTrue test env (eval test env)) (fun b s₂ => WhlIf b (wpAny (model prog w) A (execs body env) (fun f s₃ => match f with
      | .ret v => Q (.ret v) s₃
      | .brk => Q .next s₃
      | _ => ∃ n', n' < n ∧ I n' s₃) E s₂) (J s₂)) E s) {n : Nat} {s : Shared} (h : I n s) : WhlRest prog w A E env test body orelse Q 0 s :=
  whl_ind hE (fun n s hI => wpAny_mono (turn n s hI) (fun b s₂ h₂ => by
    cases b with
    | true => exact h₂
    | false => exact done s₂ h₂) fun _ _ e => e) n s h
end
section
variable {prog : Program} {w : World} {A : Around} {E : Value → Shared → Prop} {s : Shared} {h₀ : Heap} {L T : Addr} {m : Str → Option Value} {news : List (Addr × Obj)} {x y : Value} {k : Nat} {Q : Value → Shared → Prop}
theorem tup_0 {value slice : PySem.Expr} {t : Tok} (N : News h₀ L s.heap news) (hm : (T, tup2 x y k) ∈ news) (h : Q x s) (hs : subscripted slice false (.ref T) (.int 0 t) = operate [.ref T, .int 0 t] (getItem (.ref T) (.int 0 t)) := by with_unfolding_all rfl) (hg : ∀ r, letTemporaryGo value (.ref T) r = pure () := by intro _; with_unfolding_all rfl) :
    wpAny (model prog w) A (subscriptTail value slice (.ref T) (.int 0 t)) Q E s :=
  PyProof.Rows.item_tuple (j := 0) ⟨_, (N _ hm).1, rfl, _, rfl⟩ (by decide) (by decide) rfl rfl h hs hg
theorem tup_1 {value slice : PySem.Expr} {t : Tok} (N : News h₀ L s.heap news) (hm : (T, tup2 x y k) ∈ news) (h : Q y s) (hs : subscripted slice false (.ref T) (.int 1 t) = operate [.ref T, .int 1 t] (getItem (.ref T) (.int 1 t)) := by with_unfolding_all rfl) (hg : ∀ r, letTemporaryGo value (.ref T) r = pure () := by intro _; with_unfolding_all rfl) :
    wpAny (model prog w) A (subscriptTail value slice (.ref T) (.int 1 t)) Q E s :=
  PyProof.Rows.item_tuple (j := 1) ⟨_, (N _ hm).1, rfl, _, rfl⟩ (by decide) (by decide) rfl rfl h hs hg
end
theorem fr_six {h₀ h : Heap} {L : Addr} {m : Str → Option Value} {a1 a2 a3 a4 a5 a6 : Str} {v1 v2 v3 v4 v5 v6 : Value} (F : Fr h₀ L h m) (h1 : m a1 = some v1) (h2 : m a2 = some v2) (h3 : m a3 = some v3) (h4 : m a4 = some v4) (h5 : m a5 = some v5) (h6 : m a6 = some v6) :
    ∃ m0 : Str → Option Value, Fr h₀ L h (fun z => if z = a1 then some v1 else if z = a2 then some v2 else if z = a3 then some v3 else if z = a4 then some v4 else if z = a5 then some v5 else if z = a6 then some v6 else m0 z) := by
  refine ⟨m, ?_⟩
  have e : (fun z => if z = a1 then some v1 else if z = a2 then some v2 else if z = a3 then some v3 else if z = a4 then some v4 else if z = a5 then some v5 else if z = a6 then some v6 else m z) = m := by
    funext z
    by_cases e1 : z = a1
    · rw [if_pos e1, e1, h1]
    rw [if_neg e1]
    by_cases e2 : z = a2
    · rw [if_pos e2, e2, h2]
    rw [if_neg e2]
    by_cases e3 : z = a3
    · rw [if_pos e3, e3, h3]
    rw [if_neg e3]
    by_cases e4 : z = a4
    · rw [if_pos e4, e4, h4]
    rw [if_neg e4]
    by_cases e5 : z = a5
    · rw [if_pos e5, e5, h5]
    rw [if_neg e5]
    by_cases e6 : z = a6
    · rw [if_pos e6, e6, h6]
    rw [if_neg e6]
  rw [e]
  exact F
theorem lenS_K {prog : Program} {w : World} {A : Around} {E : Value → Shared → Prop} {s : Shared} {h₀ : Heap} {L D : Addr} {news : List (Addr × Obj)} {xs : List Value} {n : Nat} {Q : Value → Shared → Prop} (N : News h₀ L s.heap news) (hm : (D, listO xs.toArray n) ∈ news) (hz : xs.length < 1000) (h : Q (.int (xs.length : Int) (s.toks + 1)) { s with toks := s.toks + 1 + 1 }) : wpAny (model prog w) A (call (.builtin "len") [.ref D]) Q E s :=
  kun_lenL (N.isList hm) (by simp) (by omega) h
def SvAt (g : Heap) (L : Addr) (tl : List (Addr × Obj)) (sv pq gq : Addr) (room : Int) (a2 : Tok) (s0 : Shared) (b : Value) (l : Int) (S : List (Int × Tok)) (P G : List Tp) (s' : Shared) : Prop :=
  ∃ (t : Tok) (m0 : Str → Option Value) (ns np ng : Nat) (h : Heap) (tk : Nat), s' = { s0 with heap := h, toks := tk } ∧
    Fr g L h (fun z => if z = Str.ofString "level" then some (.int l t) else if z = Str.ofString "before" then some b else if z = Str.ofString "served" then some (.ref sv) else if z = Str.ofString "room" then some (.int room a2) else if z = Str.ofString "puts" then some (.ref pq) else if z = Str.ofString "gets" then some (.ref gq) else m0 z) ∧
    News g L h ((sv, lsI S ns) :: (pq, lsT P np) :: (gq, lsT G ng) :: tl)
def SvR (room level : Int) (P0 G0 : List Tp) (l : Int) (S : List (Int × Tok)) (P G : List Tp) : Prop :=
  ∃ dp dg, P0 = dp ++ P ∧ G0 = dg ++ G ∧ (S.map (·.1)).Perm ((dp ++ dg).map (·.n)) ∧ Reach room level (P0.map Tp.nm) (G0.map Tp.nm) l (P.map Tp.nm) (G.map Tp.nm)
inductive Bf (room l : Int) (S : List (Int × Tok)) (P G : List Tp) : Value → Nat → Prop
  | none : Bf room l S P G .none 1
  | lt {i : Int} {t : Tok} : i < S.length → Bf room l S P G (.int i t) 1
  | eq {i : Int} {t : Tok} : i = S.length → Stab room l (P.map Tp.nm) (G.map Tp.nm) → Bf room l S P G (.int i t) 0
theorem SvR.len {room level l : Int} {P0 G0 P G : List Tp} {S : List (Int × Tok)} (h : SvR room level P0 G0 l S P G) : P.length + G.length + S.length = P0.length + G0.length := by
  obtain ⟨dp, dg, rfl, rfl, p, _⟩ := h
  have := p.length_eq
  simp only [List.length_map, List.length_append] at this ⊢
  omega
theorem SvR.put {room level l : Int} {P0 G0 P G : List Tp} {x : Tp} {S : List (Int × Tok)} (h : SvR room level P0 G0 l S (x :: P) G) (hf : x.amt ≤ room - l) : SvR room level P0 G0 (l + x.amt) (S ++ [(x.n, x.t1)]) P G := by
  obtain ⟨dp, dg, rfl, rfl, p, r⟩ := h
  refine ⟨dp ++ [x], dg, by simp, rfl, ?_, r.trans (.put hf .refl)⟩
  simp only [List.map_append, List.map_cons, List.map_nil, List.append_assoc] at p ⊢
  refine (p.append_right _).trans ?_
  rw [List.append_assoc]
  exact .append_left _ List.perm_append_comm
theorem SvR.get {room level l : Int} {P0 G0 P G : List Tp} {x : Tp} {S : List (Int × Tok)} (h : SvR room level P0 G0 l S P (x :: G)) (hf : x.amt ≤ l) : SvR room level P0 G0 (l - x.amt) (S ++ [(x.n, x.t1)]) P G := by
  obtain ⟨dp, dg, rfl, rfl, p, r⟩ := h
  refine ⟨dp, dg ++ [x], rfl, by simp, ?_, r.trans (.get hf .refl)⟩
  simp only [List.map_append, List.map_cons, List.map_nil, ← List.append_assoc] at p ⊢
  exact p.append_right _
theorem SvR.mem {room level l : Int} {P0 G0 P G : List Tp} {S : List (Int × Tok)} (h : SvR room level P0 G0 l S P G) {x : Tp} (hx : x ∈ P ∨ x ∈ G) : x ∈ P0 ++ G0 := by
  obtain ⟨dp, dg, rfl, rfl, _, _⟩ := h
  rcases hx with hx | hx
  · exact List.mem_append_left _ (List.mem_append_right _ hx)
  · exact List.mem_append_right _ (List.mem_append_right _ hx)
def NoP (room l : Int) (P : List Tp) : Prop := ∀ x r, P = x :: r → ¬ x.amt ≤ room - l
def NoG (l : Int) (G : List Tp) : Prop := ∀ x r, G = x :: r → ¬ x.amt ≤ l
theorem stab_of {room l : Int} {P G : List Tp} (h1 : NoP room l P) (h2 : NoG l G) : Stab room l (P.map Tp.nm) (G.map Tp.nm) := by
  refine ⟨fun n a r e => ?_, fun n a r e => ?_⟩
  · cases P with
    | nil => exact nomatch e
    | cons x P =>
      injection e with e _
      injection e with _ e
      exact e ▸ h1 x P rfl
  · cases G with
    | nil => exact nomatch e
    | cons x P =>
      injection e with e _
      injection e with _ e
      exact e ▸ h2 x P rfl

def NeB (prog : Program) (w : World) (b : Value) (n : Int) : Prop := ∀ (A : Around) (Q E : Value → Shared → Prop) (s : Shared) (t : Tok), Q (.bool true) s → wpAny (model prog w) A (compareOp .NotEq b (.int n t)) Q E s
theorem NeB.go {prog : Program} {w : World} {b : Value} {n : Int} {A : Around} {Q E : Value → Shared → Prop} {s : Shared} {t : Tok} (h : NeB prog w b n) (hQ : Q (.bool true) s) : wpAny (model prog w) A (compareOp .NotEq b (.int n t)) Q E s := h _ _ _ _ _ hQ
theorem bf_two {room l : Int} {S : List (Int × Tok)} {P G : List Tp} {b : Value} {c : Nat} (prog : Program) (w : World) (h : Bf room l S P G b c) :
    (c = 0 ∧ ∃ t, b = .int (S.length : Int) t ∧ Stab room l (P.map Tp.nm) (G.map Tp.nm)) ∨
    (c = 1 ∧ NeB prog w b ((S.map fun x => Value.int x.1 x.2).length : Int)) := by
  cases h with
  | none => exact .inr ⟨rfl, fun A Q E s t h => EqNone.ne_none_int h⟩
  | @lt i t hi =>
    refine .inr ⟨rfl, fun A Q E s t h => ne_int ?_⟩
    rw [List.length_map, show (i != (S.length : Int)) = true by rw [bne_iff_ne]; omega]
    exact h
  | @eq i t hi hs => exact .inl ⟨rfl, t, by rw [hi], hs⟩
theorem truth_nil {prog : Program} {w : World} {A : Around} {E : Value → Shared → Prop} {s : Shared} {h₀ : Heap} {L D : Addr} {news : List (Addr × Obj)} {n : Nat} {Q : Bool → Shared → Prop} (N : News h₀ L s.heap news) (hm : (D, listO ([] : List Value).toArray n) ∈ news) (h : Q false { s with toks := s.toks + 1 + 1 }) : wpAny (model prog w) A (truthy (.ref D)) Q E s :=
  kgr_truthy (vs := []) N hm rfl rfl (by decide) h
theorem truth_cons {prog : Program} {w : World} {A : Around} {E : Value → Shared → Prop} {s : Shared} {h₀ : Heap} {L D : Addr} {news : List (Addr × Obj)} {x : Value} {xs : List Value} {n : Nat} {Q : Bool → Shared → Prop} (N : News h₀ L s.heap news) (hm : (D, listO (x :: xs).toArray n) ∈ news) (hz : xs.length < 1000) (h : Q true { s with toks := s.toks + 1 + 1 }) : wpAny (model prog w) A (truthy (.ref D)) Q E s :=
  kgr_truthy (vs := x :: xs) N hm rfl rfl (by simp only [List.length_cons]; omega) h
theorem row_ne {tl : List (Addr × Obj)} {a b : Addr} {o : Obj} (h : a ∉ tl.map (·.1)) (hx : (b, o) ∈ tl) : b ≠ a := fun e => h (e ▸ List.mem_map_of_mem hx)
theorem row_lt {l : List (Addr × Obj)} {a b : Addr} {o : Obj} (h : ∀ p ∈ l, @LT.lt Nat _ p.1 a) (hx : (b, o) ∈ l) : b ≠ a := Nat.ne_of_lt (h _ hx)
theorem lsI_snoc {S : List (Int × Tok)} {a : Int} {t : Tok} {n : Nat} : lsI (S ++ [(a, t)]) n = { cls := .type "list", data := .seq ((S.map fun x => Value.int x.1 x.2).toArray.push (.int a t)) n } := by simp
local macro_rules | `(tactic| walk_at "subscriptTail") => `(tactic| (k_here; first
  | ((with_reducible show wpAny _ _ (subscriptTail _ _ (Value.ref _) (Value.int 0 _)) _ _ _); k_dflt (refine' tup_0 ?N ?m ?_; (case N => k_asm); (case m => k_mem); k_whole))
  | ((with_reducible show wpAny _ _ (subscriptTail _ _ (Value.ref _) (Value.int 1 _)) _ _ _); k_dflt (refine' tup_1 ?N ?m ?_; (case N => k_asm); (case m => k_mem); k_whole))))
local macro_rules | `(tactic| walk_at "exec While Compare cons nil") => `(tactic| (k_here; refine whl_start 0 (hold_of ?_)))
local macro_rules | `(tactic| walk_at "exec While BoolOp cons nil") => `(tactic| (k_here; refine whl_start 0 (hold_of ?_)))
local macro_rules | `(tactic| walk_at "call builtin:len") => `(tactic| (k_here; (with_reducible show wpAny _ _ (call (Value.builtin "len") [Value.ref _]) _ _ _); k_dflt (refine' lenS_K ?N ?m ?z ?_; (case N => k_asm); (case m => k_mem); (case z => walk_at "lenfact"); k_whole)))
local macro_rules | `(tactic| walk_at "compareOp NotEq") => `(tactic| (k_here; refine NeB.go (by with_reducible assumption) ?_))
local macro_rules | `(tactic| walk_at "truthy ref") => `(tactic| (k_here; (with_reducible show wpAny _ _ (truthy (Value.ref _)) _ _ _); k_dflt (first
  | (refine' truth_nil ?N ?m ?_; (case N => k_asm); (case m => k_mem); k_whole)
  | (refine' truth_cons ?N ?m ?z ?_; (case N => k_asm); (case m => k_mem); (case z => walk_at "lenfact"); k_whole))))
local macro_rules | `(tactic| walk_at "Exists") => `(tactic| refine hold_of ?_)
section
variable {prog : Program} {w : World}
theorem served_c {pq gq : Addr} {level room : Int} {P G : List Tp} {np ng : Nat} {a1 a2 : Tok} {tl : List (Addr × Obj)}
    (nd : ([pq, gq] ++ tl.map (·.1)).Nodup) (hP : ∀ t ∈ P ++ G, t.row ∈ tl) (hz : P.length + G.length < 100) :
    CallOk prog w 10 300 (.ref 973) [.int level a1, .int room a2, .ref pq, .ref gq] ((pq, lsT P np) :: (gq, lsT G ng) :: tl)
      (fun v rows' => ∃ (tp sv : Addr) (S : List (Int × Tok)) (l' : Int) (u : Tok) (P' G' : List Tp) (np' ng' ns k : Nat), v = .ref tp ∧
        SvR room level P G l' S P' G' ∧ Stab room l' (P'.map Tp.nm) (G'.map Tp.nm) ∧
        rows' = (tp, tup2 (.ref sv) (.int l' u) k) :: (sv, lsI S ns) :: (pq, lsT P' np') :: (gq, lsT G' ng') :: tl ∧ (rows'.map (·.1)).Nodup) := by
  intro p loose mean mg mb dp un gd cn cs a ccd cl outer A₀ base h₀ L m s Q E B F X T C hk hdp hun N ret
  refine Mine.go_of ?_
  simp (disch := k_dflt (
  have nd' := nd
  simp only [List.cons_append, List.nil_append] at nd'
  walk_at "nd"
  refine wpAny_call ?_
  k_dflt (walk_at "enterD")
  k_steps
  unfold Hold
  rename News _ _ _ _ => N5
  rename Fr _ _ _ _ => F5
  obtain ⟨m0, F6⟩ := fr_six (a1 := "level") (a2 := "before") (a3 := "served") (a4 := "room") (a5 := "puts") (a6 := "gets") F5 rfl rfl rfl rfl rfl rfl
  rename ∀ p : Addr × Obj, p ∈ (_ : List (Addr × Obj)) → @LT.lt Nat _ p.1 _ => lt9
  rename_i g9 L9 _ FG9 B9 X9 T9 tk9 sv9 _ ltS D9 _ _ _ _
  refine' whl_ind2 (I := fun n s' => ∃ b c l S P' G', SvAt g9 L9 tl sv9 pq gq room a2 s b l S P' G' s' ∧ SvR room level P G l S P' G' ∧ Bf room l S P' G' b c ∧ n = 2 * (P'.length + G'.length) + c)
    (fun s' => ∃ b l S P' G', SvAt g9 L9 tl sv9 pq gq room a2 s b l S P' G' s' ∧ SvR room level P G l S P' G' ∧ Stab room l (P'.map Tp.nm) (G'.map Tp.nm)) ?hE ?done ?turn
    ⟨_, _, _, [], P, G, ⟨_, m0, _, _, _, _, _, rfl, F6, news_rows N5 ?sub⟩, ⟨[], [], rfl, rfl, .refl _, .refl⟩, .none, rfl⟩
  case hE => first | passes_own | with_unfolding_all passes_own
  case sub => walk_at "rows"
  case done =>
    rintro s8 ⟨b8, l8, S8, P8, G8, ⟨t8, m8, ns8, np8, ng8, h8, tk8, rfl, F8, N8⟩, R8, St8⟩
    clear F5 N5 F6 N
    k_steps
    rename News h₀ _ _ _ => N7
    refine' ret _ _ _ _ ⟨_, sv9, S8, l8, t8, P8, G8, _, _, _, _, rfl, R8, St8, rfl, ?nd⟩ (by assumption) N7
    simp only [List.map_cons]
    first | (walk_at "newnd") | fail
  case turn =>
    rintro n8 s8 ⟨b8, c8, l8, S8, P8, G8, ⟨t8, m8, ns8, np8, ng8, h8, tk8, rfl, F8, N8⟩, R8, Bf8, rfl⟩
    clear F5 N5 F6 N
    have hl8 := R8.len
    rcases bf_two prog w Bf8 with ⟨rfl, tb, rfl, St8⟩ | ⟨rfl, hne⟩
    · k_steps
      refine WhlIf.no (by rw [List.length_map]; simp) ?_
      exact ⟨_, l8, S8, P8, G8, ⟨_, _, _, _, _, _, _, rfl, by assumption, by assumption⟩, R8, St8⟩
    · k_steps
      unfold Hold
      rename Fr _ _ _ _ => F7
      obtain ⟨m7, F6⟩ := fr_six (a1 := "level") (a2 := "before") (a3 := "served") (a4 := "room") (a5 := "puts") (a6 := "gets") F7 rfl rfl rfl rfl rfl rfl
      rw [List.length_map] at F6
      refine' whl_ind2 (I := fun n s' => ∃ l S P' t, SvAt g9 L9 tl sv9 pq gq room a2 s (.int (S8.length : Int) t) l S P' G8 s' ∧ SvR room level P G l S P' G8 ∧ S8.length ≤ S.length ∧ n = P'.length)
        (fun s' => ∃ l S P' t, SvAt g9 L9 tl sv9 pq gq room a2 s (.int (S8.length : Int) t) l S P' G8 s' ∧ SvR room level P G l S P' G8 ∧ S8.length ≤ S.length ∧ NoP room l P') ?hE1 ?done1 ?turn1
        ⟨l8, S8, P8, _, ⟨_, m7, _, _, _, _, _, rfl, F6, by assumption⟩, R8, Nat.le_refl _, rfl⟩
      case hE1 => first | passes_own | with_unfolding_all passes_own
      case turn1 =>
        clear F7 F6
        rintro n7 s7 ⟨l7, S7, P7, t7, ⟨u7, m7, ns7, np7, ng7, h7, tk7, rfl, F7, N7⟩, R7, hi7, rfl⟩
        have hl7 := R7.len
        cases P7 with
        | nil =>
          dsimp only [List.map_nil, lsT] at N7
          k_steps
          unfold Hold
          exact ⟨l7, S7, [], _, ⟨_, _, _, _, _, _, _, rfl, by assumption, by assumption⟩, R7, hi7, fun _ _ e => nomatch e⟩
        | cons x P7 =>
          simp only [List.length_cons] at hl7
          have hx := hP x (R7.mem (.inl (.head _)))
          have hx1 : x.a ≠ pq := row_ne (by assumption) hx
          have hx2 : x.a ≠ gq := row_ne (by assumption) hx
          have hx3 : x.a ≠ sv9 := row_lt ltS (.tail _ (.tail _ hx))
          replace N7 := news_rows N7 (l' := x.row :: _) (an_cons (.tail _ (.tail _ (.tail _ hx))) fun _ h => h)
          dsimp only [List.map_cons, lsT] at N7
          k_steps
          · unfold Hold
            rename Fr _ _ _ _ => F5
            rename News _ _ _ _ => N5
            obtain ⟨m5, F4⟩ := fr_six (a1 := "level") (a2 := "before") (a3 := "served") (a4 := "room") (a5 := "puts") (a6 := "gets") F5 rfl rfl rfl rfl rfl rfl
            refine ⟨P7.length, Nat.lt_succ_self _, l7 + x.amt, S7 ++ [(x.n, x.t1)], P7, t7, ⟨_, m5, _, _, _, _, _, rfl, F4, news_rows N5 (an_cons (by rw [lsI_snoc]; k_mem) (an_cons (by k_mem) (an_cons (by k_mem) (by walk_at "subl"))))⟩, R7.put (by omega), by simp; omega, rfl⟩
          · unfold Hold
            rename News _ _ _ _ => N5
            exact ⟨l7, S7, x :: P7, t7, ⟨_, _, _, _, _, _, _, rfl, by assumption, news_rows N5 (fun _ h => .tail _ h)⟩, R7, hi7, fun y r e => by injection e with e _; subst e; omega⟩
      case done1 =>
        clear F7 F6
        rintro s7 ⟨l7, S7, P7, t7, ⟨u7, m7, ns7, np7, ng7, h7, tk7, rfl, F7, N7⟩, R7, hi7, hp7⟩
        have hl7 := R7.len
        k_steps
        unfold Hold
        refine' whl_ind2 (I := fun n s' => ∃ l S G' t, SvAt g9 L9 tl sv9 pq gq room a2 s (.int (S8.length : Int) t) l S P7 G' s' ∧ SvR room level P G l S P7 G' ∧ S7.length ≤ S.length ∧ (S.length = S7.length → l = l7) ∧ n = G'.length)
          (fun s' => ∃ l S G' t, SvAt g9 L9 tl sv9 pq gq room a2 s (.int (S8.length : Int) t) l S P7 G' s' ∧ SvR room level P G l S P7 G' ∧ S7.length ≤ S.length ∧ (S.length = S7.length → l = l7) ∧ NoG l G') ?hE2 ?done2 ?turn2
          ⟨l7, S7, G8, _, ⟨_, m7, _, _, _, _, _, rfl, by assumption, by assumption⟩, R7, Nat.le_refl _, fun _ => rfl, rfl⟩
        case hE2 => first | passes_own | with_unfolding_all passes_own
        case done2 =>
          rintro s6 ⟨l6, S6, G6, t6, ⟨u6, m6, ns6, np6, ng6, h6, tk6, rfl, F6, N6⟩, R6, hi6, hl6, hg6⟩
          k_steps
          unfold Hold
          have hz6 := R6.len
          rcases Nat.lt_or_ge S8.length S6.length with hlt | hge
          · exact ⟨2 * (P7.length + G6.length) + 1, by omega, _, 1, l6, S6, P7, G6, ⟨_, _, _, _, _, _, _, rfl, by assumption, by assumption⟩, R6, .lt (by omega), rfl⟩
          · have := hl6 (by omega)
            subst this
            exact ⟨2 * (P7.length + G6.length) + 0, by omega, _, 0, l6, S6, P7, G6, ⟨_, _, _, _, _, _, _, rfl, by assumption, by assumption⟩, R6, .eq (by omega) (stab_of hp7 hg6), rfl⟩
        case turn2 =>
          rintro n6 s6 ⟨l6, S6, G6, t6, ⟨u6, m6, ns6, np6, ng6, h6, tk6, rfl, F6, N6⟩, R6, hi6, hl6, rfl⟩
          have hz6 := R6.len
          cases G6 with
          | nil =>
            dsimp only [List.map_nil, lsT] at N6
            k_steps
            unfold Hold
            exact ⟨l6, S6, [], _, ⟨_, _, _, _, _, _, _, rfl, by assumption, by assumption⟩, R6, hi6, hl6, fun _ _ e => nomatch e⟩
          | cons x G6 =>
            simp only [List.length_cons] at hz6
            have hx := hP x (R6.mem (.inr (.head _)))
            have hx1 : x.a ≠ pq := row_ne (by assumption) hx
            have hx2 : x.a ≠ gq := row_ne (by assumption) hx
            have hx3 : x.a ≠ sv9 := row_lt ltS (.tail _ (.tail _ hx))
            replace N6 := news_rows N6 (l' := x.row :: _) (an_cons (.tail _ (.tail _ (.tail _ hx))) fun _ h => h)
            dsimp only [List.map_cons, lsT] at N6
            k_steps
            · unfold Hold
              rename Fr _ _ _ _ => F5
              rename News _ _ _ _ => N5
              obtain ⟨m5, F4⟩ := fr_six (a1 := "level") (a2 := "before") (a3 := "served") (a4 := "room") (a5 := "puts") (a6 := "gets") F5 rfl rfl rfl rfl rfl rfl
              refine ⟨G6.length, Nat.lt_succ_self _, l6 - x.amt, S6 ++ [(x.n, x.t1)], G6, t6, ⟨_, m5, _, _, _, _, _, rfl, F4, news_rows N5 (an_cons (by rw [lsI_snoc]; k_mem) (an_cons (by k_mem) (an_cons (by k_mem) (by walk_at "subl"))))⟩, R6.get (by omega), by simp; omega, by simp; omega, rfl⟩
            · unfold Hold
              rename News _ _ _ _ => N5
              exact ⟨l6, S6, x :: G6, t6, ⟨_, _, _, _, _, _, _, rfl, by assumption, news_rows N5 (fun _ h => .tail _ h)⟩, R6, hi6, hl6, fun y r e => by injection e with e _; subst e; omega⟩)) only [↓Mine.go_eq]
end
end

section
-- part M1
open PySem PySem.W PyProof.Rows PySem.Spec in
theorem turn_M1 {p : Program} {w : World} {A : Around} {en : Env} {Q : Flow → Shared → Prop} {E : Value → Shared → Prop} {s : Shared} (h : Q .next s) : wpAny (model p w) A (execs [] en) Q E s := by
  w_top off
  walk1
  exact h
open PySem PySem.W PyProof.Rows PySem.Calls PyProof.V PySem.Spec

local macro_rules | `(tactic| walk_at "enterD") => `(tactic| (refine' code_def ?k1 ?k2 ?k3 ?k4 ?k5 ?kA ?kF ?kK ?k6 ?k7 ?k8 ?k9 ?kB ?_ ?c2 ?c3 ?c4 ?c5; (case kA => exact rfl); (case kF => exact rfl); (case kK => first | assumption | exact rfl); (case k1 => k_asm); (case k2 => k_asm); (case k3 => k_asm); (case k4 => k_asm); (case k5 => k_asm); (case k6 => k_is); (case k7 => k_is); (case k8 => ktr_room); (case k9 => first | exact binds_K (by k_in) rfl (by k_is) rfl rfl rfl | exact BindsTo.of_eq rfl); (case c5 => decide); (case kB => exact locs rfl); (case c2 => exact rfl); (case c3 => exact rfl); (case c4 => exact rfl); k_whole; intro g' L' h' FG' F' N' B' X' T'; (try dsimp only); (try k_lift B'); (try k_fold)))
section
variable {prog : Program} {w : World}
theorem tank_c {e : Addr} {room level : Int} {a1 a2 : Tok} {tl : List (Addr × Obj)} (G : PgOk prog) (hr : 0 < room) (h0 : 0 ≤ level) (h1 : level ≤ room) (nd : (tl.map (·.1)).Nodup) :
    CallOk prog w 30 300 (.ref 929) [.ref e, .int room a1, .int level a2] tl
      (fun v rows' => ∃ (tn td pq gq : Addr) (r1 r2 r3 r4 r5 v1 v2 : Tok) (np ng : Nat), v = .ref tn ∧ rows' = (tn, instObj 929 td) :: (td, tankO w e pq gq room level r1 r2 r3 r4 r5 v1 v2) :: (pq, listO #[] np) :: (gq, listO #[] ng) :: tl ∧ (rows'.map (·.1)).Nodup) := by
  refine Mine.go_of ?_
  simp (disch := k_dflt (
  obtain ⟨hP1, hP2⟩ := G
  intro p loose mean mg mb dp un gd cn cs a ccd cl outer A₀ base h₀ L m s Q E B F X T C0 hk hdp hun N ret
  refine' call_cls ?k1 ?k2 ?k3 ?k4 ?k5 ?k6 ?_
  case k1 => k_asm
  case k2 => k_asm
  case k3 => k_asm
  case k4 => k_is
  case k5 => k_is
  case k6 => k_is
  intro x' d' h' F' N' l1 l2
  (try k_lt l1)
  (try k_lt2 l2)
  refine' ks_code_super ?k1 ?k2 ?k3 ?k4 ?k5 ?kA ?kF ?kK ?k6 ?k7 ?k8 ?k9 ?kB ?_ ?c1 ?c2 ?c3 ?c4
  (case kA => exact rfl)
  (case kF => exact rfl)
  (case kK => assumption)
  (case k1 => k_asm)
  (case k2 => k_asm)
  (case k3 => k_asm)
  (case k4 => k_asm)
  (case k5 => k_asm)
  (case k6 => k_is)
  (case k7 => k_is)
  (case k8 => k_room)
  (case k9 => exact binds_K (by k_in) rfl (by k_is) rfl rfl rfl)
  (case kB => exact locs rfl)
  (case c1 => decide)
  (case c2 => exact rfl)
  (case c3 => exact rfl)
  (case c4 => exact rfl)
  intro g' L' h' FG' F' N' B' X' T' l1; (try k_lt l1); (try dsimp only); (try k_lift B')
  k_steps
  rename News h₀ _ _ _ => N9
  refine' ret _ _ _ _ ⟨x', d', _, _, _, _, _, _, _, _, _, _, _, rfl, rfl, ?nd⟩ ?kF (news_rows N9 ?kN)
  case kF => with_reducible assumption
  case kN => exact an_cons (by k_mem) (an_cons (by k_mem) (an_cons (by k_mem) (an_cons (by k_mem) (by walk_at "subl"))))
  case nd =>
    simp only [List.map_cons]
    walk_at "newnd")) only [↓Mine.go_eq]
end
section
variable {prog : Program} {w : World}
theorem qobj_nil : qobj #[] 0 = W.listOf #[] 0 := by simp [refs, W.listOf]
theorem env_c {tl : List (Addr × Obj)} (nd : (tl.map (·.1)).Nodup) :
    CallOk prog w 40 400 (.ref 662) [] tl
      (fun v rows' => ∃ (e ed q c cd : Addr) (t1 t2 t3 t4 u1 u4 u5 : Tok) (n : Nat), v = .ref e ∧ rows' = (e, instObj 662 ed) :: (ed, envO w t1 t2 t3 t4 u1 0 q c .none) :: (q, qobj #[] n) :: (c, cntO cd true 0 u4 u5) :: (cd, dictOf [] 0) :: tl ∧ (rows'.map (·.1)).Nodup) := by
  intro p loose mean mg mb dp un gd cn cs a ccd cl outer A₀ base h₀ L m s Q E B F X T C0 hk hdp hun N ret
  refine Mine.go_of ?_
  simp (disch := k_dflt (
  refine' call_cls ?k1 ?k2 ?k3 ?k4 ?k5 ?k6 ?_
  case k1 => k_asm
  case k2 => k_asm
  case k3 => k_asm
  case k4 => k_is
  case k5 => k_is
  case k6 => k_is
  intro x' d' h' F' N' l1 l2
  (try k_lt l1)
  (try k_lt2 l2)
  walk_at "enterD"
  k_steps
  rename News h₀ _ _ _ => N9
  refine' ret _ _ _ _ ⟨x', d', _, _, _, _, _, _, _, _, _, _, 0, rfl, rfl, ?nd⟩ ?kF (news_rows N9 ?kN)
  case kF => with_reducible assumption
  case kN => exact an_cons (by k_mem) (an_cons (by k_mem) (an_cons (by rw [qobj_nil]; k_mem) (an_cons (by k_mem) (an_cons (by k_mem) (by walk_at "subl")))))
  case nd =>
    simp only [List.map_cons]
    walk_at "newnd")) only [↓Mine.go_eq]
end
end

section
-- part M3
open PySem PySem.W PyProof.Rows PySem.Spec in
theorem turn_M3 {p : Program} {w : World} {A : Around} {en : Env} {Q : Flow → Shared → Prop} {E : Value → Shared → Prop} {s : Shared} (h : Q .next s) : wpAny (model p w) A (execs [] en) Q E s := by
  w_top off
  walk1
  exact h
open PySem PySem.W PyProof.Rows PySem.Calls PyProof.V PySem.Spec

local macro_rules | `(tactic| walk_at "enterD") => `(tactic| (refine' code_def ?k1 ?k2 ?k3 ?k4 ?k5 ?kA ?kF ?kK ?k6 ?k7 ?k8 ?k9 ?kB ?_ ?c2 ?c3 ?c4 ?c5; (case kA => exact rfl); (case kF => exact rfl); (case kK => first | assumption | exact rfl); (case k1 => k_asm); (case k2 => k_asm); (case k3 => k_asm); (case k4 => k_asm); (case k5 => k_asm); (case k6 => k_is); (case k7 => k_is); (case k8 => ktr_room); (case k9 => first | exact binds_K (by k_in) rfl (by k_is) rfl rfl rfl | exact BindsTo.of_eq rfl); (case c5 => decide); (case kB => exact locs rfl); (case c2 => exact rfl); (case c3 => exact rfl); (case c4 => exact rfl); k_whole; intro g' L' h' FG' F' N' B' X' T'; (try dsimp only); (try k_lift B'); (try k_fold)))
section
variable {prog : Program} {w : World}
theorem proc_c {e ed q c cd st sd f : Addr} {now k : Int} {t1 t2 t3 t4 u1 u4 u5 g1 : Tok} {act : Value} {ys : Array QE} {n : Nat} {fb : Bool} {tl : List (Addr × Obj)}
    (nd : ([e, ed, q, c, cd, st, sd] ++ tl.map (·.1)).Nodup)
    (TY : TupsIn tl ys) (hz : ys.size < 900) (D : ∀ x ∈ ys.toList, x.e < k) (D1 : Eids ys) (H : IsHp QE.lt ys) :
    CallOk prog w 18 900 (.ref 600) [.ref e, .ref st] ((e, instObj 662 ed) :: (ed, envO w t1 t2 t3 t4 u1 now q c act) :: (q, qobj ys n) :: (c, cntO cd fb k u4 u5) :: (cd, dictOf [] 0) :: (st, instObj 962 sd) :: (sd, stpO w g1 f) :: tl)
      (fun v rows' => ∃ (ti ie id lb pr pd l2 : Addr) (zs : Array QE) (x1 x2 x3 x4 b1 b2 b3 b4 d1 d2 d3 d4 : Tok) (n' n1 n2 : Nat), v = .ref pr ∧
        zs.toList.Perm (ys.push ⟨ti, now + 0, 0, k, x1, x2, x3, .ref ie⟩).toList ∧ IsHp QE.lt zs ∧
        rows' = (ti, tupo (now + 0) 0 k x1 x2 x3 (.ref ie)) :: (ie, instObj 229 id) :: (id, iniO w b1 b2 b3 b4 e lb) :: (lb, listO #[.ref pr] n1) :: (pr, instObj 301 pd) :: (pd, prcO w d1 d2 d3 d4 e l2 st ie) :: (l2, listO #[] n2) ::
          (e, instObj 662 ed) :: (ed, envO w t1 t2 t3 t4 u1 now q c act) :: (q, qobj zs n') :: (c, cntO cd fb (k + 1) x4 u5) :: (cd, dictOf [] 0) :: (st, instObj 962 sd) :: (sd, stpO w g1 f) :: tl ∧ (rows'.map (·.1)).Nodup) := by
  intro p loose mean mg mb dp un gd cn cs a ccd cl outer A₀ base h₀ L m s Q E B F X T C hk hdp hun N ret
  refine Mine.go_of ?_
  simp (disch := k_dflt (
  have ndS := nd_five (r := [st, sd] ++ tl.map (·.1)) (by simpa using nd)
  have nd' := nd
  simp only [List.cons_append, List.nil_append] at nd'
  walk_at "nd"
  refine wpAny_call ?_
  k_dflt (walk_at "enterD")
  k_steps
  rename News h₀ _ _ _ => N9
  refine' ret _ _ _ _ ⟨_, _, _, _, _, _, _, _, _, _, _, _, _, _, _, _, _, _, _, _, _, _, _, rfl, ?p1, ?p2, rfl, ?nd⟩ ?kF (news_rows N9 ?kN)
  case p1 => with_reducible assumption
  case p2 => with_reducible assumption
  case kF => with_reducible assumption
  case kN => exact an_cons (by k_mem) (an_cons (by k_mem) (an_cons (by k_mem) (an_cons (by k_mem) (an_cons (by k_mem) (an_cons (by k_mem) (an_cons (by k_mem) (by walk_at "rows")))))))
  case nd =>
    simp only [List.map_cons]
    first | (walk_at "newnd") | fail)) only [↓Mine.go_eq]
end
end

section
-- part M4
open PySem PySem.W PyProof.Rows PySem.Spec in
theorem turn_M4 {p : Program} {w : World} {A : Around} {en : Env} {Q : Flow → Shared → Prop} {E : Value → Shared → Prop} {s : Shared} (h : Q .next s) : wpAny (model p w) A (execs [] en) Q E s := by
  w_top off
  walk1
  exact h
open PySem PySem.W PyProof.Rows PySem.Calls PyProof.V PySem.Spec

local macro_rules | `(tactic| walk_at "call ref") => `(tactic| (k_here; (with_reducible show wpAny _ _ (call (Value.ref 600) _) _ _ _); refine hold_of ?_))
theorem sub_drop {α : Type} {a : α} {t l : List α} (h : ∀ p ∈ t, p ∈ l) : ∀ p ∈ t, p ∈ a :: l := fun p hp => .tail _ (h p hp)
theorem sub_keep {α : Type} {a : α} {t l : List α} (h : ∀ p ∈ t, p ∈ l) : ∀ p ∈ a :: t, p ∈ a :: l := fun p hp => by
  rcases List.mem_cons.mp hp with rfl | hp
  · exact .head _
  · exact .tail _ (h p hp)
section
variable {prog : Program} {w : World}
theorem law_one1 {e ed q c cd tn ask tol : Addr} {now k i comes amt : Int} {puts : Bool} {t1 t2 t3 t4 u1 u4 u5 a1 a2 a3 : Tok} {act : Value} {ys : Array QE} {n : Nat} {fb : Bool} {tl : List (Addr × Obj)}
    (nd : ([e, ed, q, c, cd, 975] ++ tl.map (·.1)).Nodup)
    (TY : TupsIn tl ys) (hz : ys.size < 900) (D : ∀ x ∈ ys.toList, x.e < k) (D1 : Eids ys) (H : IsHp QE.lt ys) :
    CallOk prog w 30 1100 (.ref 980) [.ref e, .ref tn, .int i a1, .int comes a2, .int amt a3, .bool puts, .ref ask, .ref tol] ((e, instObj 662 ed) :: (ed, envO w t1 t2 t3 t4 u1 now q c act) :: (q, qobj ys n) :: (c, cntO cd fb k u4 u5) :: (cd, dictOf [] 0) :: (975, tabObj #[]) :: tl)
      (fun v rows' => v = .none ∧ ∃ (ti ie id lb pr pd l2 st sd f sl k1 k2 k3 k4 k5 k6 k7 k8 k9 c' : Addr) (zs : Array QE) (x1 x2 x3 x4 b1 b2 b3 b4 d1 d2 d3 d4 g1 qt nu cu au : Tok) (n' n1 n2 n3 : Nat) (oc o1 o2 o3 o4 o5 o6 o7 o8 o9 : Obj) (vs : Array Value) (dc nm ct : Value),
        zs.toList.Perm (ys.push ⟨ti, now + 0, 0, k, x1, x2, x3, .ref ie⟩).toList ∧ IsHp QE.lt zs ∧ oc.data = .fields vs ∧ vs[1]? = some (.str "_law_one.<locals>.deed" qt) ∧ o1.data = .cell (some (.ref tol)) ∧ o2.data = .cell (some (.ref tn)) ∧ o3.data = .cell (some (.ref sl)) ∧ o4.data = .cell (some (.bool puts)) ∧
        o5.data = .cell (some (.int i nu)) ∧ o6.data = .cell (some (.ref e)) ∧ o7.data = .cell (some (.int comes cu)) ∧ o8.data = .cell (some (.ref ask)) ∧ o9.data = .cell (some (.int amt au)) ∧
        rows' = (ti, tupo (now + 0) 0 k x1 x2 x3 (.ref ie)) :: (ie, instObj 229 id) :: (id, iniO w b1 b2 b3 b4 e lb) :: (lb, listO #[.ref pr] n1) :: (pr, instObj 301 pd) :: (pd, prcO w d1 d2 d3 d4 e l2 st ie) :: (l2, listO #[] n2) :: (st, instObj 962 sd) :: (sd, stpO w g1 f) ::
          (f, deedO w.params k1 k2 k3 k4 k5 k6 k7 k8 k9 dc nm c' ct) :: (k1, o1) :: (k2, o2) :: (k3, o3) :: (k4, o4) :: (k5, o5) :: (k6, o6) :: (k7, o7) :: (k8, o8) :: (k9, o9) :: (sl, listO #[] n3) :: (c', oc) ::
          (e, instObj 662 ed) :: (ed, envO w t1 t2 t3 t4 u1 now q c act) :: (q, qobj zs n') :: (c, cntO cd fb (k + 1) x4 u5) :: (cd, dictOf [] 0) :: (975, tabObj #[rawInt 575, rawInt 4, .ref c']) :: tl ∧ (rows'.map (·.1)).Nodup) := by
  intro p loose mean mg mb dp un gd cn cs a ccd cl outer A₀ base h₀ L m s Q E B F X T C hk hdp hun N ret
  refine Mine.go_of ?_
  simp (disch := k_dflt (
  have ndS := nd_five nd
  have nd' := nd
  simp only [List.cons_append, List.nil_append] at nd'
  walk_at "nd"
  refine wpAny_call ?_
  k_dflt (walk_at "enterC")
  k_steps
  unfold Hold
  rename News _ _ _ _ => N9
  refine' proc_c ?nd1 ?TY1 hz D D1 H ?B1 ?F1 ?X1 ?T1 ?C1 ?hk1 ?dp1 ?un1 (news_rows N9 ?sub1) ?ret1
  case sub1 => exact an_cons (by k_mem) (an_cons (by k_mem) (an_cons (by k_mem) (an_cons (by k_mem) (an_cons (by k_mem) (an_cons (by k_mem) (an_cons (by k_mem) (sub_drop (sub_drop (sub_keep (sub_keep (sub_keep (sub_keep (sub_keep (sub_keep (sub_keep (sub_keep (sub_keep (sub_keep (sub_keep (sub_keep (sub_drop (sub_drop (sub_drop (sub_drop (sub_drop (sub_keep (fun _ h => h))))))) ))))))))))))))))))))
  case nd1 =>
    simp only [List.map_cons, List.cons_append, List.nil_append]
    first | (walk_at "newnd") | fail
  case TY1 => exact tups_sub TY (by walk_at "subl")
  case B1 => k_asm
  case F1 => k_asm
  case X1 => k_asm
  case T1 => k_asm
  case C1 => k_asm
  case hk1 => exact rfl
  case dp1 => ktr_room
  case un1 => ktr_units
  intro v9 rows9 h9 tk9 hR9 F9 N8
  obtain ⟨ti, ie, id, lb, pr, pd, l2, zs, x1, x2, x3, x4, b1, b2, b3, b4, d1, d2, d3, d4, n', n1, n2, rfl, pm, hp, rfl, ndr⟩ := hR9
  k_steps
  rename News h₀ _ _ _ => N7
  refine' ret _ _ _ _ ⟨rfl, _, _, _, _, _, _, _, _, _, _, _, _, _, _, _, _, _, _, _, _, _, _, _, _, _, _, _, _, _, _, _, _, _, _, _, _, _, _, _, _, _, _, _, _, _, _, _, _, _, _, _, _, _, _, _, _, _, ?p1, ?p2, ?c1, ?c2, ?f1, ?f2, ?f3, ?f4, ?f5, ?f6, ?f7, ?f8, ?f9, rfl, ?nd⟩ ?kF (news_rows N7 ?kN)
  case p1 => with_reducible assumption
  case p2 => with_reducible assumption
  case kF => with_reducible assumption
  case' kN => refine an_cons (by k_mem) (an_cons (by k_mem) (an_cons (by k_mem) (an_cons (by k_mem) (an_cons (by k_mem) (an_cons (by k_mem) (an_cons (by k_mem) (an_cons (by k_mem) (an_cons (by k_mem) (an_cons (by k_mem) (an_cons (by k_mem) (an_cons (by k_mem) (an_cons (by k_mem) (an_cons (by k_mem) (an_cons (by k_mem) (an_cons (by k_mem) (an_cons (by k_mem) (an_cons (by k_mem) (an_cons (by k_mem) (?_)))))))))))))))))))
  case f1 => assumption
  case f2 => assumption
  case f3 => assumption
  case f4 => assumption
  case f5 => assumption
  case f6 => assumption
  case f7 => assumption
  case f8 => assumption
  case f9 => assumption
  case' kN => refine an_cons (by k_mem) (an_cons (by k_mem) ?_)
  case c1 => assumption
  case c2 => assumption
  case kN => walk_at "rows"
  case nd =>
    simp only [List.map_cons] at ndr ⊢
    exact nd_le ndr fun _ => by (simp only [List.map_cons, cnt_cons]; omega))) only [↓Mine.go_eq]
end
end

section
-- part M5
open PySem PySem.W PyProof.Rows PySem.Spec in
theorem turn_M5 {p : Program} {w : World} {A : Around} {en : Env} {Q : Flow → Shared → Prop} {E : Value → Shared → Prop} {s : Shared} (h : Q .next s) : wpAny (model p w) A (execs [] en) Q E s := by
  w_top off
  walk1
  exact h
open PySem PySem.W PyProof.Rows PySem.Calls PyProof.V PySem.Spec

local macro_rules | `(tactic| walk_at "call ref") => `(tactic| (k_here; (with_reducible show wpAny _ _ (call (Value.ref 600) _) _ _ _); refine hold_of ?_))
section
variable {prog : Program} {w : World}
theorem law_one2 {e ed q c cd tn ask tol c' : Addr} {now k i comes amt : Int} {puts : Bool} {t1 t2 t3 t4 u1 u4 u5 a1 a2 a3 : Tok} {act : Value} {ys : Array QE} {n : Nat} {fb : Bool} {tl : List (Addr × Obj)}
    (nd : ([e, ed, q, c, cd, 975] ++ tl.map (·.1)).Nodup)
    (TY : TupsIn tl ys) (hz : ys.size < 900) (D : ∀ x ∈ ys.toList, x.e < k) (D1 : Eids ys) (H : IsHp QE.lt ys) :
    CallOk prog w 30 1100 (.ref 980) [.ref e, .ref tn, .int i a1, .int comes a2, .int amt a3, .bool puts, .ref ask, .ref tol] ((e, instObj 662 ed) :: (ed, envO w t1 t2 t3 t4 u1 now q c act) :: (q, qobj ys n) :: (c, cntO cd fb k u4 u5) :: (cd, dictOf [] 0) :: (975, tabObj #[rawInt 575, rawInt 4, .ref c']) :: tl)
      (fun v rows' => v = .none ∧ ∃ (ti ie id lb pr pd l2 st sd f sl k1 k2 k3 k4 k5 k6 k7 k8 k9 : Addr) (zs : Array QE) (x1 x2 x3 x4 b1 b2 b3 b4 d1 d2 d3 d4 g1  nu cu au : Tok) (n' n1 n2 n3 : Nat) ( o1 o2 o3 o4 o5 o6 o7 o8 o9 : Obj) (dc nm ct : Value),
        zs.toList.Perm (ys.push ⟨ti, now + 0, 0, k, x1, x2, x3, .ref ie⟩).toList ∧ IsHp QE.lt zs ∧  o1.data = .cell (some (.ref tol)) ∧ o2.data = .cell (some (.ref tn)) ∧ o3.data = .cell (some (.ref sl)) ∧ o4.data = .cell (some (.bool puts)) ∧
        o5.data = .cell (some (.int i nu)) ∧ o6.data = .cell (some (.ref e)) ∧ o7.data = .cell (some (.int comes cu)) ∧ o8.data = .cell (some (.ref ask)) ∧ o9.data = .cell (some (.int amt au)) ∧
        rows' = (ti, tupo (now + 0) 0 k x1 x2 x3 (.ref ie)) :: (ie, instObj 229 id) :: (id, iniO w b1 b2 b3 b4 e lb) :: (lb, listO #[.ref pr] n1) :: (pr, instObj 301 pd) :: (pd, prcO w d1 d2 d3 d4 e l2 st ie) :: (l2, listO #[] n2) :: (st, instObj 962 sd) :: (sd, stpO w g1 f) ::
          (f, deedO w.params k1 k2 k3 k4 k5 k6 k7 k8 k9 dc nm c' ct) :: (k1, o1) :: (k2, o2) :: (k3, o3) :: (k4, o4) :: (k5, o5) :: (k6, o6) :: (k7, o7) :: (k8, o8) :: (k9, o9) :: (sl, listO #[] n3) :: 
          (e, instObj 662 ed) :: (ed, envO w t1 t2 t3 t4 u1 now q c act) :: (q, qobj zs n') :: (c, cntO cd fb (k + 1) x4 u5) :: (cd, dictOf [] 0) :: (975, tabObj #[rawInt 575, rawInt 4, .ref c']) :: tl ∧ (rows'.map (·.1)).Nodup) := by
  intro p loose mean mg mb dp un gd cn cs a ccd cl outer A₀ base h₀ L m s Q E B F X T C hk hdp hun N ret
  refine Mine.go_of ?_
  simp (disch := k_dflt (
  have ndS := nd_five nd
  have nd' := nd
  simp only [List.cons_append, List.nil_append] at nd'
  walk_at "nd"
  refine wpAny_call ?_
  k_dflt (walk_at "enterC")
  k_steps
  unfold Hold
  rename News _ _ _ _ => N9
  refine' proc_c ?nd1 ?TY1 hz D D1 H ?B1 ?F1 ?X1 ?T1 ?C1 ?hk1 ?dp1 ?un1 (news_rows N9 ?sub1) ?ret1
  case sub1 => exact an_cons (by k_mem) (an_cons (by k_mem) (an_cons (by k_mem) (an_cons (by k_mem) (an_cons (by k_mem) (an_cons (by k_mem) (an_cons (by k_mem) (sub_drop (sub_drop (sub_keep (sub_keep (sub_keep (sub_keep (sub_keep (sub_keep (sub_keep (sub_keep (sub_keep (sub_keep (sub_keep (sub_drop (sub_drop (sub_drop (sub_drop (sub_drop (sub_keep (fun _ h => h))))))) )))))))))))))))))))
  case nd1 =>
    simp only [List.map_cons, List.cons_append, List.nil_append]
    first | (walk_at "newnd") | fail
  case TY1 => exact tups_sub TY (by walk_at "subl")
  case B1 => k_asm
  case F1 => k_asm
  case X1 => k_asm
  case T1 => k_asm
  case C1 => k_asm
  case hk1 => exact rfl
  case dp1 => ktr_room
  case un1 => ktr_units
  intro v9 rows9 h9 tk9 hR9 F9 N8
  obtain ⟨ti, ie, id, lb, pr, pd, l2, zs, x1, x2, x3, x4, b1, b2, b3, b4, d1, d2, d3, d4, n', n1, n2, rfl, pm, hp, rfl, ndr⟩ := hR9
  k_steps
  rename News h₀ _ _ _ => N7
  refine' ret _ _ _ _ ⟨rfl, _, _, _, _, _, _, _, _, _, _, _, _, _, _, _, _, _, _, _, _,  _, _, _, _, _, _, _, _, _, _, _, _, _, _,  _, _, _, _, _, _, _,  _, _, _, _, _, _, _, _, _,  _, _, _, ?p1, ?p2,  ?f1, ?f2, ?f3, ?f4, ?f5, ?f6, ?f7, ?f8, ?f9, rfl, ?nd⟩ ?kF (news_rows N7 ?kN)
  case p1 => with_reducible assumption
  case p2 => with_reducible assumption
  case kF => with_reducible assumption
  case' kN => refine an_cons (by k_mem) (an_cons (by k_mem) (an_cons (by k_mem) (an_cons (by k_mem) (an_cons (by k_mem) (an_cons (by k_mem) (an_cons (by k_mem) (an_cons (by k_mem) (an_cons (by k_mem) (an_cons (by k_mem) (an_cons (by k_mem) (an_cons (by k_mem) (an_cons (by k_mem) (an_cons (by k_mem) (an_cons (by k_mem) (an_cons (by k_mem) (an_cons (by k_mem) (an_cons (by k_mem) (an_cons (by k_mem) (?_)))))))))))))))))))
  case f1 => assumption
  case f2 => assumption
  case f3 => assumption
  case f4 => assumption
  case f5 => assumption
  case f6 => assumption
  case f7 => assumption
  case f8 => assumption
  case f9 => assumption
  case' kN => refine an_cons (by k_mem) ?_
  case kN => walk_at "rows"
  case nd =>
    simp only [List.map_cons] at ndr ⊢
    exact nd_le ndr fun _ => by (simp only [List.map_cons, cnt_cons]; omega))) only [↓Mine.go_eq]
end
end

section
-- part L1a
open PySem PySem.W PyProof.Rows PySem.Spec in
theorem turn_L1a {p : Program} {w : World} {A : Around} {en : Env} {Q : Flow → Shared → Prop} {E : Value → Shared → Prop} {s : Shared} (h : Q .next s) : wpAny (model p w) A (execs [] en) Q E s := by
  w_top off
  walk1
  exact h
open PySem PySem.W PyProof.Rows PySem.Calls PyProof.V PySem.Spec

def bodyAt {P : Params} {a : Addr} {o : Obj} {fd : FuncData} {bd : List Stmt} (_ : (Mine.kk.heap_1 P).lookup a = some o) (_ : o.data = .func fd) (_ : fd.body = .stmts bd) : List Stmt := bd
def scopeAt {P : Params} {a : Addr} {o : Obj} {fd : FuncData} (_ : (Mine.kk.heap_1 P).lookup a = some o) (_ : o.data = .func fd) : Scope := fd.scope
def lawB (P : Params) : List Stmt := by
  refine' bodyAt (P := P) (a := 985) ?h ?g ?k
  case h => k_is
  case g => exact rfl
  case k => exact rfl
def lawS (P : Params) : Scope := by
  refine' scopeAt (P := P) (a := 985) ?h ?g
  case h => k_is
  case g => exact rfl
def lawSt (P : Params) (i : Nat) : Stmt := (lawB P).getD i (.Pass ⟨0, 0, 0, 0⟩)
abbrev lawC (c1 c2 c3 : Addr) : List (Str × Addr) := [(Str.ofString "due", c3), (Str.ofString "asked", c2), (Str.ofString "numbers", c1)]
theorem lawC_eq (P : Params) (L : Addr) : cellsFrom (L + 1) (lawS P).names [] = lawC (L + 1) (L + 1 + 1) (L + 1 + 1 + 1) := rfl
theorem lawS_kind (P : Params) : (lawS P).kind = .function := rfl
theorem mod_ne2 {x : Int} : x.fmod 12 + 1 + 1 ≠ 0 := by
  have := Int.fmod_nonneg_of_pos x (show (0 : Int) < 12 by decide)
  omega
theorem mod_ne12 : (12 : Int) ≠ 0 := by decide
theorem mod_ne13 : (13 : Int) ≠ 0 := by decide
theorem mod_two : (2 : Int) ≠ 0 := by decide
theorem room_pos {x : Int} : 0 < x.fmod 12 + 1 := by
  have := Int.fmod_nonneg_of_pos x (show (0 : Int) < 12 by decide)
  omega
theorem level_nonneg {x y : Int} : 0 ≤ x.fmod (y.fmod 12 + 1 + 1) := by
  have := Int.fmod_nonneg_of_pos y (show (0 : Int) < 12 by decide)
  exact Int.fmod_nonneg_of_pos x (by omega)
theorem level_le {x y : Int} : x.fmod (y.fmod 12 + 1 + 1) ≤ y.fmod 12 + 1 := by
  have := Int.fmod_nonneg_of_pos y (show (0 : Int) < 12 by decide)
  have := Int.fmod_lt_of_pos x (show 0 < y.fmod 12 + 1 + 1 by omega)
  omega
abbrev lawE (P : Params) (c1 c2 c3 L a : Addr) (ccd : Value) : Env := envX (Str.ofString "law") (lawS P) L a ccd (lawC c1 c2 c3)
abbrev lawA (P : Params) (dp un : Nat) (gd : Option (List Code)) (c1 c2 c3 L a : Addr) (ccd : Value) : Around := kTop none dp un gd (Str.ofString "law") (lawS P) L a ccd (lawC c1 c2 c3) []
structure On where
  a : Addr
  b : Bool
  x : Int
  t : Tok
  k : Nat
abbrev On.obj (o : On) : Obj := tup2 (.bool o.b) (.int o.x o.t) o.k
abbrev On.row (o : On) : Addr × Obj := (o.a, o.obj)
abbrev lsO (R : List On) (n : Nat) : Obj := listO ((R.map fun o => Value.ref o.a).reverse).toArray n
end

section
-- part L3a
open PySem PySem.W PyProof.Rows PySem.Spec in
theorem turn_L3a {p : Program} {w : World} {A : Around} {en : Env} {Q : Flow → Shared → Prop} {E : Value → Shared → Prop} {s : Shared} (h : Q .next s) : wpAny (model p w) A (execs [] en) Q E s := by
  w_top off
  walk1
  exact h
open PySem PySem.W PyProof.Rows PySem.Calls PyProof.V PySem.Spec

section
variable {prog : Program} {w : World} {A : Around} {s : Shared} {h₀ : Heap} {L : Addr} {m : Str → Option Value} {env : Env}
theorem rest_ind {elt : PySem.Expr} {x : Str} {scope : Scope} {cl : List (Str × Addr)} {S : List (Addr × Obj) → Prop} {P : Nat → Value → Prop} {Fin : List Value → List (Addr × Obj) → Prop} {n : Nat} (J : Nat → List Value → List (Addr × Obj) → Prop) {news : List (Addr × Obj)} (h0 : J 0 [] news)
    (turn : ∀ i ys nw, i < n → J i ys nw → ∀ v I oI C oC D m₂ h tk (E' : Value → Shared → Prop), P i v → LCg.NsObj oC m₂ → m₂ x = some v → Fr h₀ L h m → News h₀ L h ((I, oI) :: (C, oC) :: (D, LCg.lst ys) :: nw) → LCg.Off3 I C D nw → ((@Ne Nat I C) ∧ (@Ne Nat I D) ∧ (@Ne Nat C D)) →
      wpAny (model prog w) A (eval elt (compEnvC scope cl C env)) (LCg.CompEnd h₀ L m { s with heap := h, toks := tk } I oI C oC D (LCg.lst ys) S (fun y news' => J (i + 1) (ys ++ [y]) news')) E' { s with heap := h, toks := tk })
    (fin : ∀ ys nw, J n ys nw → Fin ys nw) : LCg.CompRest prog w A h₀ L m env elt x scope cl s S P Fin n 0 [] news := by
  have go : ∀ k i ys nw, i + k = n → J i ys nw → LCg.CompRest prog w A h₀ L m env elt x scope cl s S P Fin k i ys nw := by
    intro k
    induction k with
    | zero =>
      intro i ys nw e hJ
      have : i = n := by omega
      subst this
      exact .zero (fin ys nw hJ)
    | succ k ih =>
      intro i ys nw e hJ
      refine .succ fun v I oI C oC D m₂ h tk E' hv hC hx F N off ne => ?_
      refine wpAny_mono (turn i ys nw (by omega) hJ v I oI C oC D m₂ h tk E' hv hC hx F N off ne) (fun y s' hy => ?_) fun _ _ e => e
      obtain ⟨h', tk', news', e1, F', N', o', S', r⟩ := hy
      exact ⟨h', tk', news', e1, F', N', o', S', ih (i + 1) _ _ (by omega) r⟩
  exact go n 0 [] news (by omega) h0
theorem Off3.sub {I C D : Addr} {l r : List (Addr × Obj)} (h : LCg.Off3 I C D l) (hs : ∀ p ∈ r, p ∈ l) : LCg.Off3 I C D r := .of fun p hp => h.mem p (hs p hp)
end
theorem off1_mem {D : Addr} : ∀ {l : List (Addr × Obj)}, LCg.Off1 D l → ∀ p ∈ l, p.1 ≠ D
  | [], _, _, h => nomatch h
  | q :: r, x, p, h => by
    rcases List.mem_cons.mp h with rfl | h
    · exact x.1
    · exact off1_mem x.2 p h
theorem off_notin {D : Addr} {l : List (Addr × Obj)} (h : ∀ p ∈ l, p.1 ≠ D) : D ∉ l.map (·.1) := fun hm => by
  obtain ⟨p, hp, e⟩ := List.mem_map.mp hm
  exact h p hp e
theorem lst_lsO {R : List On} : LCg.lst (R.map fun o => Value.ref o.a).reverse = lsO R R.length := by
  unfold LCg.lst lsO listO
  simp
theorem mod13_pos {x : Int} : 0 < x.fmod 13 + 1 := by
  have := Int.fmod_nonneg_of_pos x (show (0 : Int) < 13 by decide)
  omega
theorem sub_mid {A B C : List (Addr × Obj)} (h : ∀ p ∈ B, p ∈ C) : ∀ p ∈ B, p ∈ A ++ C := fun p hp => List.mem_append_right _ (h p hp)
theorem on_ex {h₀ h : Heap} {L D : Addr} {b : Bool} {x : Int} {t : Tok} {k : Nat} {l : List (Addr × Obj)} (N : News h₀ L h ((D, tup2 (.bool b) (.int x t) k) :: l)) : ∃ o : On, D = o.a ∧ x = o.x ∧ News h₀ L h (o.row :: l) := ⟨⟨D, b, x, t, k⟩, rfl, rfl, N⟩
section
variable {prog : Program} {w : World} {A : Around} {E : Value → Shared → Prop} {s : Shared} {env : Env} {h₀ : Heap} {target : PySem.Expr} {body : List Stmt} {Q : Flow → Shared → Prop}
abbrev rangeItms (n : Nat) : List Itm := (List.range n).map fun (i : Nat) => Itm.tok fun t => Value.int (i : Int) t
theorem iter_rangeTurns {x : Str} {px : Pos} {r : Addr} {n : Nat} {t u v : Tok} {m₀ : Str → Option Value} {news : List (Addr × Obj)} (hh : A.handled = none) (F : Fr h₀ env.locals s.heap m₀) (N : News h₀ env.locals s.heap news) (hr : IsRange s.heap r 0 (n : Int) 1 t u v) (hn : n ≤ 1000)
    (rest₀ : ∀ I : Addr, (∀ p ∈ news, p.1 < I) → ItemsRest prog w A E h₀ env (.Name x px) body Q s [(I, "range_iterator")] [] (rangeItms n) m₀ news) :
    wpAny (model prog w) A (pyIter (.ref r)) (fun it s₂ => TurnsAt prog w A h₀ env (.Name x px) body Q E it s₂) E s := by
  refine wpAny_pyIter_range hr (small_one (by decide) (by decide) (by omega) (by omega)) ?_
  refine ktu_core (tk0 := s.toks) (keep := []) (KTurns.ofWalks (Walks.range hh s.heap.objs.size 0 1 n).bound fun i v s Q E st q => (by unfold letOwnedTupleGo; exact wpAny_pure q)) (by simp) (fun i v h hp => ?_) (fun i h st => ?_) (fun b hb => ?_) (fun b hb => by simpa using hb) (fun b hb => .inl (by simpa using hb)) ?_ (fun p hp hI => ?_) ?_ (F.push _) (fun p hp => ⟨Heap.get?_push_of_some _ (N p hp).1, (N p hp).2⟩) trivial (rest₀ _ fun p hp => Heap.lt_size (N p hp).1)
  · obtain ⟨hi, t, rfl⟩ := hp
    exact ⟨Itm.tok fun t => Value.int ((i : Nat) : Int) t, by rw [List.getElem?_map, List.getElem?_range hi]; rfl, t, by rw [Int.zero_add, Int.mul_one]⟩
  · exact ⟨[(s.heap.objs.size, _)], ⟨⟨rfl, rfl⟩, trivial⟩, fun p hp => by rw [List.mem_singleton.mp hp]; exact st⟩
  · have hb' : b = s.heap.objs.size := by simpa using hb
    rw [hb']
    exact ⟨List.mem_cons_self .., next_is_new F⟩
  · intro hI
    have := List.mem_singleton.mp hI
    exact absurd F.ns.lt (this ▸ Nat.lt_irrefl _)
  · exact absurd (Heap.lt_size (N p hp).1) ((List.mem_singleton.mp hI) ▸ Nat.lt_irrefl _)
  · have e : Builtin.Range.rangeSize 0 (n : Int) 1 = (n : Int) := by rw [rangeSize_nat]; omega
    rw [e]
    simpa using Heap.get?_push_size _ rfl
theorem items_one {I : Addr} {cls : String} {keep : List (Addr × Obj)} (J : List Itm → (Str → Option Value) → List (Addr × Obj) → Prop)
    (turn : ∀ a r m nw, J (a :: r) m nw → ∀ v h tk o, a.Is v h → o.cls = .type cls → Fr h₀ env.locals h m → News h₀ env.locals h ((I, o) :: nw) → (∀ p ∈ nw, p.1 ≠ I) →
      wpAny (model prog w) A (assign target env v) (fun _ s₂ => wpAny (model prog w) A (execs body env) (fun f s₃ => match f with
        | .ret v => Q (.ret v) s₃
        | .brk => Q .next s₃
        | _ => ∃ h' tk' m' nw', s₃ = { s with heap := h', toks := tk' } ∧ Fr h₀ env.locals h' m' ∧ News h₀ env.locals h' ((I, o) :: nw') ∧ (∀ p ∈ nw', p.1 ≠ I) ∧ SubL keep nw' ∧ J r m' nw') E s₂) E { s with heap := h, toks := tk })
    (done : ∀ m nw h tk, J [] m nw → Fr h₀ env.locals h m → News h₀ env.locals h nw → Q .next { s with heap := h, toks := tk }) :
    ∀ (xs : List Itm) m nw, J xs m nw → (∀ p ∈ nw, p.1 ≠ I) → ItemsRest prog w A E h₀ env target body Q s [(I, cls)] keep xs m nw := by
  intro xs
  induction xs with
  | nil => exact fun m nw hJ _ h tk F N => done m nw h tk hJ F N
  | cons a r ih =>
    intro m nw hJ hI v h tk hv F o ho N
    refine wpAny_mono (turn a r m nw hJ v h tk o hv ho F N hI) (fun _ s₂ h₂ => wpAny_mono h₂ (fun f s₃ h₃ => ?_) fun _ _ e => e) fun _ _ e => e
    cases f with
    | ret v => exact h₃
    | brk => exact h₃
    | next =>
      obtain ⟨h', tk', m', nw', rfl, F', N', hI', hk', hJ'⟩ := h₃
      exact ⟨h', tk', m', nw', rfl, F', N', fun p hp q hq => by rw [List.mem_singleton.mp hq]; exact hI' p hp, hk', ih m' nw' hJ' hI'⟩
    | cont =>
      obtain ⟨h', tk', m', nw', rfl, F', N', hI', hk', hJ'⟩ := h₃
      exact ⟨h', tk', m', nw', rfl, F', N', fun p hp q hq => by rw [List.mem_singleton.mp hq]; exact hI' p hp, hk', ih m' nw' hJ' hI'⟩
theorem items_two {I I2 : Addr} {cls cls2 : String} {keep : List (Addr × Obj)} (J : List Itm → (Str → Option Value) → List (Addr × Obj) → Prop)
    (turn : ∀ a r m nw, J (a :: r) m nw → ∀ v h tk o o2, a.Is v h → Fr h₀ env.locals h m → News h₀ env.locals h ((I, o) :: (I2, o2) :: nw) → (∀ p ∈ nw, p.1 ≠ I) → (∀ p ∈ nw, p.1 ≠ I2) →
      wpAny (model prog w) A (assign target env v) (fun _ s₂ => wpAny (model prog w) A (execs body env) (fun f s₃ => match f with
        | .ret v => Q (.ret v) s₃
        | .brk => Q .next s₃
        | _ => ∃ h' tk' m' nw', s₃ = { s with heap := h', toks := tk' } ∧ Fr h₀ env.locals h' m' ∧ News h₀ env.locals h' ((I, o) :: (I2, o2) :: nw') ∧ (∀ p ∈ nw', p.1 ≠ I) ∧ (∀ p ∈ nw', p.1 ≠ I2) ∧ SubL keep nw' ∧ J r m' nw') E s₂) E { s with heap := h, toks := tk })
    (done : ∀ m nw h tk, J [] m nw → Fr h₀ env.locals h m → News h₀ env.locals h nw → Q .next { s with heap := h, toks := tk }) :
    ∀ (xs : List Itm) m nw, J xs m nw → (∀ p ∈ nw, p.1 ≠ I) → (∀ p ∈ nw, p.1 ≠ I2) → ItemsRest prog w A E h₀ env target body Q s [(I, cls), (I2, cls2)] keep xs m nw := by
  intro xs
  induction xs with
  | nil => exact fun m nw hJ _ _ h tk F N => done m nw h tk hJ F N
  | cons a r ih =>
    intro m nw hJ hI hI2 v h tk hv F o ho o2 ho2 N
    refine wpAny_mono (turn a r m nw hJ v h tk o o2 hv F N hI hI2) (fun _ s₂ h₂ => wpAny_mono h₂ (fun f s₃ h₃ => ?_) fun _ _ e => e) fun _ _ e => e
    have fin : (∃ h' tk' m' nw', s₃ = { s with heap := h', toks := tk' } ∧ Fr h₀ env.locals h' m' ∧ News h₀ env.locals h' ((I, o) :: (I2, o2) :: nw') ∧ (∀ p ∈ nw', p.1 ≠ I) ∧ (∀ p ∈ nw', p.1 ≠ I2) ∧ SubL keep nw' ∧ J r m' nw') →
        UnrEndW h₀ env.locals { s with heap := h, toks := tk } [(I, o), (I2, o2)] (fun m' n' => SubL keep n' ∧ ItemsRest prog w A E h₀ env target body Q s [(I, cls), (I2, cls2)] keep r m' n') s₃ := by
      rintro ⟨h', tk', m', nw', rfl, F', N', hI', hI2', hk', hJ'⟩
      refine ⟨h', tk', m', nw', rfl, F', N', fun p hp q hq => ?_, hk', ih m' nw' hJ' hI' hI2'⟩
      rcases List.mem_cons.mp hq with rfl | hq
      · exact hI' p hp
      · rw [List.mem_singleton.mp hq]
        exact hI2' p hp
    cases f with
    | ret v => exact h₃
    | brk => exact h₃
    | next => exact fin h₃
    | cont => exact fin h₃
end
end

section
open PySem PySem.W PyProof.Rows PySem.Spec in
theorem turn_gB2 {p : Program} {w : World} {A : Around} {en : Env} {Q : Flow → Shared → Prop} {E : Value → Shared → Prop} {s : Shared} (h : Q .next s) : wpAny (model p w) A (execs [] en) Q E s := by
  w_top off
  walk1
  exact h
local macro_rules | `(tactic| walk_at "enterD") => `(tactic| (refine' code_def ?k1 ?k2 ?k3 ?k4 ?k5 ?kA ?kF ?kK ?k6 ?k7 ?k8 ?k9 ?kB ?_ ?c2 ?c3 ?c4 ?c5; (case kA => exact rfl); (case kF => exact rfl); (case kK => first | assumption | exact rfl); (case k1 => k_asm); (case k2 => k_asm); (case k3 => k_asm); (case k4 => k_asm); (case k5 => k_asm); (case k6 => k_is); (case k7 => k_is); (case k8 => ktr_room); (case k9 => first | exact binds_K (by k_in) rfl (by k_is) rfl rfl rfl | exact BindsTo.of_eq rfl); (case c5 => decide); (case kB => exact locs rfl); (case c2 => exact rfl); (case c3 => exact rfl); (case c4 => exact rfl); k_whole; intro g' L' h' FG' F' N' B' X' T'; (try dsimp only); (try k_lift B'); (try k_fold)))
local macro_rules | `(tactic| walk_at "subscriptTail") => `(tactic| (k_here; first
  | ((with_reducible show wpAny _ _ (subscriptTail _ _ (Value.ref _) (Value.int 0 _)) _ _ _); k_dflt (refine' tup_0 ?N ?m ?_; (case N => k_asm); (case m => k_mem); k_whole))
  | ((with_reducible show wpAny _ _ (subscriptTail _ _ (Value.ref _) (Value.int 1 _)) _ _ _); k_dflt (refine' tup_1 ?N ?m ?_; (case N => k_asm); (case m => k_mem); k_whole))))
local macro_rules | `(tactic| walk_at "exec While Compare cons nil") => `(tactic| (k_here; refine whl_start 0 (hold_of ?_)))
local macro_rules | `(tactic| walk_at "exec While BoolOp cons nil") => `(tactic| (k_here; refine whl_start 0 (hold_of ?_)))
local macro_rules | `(tactic| walk_at "call builtin:len") => `(tactic| (k_here; (with_reducible show wpAny _ _ (call (Value.builtin "len") [Value.ref _]) _ _ _); k_dflt (refine' lenS_K ?N ?m ?z ?_; (case N => k_asm); (case m => k_mem); (case z => walk_at "lenfact"); k_whole)))
local macro_rules | `(tactic| walk_at "compareOp NotEq") => `(tactic| (k_here; refine NeB.go (by with_reducible assumption) ?_))
local macro_rules | `(tactic| walk_at "truthy ref") => `(tactic| (k_here; (with_reducible show wpAny _ _ (truthy (Value.ref _)) _ _ _); k_dflt (first
  | (refine' truth_nil ?N ?m ?_; (case N => k_asm); (case m => k_mem); k_whole)
  | (refine' truth_cons ?N ?m ?z ?_; (case N => k_asm); (case m => k_mem); (case z => walk_at "lenfact"); k_whole))))
local macro_rules | `(tactic| walk_at "Exists") => `(tactic| refine hold_of ?_)
local macro_rules | `(tactic| walk_at "binaryOp Mod int int") => `(tactic| (k_here; refine mod_int (by first | exact mod_ne12 | exact mod_ne13 | exact mod_two | exact mod_ne2) ?_))
local macro_rules | `(tactic| walk_at "call ref") => `(tactic| (k_here; (first | (with_reducible show wpAny _ _ (call (Value.ref 662) _) _ _ _) | (with_reducible show wpAny _ _ (call (Value.ref 929) _) _ _ _)); refine hold_of ?_))
local macro_rules | `(tactic| walk_at "exec Assign cons ListComp") => `(tactic| (k_here; refine hold_of ?_))
local macro_rules | `(tactic| walk_at "exec For Name Call cons nil") => `(tactic| (k_here; refine hold_of ?_))
local macro_rules | `(tactic| walk_at "exec For Tuple Call cons nil") => `(tactic| (k_here; refine hold_of ?_))
local macro_rules | `(tactic| walk_at "notin") => `(tactic| exact List.not_mem_nil)
section
-- part L4
open PySem PySem.W PyProof.Rows PySem.Spec in
theorem turn_L4 {p : Program} {w : World} {A : Around} {en : Env} {Q : Flow → Shared → Prop} {E : Value → Shared → Prop} {s : Shared} (h : Q .next s) : wpAny (model p w) A (execs [] en) Q E s := by
  w_top off
  walk1
  exact h
open PySem PySem.W PyProof.Rows PySem.Calls PyProof.V PySem.Spec

def chain : List (Str × Value) → (Str → Option Value) → Str → Option Value
  | [], m, z => m z
  | (a, v) :: l, m, z => if z = a then some v else chain l m z
def AllIn (m : Str → Option Value) : List (Str × Value) → Prop
  | [] => True
  | (a, v) :: l => m a = some v ∧ AllIn m l
theorem chain_eq {m : Str → Option Value} : ∀ {l : List (Str × Value)}, AllIn m l → chain l m = m
  | [], _ => rfl
  | (a, v) :: l, h => by
    funext z
    show (if z = a then some v else chain l m z) = m z
    by_cases e : z = a
    · rw [if_pos e, e, h.1]
    · rw [if_neg e, chain_eq h.2]
theorem fr_chain {h₀ h : Heap} {L : Addr} {m : Str → Option Value} (l : List (Str × Value)) (F : Fr h₀ L h m) (ha : AllIn m l) : Fr h₀ L h (chain l m) := by rw [chain_eq ha]; exact F
theorem UpdF.to {d : Addr} {o : Obj} {l : List (Addr × Obj)} {g : Obj → List (Addr × Obj)} (U : UpdF d o l g) (o' : Obj) : Upd d o o' l (g o') := by
  induction U with
  | head h => exact .head h
  | tail h _ ih => exact .tail h ih
theorem cut_at : ∀ (p : List Value) (y : Value) (q : List Value), kl_cut (p ++ y :: q) p.length = some (p, y, q)
  | [], _, _ => rfl
  | x :: p, y, q => by
    show (match kl_cut (p ++ y :: q) p.length with | some (p, y, q) => some (x :: p, y, q) | none => none) = _
    rw [cut_at p y q]
theorem seq_at {j : Int} {n : Nat} (h0 : 0 ≤ j) (h1 : j < n) : seqIndex? j n = some j.toNat := by
  unfold seqIndex?
  simp only [if_neg (Int.not_lt.mpr h0)]
  simp [h0, h1]
theorem fits_at {j : Int} (h0 : 0 ≤ j) (h1 : j < 1000) : Builtin.List.listFitsIndex j = true := by
  unfold Builtin.List.listFitsIndex
  simp
  omega
section
variable {prog : Program} {w : World} {A : Around} {E : Value → Shared → Prop} {s : Shared} {h₀ : Heap} {L D : Addr} {m : Str → Option Value} {news : List (Addr × Obj)} {g : Obj → List (Addr × Obj)} {S : List (Int × Tok)} {n : Nat} {Q : Value → Shared → Prop}
theorem popJ_K {j : Int} {u : Tok} (F : Fr h₀ L s.heap m) (N : News h₀ L s.heap news) (U : UpdF D (lsI S n) news g) (h0 : 0 ≤ j) (h1 : j < S.length) (hz : S.length < 1000)
    (h : ∀ h' p x q, S = p ++ x :: q → Fr h₀ L h' m → News h₀ L h' (g (lsI (p ++ q) (n + 1))) → Q (.int x.1 x.2) { s with heap := h' }) : wpAny (model prog w) A (call (.builtin "list.pop") [.ref D, .int j u]) Q E s := by
  have hj : j.toNat < S.length := by omega
  obtain ⟨p, x, q, rfl, hp⟩ : ∃ p x q, S = p ++ x :: q ∧ p.length = j.toNat := ⟨S.take j.toNat, S[j.toNat], S.drop (j.toNat + 1), by rw [← List.drop_eq_getElem_cons hj, List.take_append_drop], by rw [List.length_take]; omega⟩
  refine kl_popAt (p := p.map fun x => Value.int x.1 x.2) (q := q.map fun x => Value.int x.1 x.2) (y := .int x.1 x.2) (k := j.toNat) F N (fits_at h0 (by omega)) (by rw [List.size_toArray, List.length_map]; exact seq_at h0 h1) ?_ (UpdF.to U _) (by rw [sizeLine_eq]; simp only [List.length_map]; omega) (fun h' F' N' => h h' p x q rfl F' (by rw [show lsI (p ++ q) (n + 1) = W.listOf ((p.map fun x => Value.int x.1 x.2) ++ (q.map fun x => Value.int x.1 x.2)).toArray (n + 1) by simp [listO, W.listOf]]; exact N'))
  have e : ((p ++ x :: q).map fun x => Value.int x.1 x.2).toArray.toList = (p.map fun x => Value.int x.1 x.2) ++ Value.int x.1 x.2 :: (q.map fun x => Value.int x.1 x.2) := by simp
  rw [e, ← hp, ← List.length_map (f := fun x : Int × Tok => Value.int x.1 x.2)]
  exact cut_at _ _ _
end
theorem rng_drop {n i : Nat} {v : Itm} {r : List Itm} (h : v :: r = (rangeItms n).drop i) : i < n ∧ v = Itm.tok (fun t => Value.int (i : Int) t) ∧ r = (rangeItms n).drop (i + 1) := by
  have hl : i < (rangeItms n).length := by
    rcases Nat.lt_or_ge i (rangeItms n).length with h1 | h1
    · exact h1
    · rw [List.drop_eq_nil_of_le h1] at h
      exact nomatch h
  have hn : i < n := by simpa using hl
  rw [List.drop_eq_getElem_cons hl] at h
  injection h with h1 h2
  refine ⟨hn, ?_, h2⟩
  rw [h1]
  simp
theorem rng_nil {n i : Nat} (h : [] = (rangeItms n).drop i) : n ≤ i := by
  have := congrArg List.length h
  simp at this
  omega
theorem fm0 {x : Int} {l : List (Int × Tok)} (h : 0 < l.length) : 0 ≤ x.fmod ((l.map fun x => Value.int x.1 x.2).length : Int) := Int.fmod_nonneg_of_pos _ (by rw [List.length_map]; omega)
theorem fm1 {x : Int} {l : List (Int × Tok)} (h : 0 < l.length) : x.fmod ((l.map fun x => Value.int x.1 x.2).length : Int) < l.length := by
  have := Int.fmod_lt_of_pos x (show 0 < ((l.map fun x => Value.int x.1 x.2).length : Int) by rw [List.length_map]; omega)
  rwa [List.length_map] at this ⊢
theorem fmn {l : List (Int × Tok)} (h : 0 < l.length) : ((l.map fun x => Value.int x.1 x.2).length : Int) ≠ 0 := by rw [List.length_map]; omega
local macro_rules | `(tactic| walk_at "pyIter ref") => `(tactic| refine hold_of ?_)
local macro_rules | `(tactic| walk_at "call builtin:list.pop") => `(tactic| (k_here; (with_reducible show wpAny _ _ (call (Value.builtin _) [Value.ref _, Value.int _ _]) _ _ _); k_dflt (refine' popJ_K ?F ?N ?U ?z ?y ?x ?_; (case F => k_asm); (case N => k_asm); (case U => k_updF); (case z => walk_at "j0"); (case y => walk_at "j1"); (case x => omega); k_whole); intro h' pj' xj' qj' ej' F' N'; (try dsimp only at N')))
local macro_rules | `(tactic| walk_at "j0") => `(tactic| exact fm0 (by omega))
local macro_rules | `(tactic| walk_at "j1") => `(tactic| exact fm1 (by omega))
local macro_rules | `(tactic| walk_at "binaryOp Mod int int") => `(tactic| (k_here; refine mod_int (fmn (by omega)) ?_))
section
variable {prog : Program} {w : World}
theorem order_st {p : Program} {loose : List Str} {mean : ExcName → Option Value} {mg mb : Str → Option Value} {dp un : Nat} {gd : Option (List Code)} {a : Addr} {ccd : Value} {A₀ : Around} {base h₀ : Heap} {L c1 c2 c3 nu od rs : Addr} {m : Str → Option Value} {s : Shared} {Q : Flow → Shared → Prop} {E : Value → Shared → Prop} {o1 : Obj} {ws : List Value} {nums : List Int} {n kn k1 k2 : Nat} {tm : Tok} {R0 : List (Int × Tok)} {tl : List (Addr × Obj)}
    (B : Below A₀ base [] h₀) (F : Fr h₀ L s.heap m) (XB : (Mine.kk.heap_1 w.params).In base) (TB : Top p loose mean mg mb base) (C : CodeHd base 979 975) (hdp : dp + 300 < recursionLimit) (hun : un + 2000 < cLine)
    (mo : m (Str.ofString "order") = some (.ref od)) (mr : m (Str.ofString "rest") = some (.ref rs)) (mm : m (Str.ofString "many") = some (.int (n : Int) tm))
    (N : News h₀ L s.heap ((od, lsI [] k1) :: (rs, lsI R0 k2) :: (c1, o1) :: (nu, W.listOf ws.toArray kn) :: tl)) (nd : ([od, rs, c1, nu] ++ tl.map (·.1)).Nodup) (h1 : o1.data = .cell (some (.ref nu))) (hi : IntsAre ws nums) (hn : n ≤ 7) (hln : 2 * n + 2 ≤ nums.length) (hl2 : nums.length ≤ 63) (hR0 : R0.length = n)
    (hE : PassesOwn (model prog w) (lawA w.params dp un gd c1 c2 c3 L a ccd) (lawE w.params c1 c2 c3 L a ccd) E)
    (ret : ∀ (O : List (Int × Tok)) (kO kR : Nat) (m' : Str → Option Value) (h' : Heap) (tk' : Nat), (O.map (·.1)).Perm (R0.map (·.1)) → (∀ z, z ≠ Str.ofString "k" → m' z = m z) → Fr h₀ L h' m' → News h₀ L h' ((od, lsI O kO) :: (rs, lsI [] kR) :: (c1, o1) :: (nu, W.listOf ws.toArray kn) :: tl) → Q .next { s with heap := h', toks := tk' }) :
    wpAny (model prog w) (lawA w.params dp un gd c1 c2 c3 L a ccd) (exec (lawSt w.params 8) (lawE w.params c1 c2 c3 L a ccd)) Q E s := by
  refine Mine.go_of ?_
  simp (disch := k_dflt (
  have X := XB.keeps B.stays
  have T := TB.keeps B.stays
  have hk := lawS_kind w.params
  (with_unfolding_all show wpAny _ _ (exec (Stmt.For _ _ _ _ _) _) _ _ _)
  (with_unfolding_all refine' For_turns F ?_ ?hs ?hE)
  case hs => intro _; with_unfolding_all rfl
  case hE => exact hE
  replace F := fr_chain [(Str.ofString "order", .ref od), (Str.ofString "rest", .ref rs), (Str.ofString "many", .int (n : Int) tm)] F ⟨mo, mr, mm, trivial⟩
  dsimp only [chain] at F
  k_steps
  unfold Hold
  refine iter_rangeTurns (n := n) (by rfl) (by assumption) (by assumption) (by assumption) (by omega) fun I hI => ?_
  refine items_one (fun xs m' nw => ∃ (i : Nat) (O R : List (Int × Tok)) (kO kR : Nat), i + R.length = n ∧ xs = (rangeItms n).drop i ∧ ((O ++ R).map (·.1)).Perm (R0.map (·.1)) ∧ (∀ z, z ≠ Str.ofString "k" → m' z = m z) ∧ nw = (od, lsI O kO) :: (rs, lsI R kR) :: (c1, o1) :: (nu, W.listOf ws.toArray kn) :: tl ∧ O.length = i) ?turn ?done _ _ _ ⟨0, [], R0, k1, k2, by omega, rfl, .refl _, ?m0, rfl, rfl⟩ (fun p hp => Nat.ne_of_lt (hI p hp))
  case m0 => exact fun z _ => congrFun (chain_eq (l := [(Str.ofString "order", .ref od), (Str.ofString "rest", .ref rs), (Str.ofString "many", .int (n : Int) tm)]) ⟨mo, mr, mm, trivial⟩) z
  case done =>
    rintro m' nw h tk ⟨i, O, R, kO, kR, hir, hxs, hp, hm, rfl, hO⟩ F N
    have := rng_nil hxs
    have hR : R = [] := List.eq_nil_of_length_eq_zero (by omega)
    subst hR
    rw [List.append_nil] at hp
    exact ret O kO kR m' h tk hp hm F N
  case turn =>
    rintro v r m' nw ⟨i, O, R, kO, kR, hir, hxs, hp, hm, rfl, hO⟩ v1 h tk o hv ho F N off
    obtain ⟨hin, rfl, rfl⟩ := rng_drop hxs
    obtain ⟨t, rfl⟩ := hv
    have nd' := nd
    simp only [List.cons_append, List.nil_append] at nd'
    walk_at "nd"
    have hO7 : O.length ≤ 7 := by omega
    have i1 : I ≠ od := Ne.symm (off _ (.head _))
    have i2 : I ≠ rs := Ne.symm (off _ (.tail _ (.head _)))
    replace F := fr_chain [(Str.ofString "order", .ref od), (Str.ofString "rest", .ref rs)] F ⟨(hm _ (by decide)).trans mo, (hm _ (by decide)).trans mr, trivial⟩
    dsimp only [chain] at F
    k_steps
    unfold Hold
    rename News _ _ _ _ => N9
    rename Fr _ _ _ _ => F9
    rename R = _ ++ _ :: _ => e9
    obtain ⟨p9, x9, q9, rfl, N8⟩ : ∃ (p : List (Int × Tok)) (x : Int × Tok) (q : List (Int × Tok)), R = p ++ x :: q ∧ News h₀ L _ ((I, o) :: (od, lsI (O ++ [(x.1, x.2)]) (kO + 1)) :: (rs, lsI (p ++ q) (kR + 1)) :: (c1, o1) :: (nu, W.listOf ws.toArray kn) :: tl) := ⟨_, _, _, e9, news_rows N9 (an_cons (by k_mem) (an_cons (by rw [lsI_snoc]; k_mem) (an_cons (by k_mem) (an_cons (by k_mem) (an_cons (by k_mem) (by walk_at "subl"))))))⟩
    simp only [List.length_append, List.length_cons] at hir
    refine ⟨_, _, _, _, rfl, F9, N8, ?off, trivial, i + 1, O ++ [(x9.1, x9.2)], p9 ++ q9, _, _, by simp only [List.length_append]; omega, rfl, ?pm, ?hm, rfl, by simp [hO]⟩
    case off =>
      refine an_cons (show od ≠ I from off _ (.head _)) (an_cons (show rs ≠ I from off _ (.tail _ (.head _))) ?_)
      exact fun p hp => off p (.tail _ (.tail _ hp))
    case pm =>
      refine List.Perm.trans (List.Perm.map _ ?_) hp
      simp only [List.append_assoc, List.cons_append, List.nil_append]
      exact List.Perm.append_left _ List.perm_middle.symm
    case hm =>
      intro z hz
      show (if z = Str.ofString "k" then _ else chain [(Str.ofString "order", .ref od), (Str.ofString "rest", .ref rs)] m' z) = _
      rw [if_neg hz, chain_eq (l := [(Str.ofString "order", .ref od), (Str.ofString "rest", .ref rs)]) (m := m') ⟨(hm _ (by decide)).trans mo, (hm _ (by decide)).trans mr, trivial⟩]
      exact hm z hz)) only [↓Mine.go_eq]
end
end

section
-- part L6a
open PySem PySem.W PyProof.Rows PySem.Spec in
theorem turn_L6a {p : Program} {w : World} {A : Around} {en : Env} {Q : Flow → Shared → Prop} {E : Value → Shared → Prop} {s : Shared} (h : Q .next s) : wpAny (model p w) A (execs [] en) Q E s := by
  w_top off
  walk1
  exact h
open PySem PySem.W PyProof.Rows PySem.Calls PyProof.V PySem.Spec

/-! a comprehension over zip whose element is True each time -/
section
variable {prog : Program} {w : World} {A : Around} {E : Value → Shared → Prop} {s : Shared} {h₀ : Heap} {L : Addr} {m : Str → Option Value} {env : Env}
def TrueAt (prog : Program) (w : World) (A : Around) (h₀ : Heap) (L : Addr) (m : Str → Option Value) (env : Env) (elt : PySem.Expr) (x x₂ : Str) (scope : Scope) (cl : List (Str × Addr)) (s : Shared) (news : List (Addr × Obj)) (a b : Value) : Prop :=
  ∀ C oC m₂ h tk (E' : Value → Shared → Prop), LCg.NsObj oC m₂ → m₂ x = some a → m₂ x₂ = some b → Fr h₀ L h m → News h₀ L h ((C, oC) :: news) →
    wpAny (model prog w) A (eval elt (compEnvC scope cl C env)) (fun v s' => v = .bool true ∧ ∃ tk', s' = { s with heap := h, toks := tk' }) E' { s with heap := h, toks := tk }
abbrev trues (n : Nat) : List Value := List.replicate n (.bool true)
theorem block_Z {elt iter : PySem.Expr} {x x₂ : Str} {px px₂ tp : Pos} {tk0} {scope : Scope} {cl : List (Str × Addr)} {pos : Pos} {I : Addr} {fp wr : List Addr} {n : Nat} {Pt : Nat → Array Value → Prop} {Mid : Nat → Addr → Heap → Prop} {St : Nat → Heap → Prop} {news : List (Addr × Obj)} {RR : Value → Addr → Result → Shared → Prop}
    (W : WalksU prog w A I fp wr n Pt St Mid) (hh : A.handled = none) (hsz : n ≤ 1000)
    (hcell : ∀ y ∈ scope.names, y.2 ≠ .cell) (hkind : scope.kind = .function) (hx : scope.names.lookup x = some .local) (hx₂ : scope.names.lookup x₂ = some .local) (hxx : x ≠ x₂) (hst : St 0 s.heap) (hfp : ∀ b ∈ fp, b < s.heap.objs.size)
    (F : Fr h₀ L s.heap m) (N : News h₀ L s.heap news) (hL : L ∉ wr) (hw : ∀ b ∈ wr, h₀.get? b = none) (off : ∀ p ∈ news, p.1 ∉ wr)
    (el : ∀ i vals, i < n → Pt i vals → ∃ a b, vals = #[a, b] ∧ TrueAt prog w A h₀ L m env elt x x₂ scope cl s news a b)
    (hRR : ∀ D C h tk m', Fr h₀ L h m → News h₀ L h ((D, LCg.lst (trues n)) :: news) → (∀ p ∈ news, p.1 ≠ D) → h.Ns C m' → h₀.get? C = none → C ≠ L → C ≠ D → (∀ p ∈ news, p.1 ≠ C) → RR (.ref D) C (.ok .next) { s with heap := h, toks := tk }) :
    wpAny (model prog w) A (newList []) (fun acc s₃ => wpAny (model prog w) A (newFunctionEnv scope env.globals cl [] env.qual none .none (some env)) (fun cenv s₄ =>
      codeAny (model prog w) A (.compStart (.ListComp elt [⟨.Tuple [.Name x px, .Name x₂ px₂] tk0 tp, iter, [], 0⟩] scope pos) 0 (.ref I) acc { cenv with scope := relabel scope env }) (RR acc cenv.locals) s₄) E s₃) E s := by
  refine wpAny_newObj_type (wpAny_newFunctionEnv hcell (by intro y hy; simp at hy) (fun h₁ hns₁ hsb₁ => ?_) hkind)
  dsimp only at hns₁ hsb₁ ⊢
  generalize hH2 : s.heap.push { cls := .type "list", dict := none, data := .seq ([] : List Value).toArray } = H2 at hns₁ hsb₁ ⊢
  have hC : H2.objs.size = s.heap.objs.size + 1 := by rw [← hH2, Heap.size_push]
  generalize hc : H2.objs.size = C at hns₁ hsb₁ hC ⊢
  generalize hd : s.heap.objs.size = D at hC ⊢
  have hDC : C ≠ D := by rw [hC]; exact Nat.succ_ne_self _
  have below : ∀ b, b < D → b ≠ C ∧ b ≠ D := fun b hb => ⟨by rw [hC]; exact Nat.ne_of_lt (Nat.lt_succ_of_lt hb), Nat.ne_of_lt hb⟩
  have old : ∀ b o, s.heap.get? b = some o → h₁.get? b = some o := fun b o e => hsb₁.extBut b o (below b (hd ▸ Heap.lt_size e)).1 (Heap.get?_push_of_some _ (hH2 ▸ Heap.get?_push_of_some _ e))
  have hacc : h₁.get? D = some (LCg.lst []) := hsb₁.extBut _ _ hDC.symm (Heap.get?_push_of_some _ (by rw [← hH2, ← hd]; exact Heap.get?_push_size _ rfl))
  have fresh₀ : ∀ a, D ≤ a → h₀.get? a = none := fun a ha => by
    cases e : h₀.get? a with
    | none => rfl
    | some o' => exact absurd (hd ▸ Heap.lt_size (F.keep a o' e)) (Nat.not_lt.mpr ha)
  have hD₀ : h₀.get? D = none := fresh₀ _ (Nat.le_refl _)
  have hC₀ : h₀.get? C = none := fresh₀ _ (by rw [hC]; exact Nat.le_succ _)
  have hLlt : L < D := hd ▸ F.ns.lt
  have hDL : D ≠ L := (below L hLlt).2.symm
  have hCL : C ≠ L := (below L hLlt).1.symm
  have hfp' : ∀ b ∈ fp, b ≠ C ∧ b ≠ D := fun b hb => below b (hd ▸ hfp b hb)
  have hnw : ∀ p ∈ news, p.1 ≠ C ∧ p.1 ≠ D := fun p hp => below _ (hd ▸ Heap.lt_size (N p hp).1)
  have hwC : C ∉ wr := fun h => (hfp' C (W.sub _ h)).1 rfl
  have hwD : D ∉ wr := fun h => (hfp' D (W.sub _ h)).2 rfl
  have step : ∀ {h h' : Heap}, (∀ b o, b ∉ wr → h.get? b = some o → h'.get? b = some o) → ∀ {ys}, Fr h₀ L h m → News h₀ L h ((D, LCg.lst ys) :: news) → Fr h₀ L h' m ∧ News h₀ L h' ((D, LCg.lst ys) :: news) := by
    intro h h' hk ys F' N'
    refine ⟨⟨F'.ns.at' fun o e => hk _ o hL e, fun b o e => hk b o (fun hb => by rw [hw b hb] at e; cases e) (F'.keep b o e), F'.above⟩, fun p hp => ⟨hk _ _ ?_ (N' p hp).1, (N' p hp).2⟩⟩
    rcases List.mem_cons.mp hp with rfl | hp
    · exact hwD
    · exact off p hp
  have loop : ∀ s₃ : Shared, (∃ tk, s₃ = { s with heap := h₁, toks := tk }) →
      codeAny (model prog w) A (.compLoop (.ListComp elt [⟨.Tuple [.Name x px, .Name x₂ px₂] tk0 tp, iter, [], 0⟩] scope pos) 0 (.ref I) (.ref D) (compEnvC scope cl C env)) (RR (.ref D) C) s₃ := by
    rintro s₃ ⟨tk3, rfl⟩
    refine LCp.codeAny_compLoop_pair
      (fun k s' => ∃ h' tk i m', s' = { s with heap := h', toks := tk } ∧ i ≤ n ∧ k = n + 1 - i ∧ St i h' ∧ Fr h₀ L h' m ∧ h'.Ns C m' ∧ News h₀ L h' ((D, LCg.lst (trues i)) :: news)) ?_ (n + 1)
      ⟨h₁, tk3, 0, _, rfl, Nat.zero_le _, rfl, W.frame _ _ _ hst fun b _ o e => old b o e, F.keeps old, hns₁, fun p hp => ?_⟩
    · rintro k s' ⟨h', tk, i, m', rfl, hi, rfl, hst', F', hn', N'⟩
      by_cases hlt : i < n
      · refine W.item i _ _ _ hlt hst' fun T vals h₂ tk₂ hPv hT hm₂ hk₂ => ?_
        obtain ⟨a, b, rfl, hel⟩ := el i vals hlt hPv
        obtain ⟨F₂, N₂⟩ := step hk₂ F' N'
        refine W.go _ _ _ i T _ _ _ hm₂ fun h₃ hst₃ hk₃ => ?_
        obtain ⟨F₃, N₃⟩ := step hk₃ F₂ N₂
        have hT₃ : IsTup h₃ T #[a, b] := hT.at fun o e => hk₃ T o (W.apart _ _ _ hm₂) e
        refine assign_Tuple_tuple hh hT₃ rfl rfl fun h₅ he => ?_
        have he' : ∀ b o, h₃.get? b = some o → h₅.get? b = some o := fun b o e => he b o (Nat.ne_of_lt (Heap.lt_size e)) e
        refine assignInOrder_cons (wpAny_assign_Name (wpAny_storeName_local (lookup_relabel_local hx) (((hn'.at' fun o e => hk₂ _ o hwC e).at' fun o e => hk₃ _ o hwC e).at' fun o e => he' _ o e) (fun h₆ hn₆ hs₆ => ?_) (by simp [compEnvC, relabel, hkind])))
        refine assignInOrder_cons (wpAny_assign_Name (wpAny_storeName_local (lookup_relabel_local hx₂) hn₆ (fun h₇ hn₇ hs₇ => ?_) (by simp [compEnvC, relabel, hkind])))
        refine assignInOrder_nil ?_
        have old7 : ∀ b o, b ≠ C → h₃.get? b = some o → h₇.get? b = some o := fun b o hb e => hs₇.extBut b o hb (hs₆.extBut b o hb (he' b o e))
        have hst₇ : St (i + 1) h₇ := W.frame _ _ _ hst₃ fun b hb o e => old7 b o (hfp' b hb).1 e
        have F₇ : Fr h₀ L h₇ m := ((F₃.keeps he').change hs₆ hCL hC₀).change hs₇ hCL hC₀
        have N₇ : News h₀ L h₇ ((D, LCg.lst (trues i)) :: news) := fun p hp => ⟨old7 _ _ (by
          rcases List.mem_cons.mp hp with rfl | hp
          · exact hDC.symm
          · exact (hnw p hp).1) (N₃ p hp).1, (N₃ p hp).2⟩
        obtain ⟨oC, heC, hoC⟩ := LCg.ns_obj hn₇
        have NC : News h₀ L h₇ ((C, oC) :: news) := fun p hp => by
          rcases List.mem_cons.mp hp with rfl | hp
          · exact ⟨heC, hCL, hC₀⟩
          · exact N₇ p (.tail _ hp)
        refine wpAny_mono (hel C oC _ h₇ _ _ hoC (by simp [hxx]) (by simp) F₇ NC) (fun y s₄ h₄ => ?_) fun _ _ e => e
        obtain ⟨rfl, tk₄, rfl⟩ := h₄
        refine append_at (hsz := by show (trues i).toArray.size ≤ sizeLine; rw [List.size_toArray, List.length_replicate, sizeLine_eq]; omega) (N₇ _ (.head _)).1 fun h₈ hs₈ hD₈ => ?_
        refine ⟨n + 1 - (i + 1), by omega, h₈, tk₄, i + 1, _, rfl, hlt, rfl, W.frame _ _ _ hst₇ fun b hb o e => hs₈.extBut b o (hfp' b hb).2 e, F₇.change hs₈ hDL hD₀, hn₇.sameBut hs₈ hDC, fun p hp => ?_⟩
        rcases List.mem_cons.mp hp with rfl | hp
        · refine ⟨hD₈.trans (congrArg some ?_), hDL, hD₀⟩
          show ({ cls := .type "list", data := .seq ((trues i).toArray.push (.bool true)) ((trues i).length + 1) } : Obj) = _
          rw [LCg.lst_snoc]
          congr 1
          exact (List.replicate_succ' (n := i) (a := Value.bool true)).symm
        · exact ⟨hs₈.extBut _ _ (hnw p hp).2 (N₇ p (.tail _ hp)).1, (N₇ p (.tail _ hp)).2⟩
      · obtain rfl : i = n := Nat.le_antisymm hi (Nat.not_lt.mp hlt)
        refine W.done _ _ _ hst' fun h₂ tk₂ hk₂ => ?_
        obtain ⟨F₂, N₂⟩ := step hk₂ F' N'
        exact hRR D C h₂ tk₂ _ F₂ N₂ (fun p hp => (hnw p hp).2) (hn'.at' fun o e => hk₂ _ o hwC e) hC₀ hCL hDC (fun p hp => (hnw p hp).1)
    · rcases List.mem_cons.mp hp with rfl | hp
      · exact ⟨hacc, hDL, hD₀⟩
      · exact ⟨old _ _ (N p hp).1, (N p hp).2⟩
  exact codeAny_compStart_list (loop _ ⟨_, rfl⟩) (W.self 0 _ _ _ (W.frame _ _ _ hst fun b _ o e => old b o e) (loop _ ⟨_, rfl⟩))
end
section
variable {prog : Program} {w : World} {A : Around} {E : Value → Shared → Prop} {s : Shared} {h₀ : Heap} {L : Addr} {m : Str → Option Value} {env : Env}
def ZipSrc (prog : Program) (w : World) (A : Around) (h₀ : Heap) (L : Addr) (m : Str → Option Value) (env : Env) (elt : PySem.Expr) (x x₂ : Str) (scope : Scope) (cl : List (Str × Addr)) (Q : Value → Shared → Prop) (xv : Value) (s₁ : Shared) : Prop :=
  ∃ (I : Addr) (fp wr : List Addr) (n : Nat) (Pt : Nat → Array Value → Prop) (Mid : Nat → Addr → Heap → Prop) (St : Nat → Heap → Prop) (news : List (Addr × Obj)), xv = .ref I ∧ WalksU prog w A I fp wr n Pt St Mid ∧ A.handled = none ∧ n ≤ 1000 ∧ St 0 s₁.heap ∧ (∀ b ∈ fp, b < s₁.heap.objs.size) ∧
    Fr h₀ L s₁.heap m ∧ News h₀ L s₁.heap news ∧ L ∉ wr ∧ (∀ b ∈ wr, h₀.get? b = none) ∧ (∀ p ∈ news, p.1 ∉ wr) ∧ (∀ i vals, i < n → Pt i vals → ∃ a b, vals = #[a, b] ∧ TrueAt prog w A h₀ L m env elt x x₂ scope cl s₁ news a b) ∧
    ∀ D h tk, Fr h₀ L h m → News h₀ L h ((D, LCg.lst (trues n)) :: news) → (∀ p ∈ news, p.1 ≠ D) → Q (.ref D) { s₁ with heap := h, toks := tk }
theorem ListComp_Z {elt iter : PySem.Expr} {x x₂ : Str} {px px₂ tp : Pos} {tk} {scope : Scope} {cl : List (Str × Addr)} {pos : Pos} {Q : Value → Shared → Prop} (F₀ : Fr h₀ L s.heap m)
    (hclos : closureFor scope env = pure cl) (hcell : ∀ y ∈ scope.names, y.2 ≠ .cell) (hkind : scope.kind = .function)
    (hnames : ∀ y ∈ scope.names, y.2 = .local → scope.names.lookup y.1 = some .local) (hx : scope.names.lookup x = some .local) (hx₂ : scope.names.lookup x₂ = some .local) (hxx : x ≠ x₂)
    (h : wpAny (model prog w) A (eval iter env) (ZipSrc prog w A h₀ L m env elt x x₂ scope cl Q) E s)
    (hs : ∀ x, foldedSetIterable iter env x = pure x := by intro _; rfl) :
    wpAny (model prog w) A (eval (.ListComp elt [⟨.Tuple [.Name x px, .Name x₂ px₂] tk tp, iter, [], 0⟩] scope pos) env) Q E s := by
  rw [eval_ListComp]
  refine wpAny_comprehension_free (use := none) rfl hs hclos hkind hnames (wpAny_mono h (fun xv s₁ h₁ => ?_) fun _ _ e => e)
  obtain ⟨I, fp, wr, n, Pt, Mid, St, news, rfl, W, hh, hsz, hst, hfp, F, N, hL, hw, off, el, fin⟩ := h₁
  refine W.self 0 _ _ _ hst ?_
  refine block_Z W hh hsz hcell hkind hx hx₂ hxx hst hfp F N hL hw off el ?_
  intro D C h tk m' F' N' o1 hn hC₀ hCL hCD offC
  refine ⟨m', hn, fun h'' hs'' => fin D h'' tk (F'.change hs'' hCL hC₀) (fun p hp => ?_) o1⟩
  refine ⟨hs''.extBut _ _ ?_ (N' p hp).1, (N' p hp).2⟩
  rcases List.mem_cons.mp hp with rfl | hp
  · exact Ne.symm hCD
  · exact offC p hp
theorem zip_src {elt : PySem.Expr} {x x₂ : Str} {scope : Scope} {cl : List (Str × Addr)} {Q : Value → Shared → Prop} {l1 l2 : Addr} {xs ys : List Value} {n1 n2 : Nat} {news : List (Addr × Obj)}
    (hh : A.handled = none) (F : Fr h₀ L s.heap m) (N : News h₀ L s.heap news) (hm1 : (l1, listO xs.toArray n1) ∈ news) (hm2 : (l2, listO ys.toArray n2) ∈ news) (hl : xs.length = ys.length) (hz : xs.length ≤ 1000)
    (el : ∀ (g : Heap) (i : Nat) (a b : Value), xs[i]? = some a → ys[i]? = some b → TrueAt prog w A h₀ L m env elt x x₂ scope cl { s with heap := g } news a b)
    (fin : ∀ D h tk, Fr h₀ L h m → News h₀ L h ((D, LCg.lst (trues xs.length)) :: news) → (∀ p ∈ news, p.1 ≠ D) → Q (.ref D) { s with heap := h, toks := tk }) :
    wpAny (model prog w) A (call (.type "zip") [.ref l1, .ref l2]) (ZipSrc prog w A h₀ L m env elt x x₂ scope cl Q) E s := by
  have hax1 := N _ hm1
  have hax2 := N _ hm2
  have hl1 : s.heap.IsList l1 xs.toArray := N.isList hm1
  have hl2 : s.heap.IsList l2 ys.toArray := N.isList hm2
  have hlt1 : l1 < s.heap.objs.size := Heap.lt_size hax1.1
  have hlt2 : l2 < s.heap.objs.size := Heap.lt_size hax2.1
  have hLs : L < s.heap.objs.size := F.ns.lt
  have D : ZipApart (s.heap.objs.size + 4) (s.heap.objs.size + 2) (s.heap.objs.size + 3) s.heap.objs.size (s.heap.objs.size + 1) l1 l2 := ktu_apart _ _ _ hlt1 hlt2
  refine call_zip_2 hl1 hl2 fun h' hz' hTI hTO hi1 hi2 hsz hk => ?_
  have hmin : min xs.toArray.size ys.toArray.size = xs.length := by simp [hl]
  have W := (WalksT.zip2 (prog := prog) (w := w) hh _ _ _ _ _ _ _ D xs.toArray ys.toArray).toU
  rw [hmin] at W
  have nlt : ∀ k b, b < s.heap.objs.size → b ≠ s.heap.objs.size + k := fun k b hb => Nat.ne_of_lt (Nat.lt_of_lt_of_le hb (Nat.le_add_right _ _))
  have nw : ∀ b, b < s.heap.objs.size → b ∉ [s.heap.objs.size + 4, s.heap.objs.size + 3, s.heap.objs.size, s.heap.objs.size + 1] := fun b hb hm => by
    simp only [List.mem_cons, List.not_mem_nil, or_false] at hm
    rcases hm with e | e | e | e
    · exact nlt 4 b hb e
    · exact nlt 3 b hb e
    · exact nlt 0 b hb e
    · exact nlt 1 b hb e
  refine ⟨_, _, _, _, _, _, _, news, rfl, W, hh, hz, ?_, ?_, F.keeps hk, N.grown hk, nw _ hLs, ?_, fun p hp => nw _ (Heap.lt_size (N p hp).1), ?_, fun D h tk F' N' o => fin D h tk F' N' o⟩
  · exact ⟨hz', hTI, ⟨_, _, hTO⟩, hi1, hi2, hl1.at fun o e => hk _ o e, hl2.at fun o e => hk _ o e⟩
  · intro b hb
    show b < h'.objs.size
    rw [hsz]
    simp only [List.mem_cons, List.not_mem_nil, or_false] at hb
    rcases hb with rfl | rfl | rfl | rfl | rfl | rfl | rfl
    · exact Nat.add_lt_add_left (by decide) _
    · exact Nat.add_lt_add_left (by decide) _
    · exact Nat.add_lt_add_left (by decide) _
    · exact Nat.lt_add_of_pos_right (by decide)
    · exact Nat.add_lt_add_left (by decide) _
    · exact Nat.lt_of_lt_of_le hlt1 (Nat.le_add_right _ _)
    · exact Nat.lt_of_lt_of_le hlt2 (Nat.le_add_right _ _)
  · intro b hb
    simp only [List.mem_cons, List.not_mem_nil, or_false] at hb
    rcases hb with rfl | rfl | rfl | rfl
    · exact ktu_new F (Nat.le_add_right _ _)
    · exact ktu_new F (Nat.le_add_right _ _)
    · exact ktu_new F (Nat.le_refl _)
    · exact ktu_new F (Nat.le_add_right _ _)
  · rintro i vals hi ⟨x, y, hx, hy, rfl⟩
    exact ⟨x, y, rfl, el h' i x y (by simpa using hx) (by simpa using hy)⟩
end
end

section
-- part L7a
open PySem PySem.W PyProof.Rows PySem.Spec in
theorem turn_L7a {p : Program} {w : World} {A : Around} {en : Env} {Q : Flow → Shared → Prop} {E : Value → Shared → Prop} {s : Shared} (h : Q .next s) : wpAny (model p w) A (execs [] en) Q E s := by
  w_top off
  walk1
  exact h
open PySem PySem.W PyProof.Rows PySem.Calls PyProof.V PySem.Spec

def forB : Stmt → List Stmt
  | .For _ _ b _ _ => b
  | _ => []
def lawTu (P : Params) (i : Nat) : Stmt := (forB (lawSt P 12)).getD i (.Pass ⟨0, 0, 0, 0⟩)
section
variable {prog : Program} {w : World} {A : Around} {E : Value → Shared → Prop} {s : Shared} {h₀ : Heap} {L D : Addr} {news : List (Addr × Obj)} {n : Nat} {Q : Value → Shared → Prop}
theorem dictI_T {value slice : PySem.Expr} {o : Obj} {kvs : List (Int × Value)} {j : Int} {t : Tok} {v : Value} (N : News h₀ L s.heap news) (hm : (D, o) ∈ news) (hd : o.IsDictOf (PySem.intKind prog w) kvs) (hx : valueAt kvs j = some v) (h : Q v { s with toks := s.toks + 1 })
    (hs : subscripted slice false (.ref D) (.int j t) = operate [.ref D, .int j t] (getItem (.ref D) (.int j t)) := by with_unfolding_all rfl) (hg : ∀ r, letTemporaryGo value (.ref D) r = pure () := by intro _; with_unfolding_all rfl) :
    wpAny (model prog w) A (subscriptTail value slice (.ref D) (.int j t)) Q E s :=
  kda_item N hm hd (intKind_is _ _ _ _) hx h hs hg
end
theorem tr_lay : ∀ n : Nat, PyData.canLayAll0 (List.replicate n (.bool true)) = true
  | 0 => rfl
  | n + 1 => by rw [List.replicate_succ]; simp [PyData.canLayAll0, PyData.canLay0, tr_lay n]
theorem tr_depth : ∀ n : Nat, PyData.depthAll (List.replicate n (.bool true)) = 0
  | 0 => rfl
  | n + 1 => by rw [List.replicate_succ]; simp [PyData.depthAll, PyData.depth, tr_depth n]
theorem tr_shaped (n : Nat) : SeqAt.shaped (.list (List.replicate n (.bool true))) = true := by simp [SeqAt.shaped, PyData.canLay0, PyData.depth, tr_lay, tr_depth]
theorem tr_same : ∀ n : Nat, PySem.Spec.sameAll (List.replicate n (.bool true)) (List.replicate n (.bool true)) = true
  | 0 => by simp [PySem.Spec.sameAll]
  | n + 1 => by simp only [List.replicate_succ, PySem.Spec.sameAll, PySem.Spec.same, tr_same n]; rfl
theorem tr_carried : ∀ n : Nat, CarriedAll (trues n) (List.replicate n (.bool true))
  | 0 => .nil
  | n + 1 => .cons (.bool _) (tr_carried n)
theorem tr_has (n : Nat) : (Shape.list Shape.bool).has (.list (List.replicate n (.bool true))) = true := list_has fun x hx => by rw [List.eq_of_mem_replicate hx]; rfl
theorem fold_tr (n : Nat) : List.foldl (fun x1 x2 => x1 ++ x2) (#[] : Array Value) (List.replicate n #[Value.bool true]) = (trues n).toArray := by
  have h : ∀ (n : Nat) (a : Array Value), List.foldl (fun x1 x2 => x1 ++ x2) a (List.replicate n #[Value.bool true]) = a ++ (trues n).toArray := by
    intro n
    induction n with
    | zero => intro a; simp
    | succ n ih => intro a; rw [List.replicate_succ, List.foldl_cons, ih, show trues (n + 1) = Value.bool true :: trues n from rfl]; apply Array.ext'; simp
  rw [h]
  simp
section
variable {prog : Program} {w : World} {A : Around} {E : Value → Shared → Prop} {s : Shared} {h₀ : Heap} {L D a b : Addr} {m : Str → Option Value} {news : List (Addr × Obj)} {n n' k : Nat} {Q : Value → Shared → Prop}
theorem mulT_K {u : Tok} (F : Fr h₀ L s.heap m) (N : News h₀ L s.heap news) (hm : (D, listO #[.bool true] k) ∈ news) (hn : n ≤ 1000) (h : ∀ D' h', Fr h₀ L h' m → News h₀ L h' ((D', listO (trues n).toArray 0) :: news) → Q (.ref D') { s with heap := h' }) :
    wpAny (model prog w) A (binaryOp .Mult (.ref D) (.int (n : Int) u)) Q E s := by
  refine mul_list F N (N _ hm).1 (by omega) (by omega) (by simp; omega) fun h' F' N' => h _ h' F' ?_
  have e : (if (#[Value.bool true] : Array Value).isEmpty = true then 0 else (n : Int).toNat) = n := by simp
  rw [e, fold_tr] at N'
  exact N'
theorem neT_K (N : News h₀ L s.heap news) (ha : (a, LCg.lst (trues n)) ∈ news) (hb : (b, listO (trues n').toArray k) ∈ news) (e : n' = n) (hu : A.units + 64 < cLine) (h : Q (.bool false) s) :
    wpAny (model prog w) A (compareOp .NotEq (.ref a) (.ref b)) Q E s := by
  subst e
  refine ne_dataH_same (reads_newData (N.isList ha) (tr_carried n')) (reads_newData (N.isList hb) (tr_carried n')) (tr_shaped _) (tr_shaped _) hu (SeqAt.noMix_of_shape (.list .bool) rfl _ _ (tr_has _) (tr_has _)) ?_
  have e : PySem.Spec.same (.list (List.replicate n' (.bool true))) (.list (List.replicate n' (.bool true))) = true := by
    simp only [PySem.Spec.same]
    exact tr_same n'
  rw [e]
  exact h
end
end

section
-- part L7
open PySem PySem.W PyProof.Rows PySem.Spec in
theorem turn_L7 {p : Program} {w : World} {A : Around} {en : Env} {Q : Flow → Shared → Prop} {E : Value → Shared → Prop} {s : Shared} (h : Q .next s) : wpAny (model p w) A (execs [] en) Q E s := by
  w_top off
  walk1
  exact h
open PySem PySem.W PyProof.Rows PySem.Calls PyProof.V PySem.Spec

local macro_rules | `(tactic| walk_at "eval ListComp") => `(tactic| (k_here; k_dflt (refine ListComp_Z (F₀ := by k_asm) (by with_unfolding_all rfl) (by decide) (by rfl) (by decide) (by rfl) (by rfl) (by decide) ?_)))
local macro_rules | `(tactic| walk_at "call type:zip") => `(tactic| refine hold_of ?_)
local macro_rules | `(tactic| walk_at "subscriptTail") => `(tactic| (k_here; (with_reducible show wpAny _ _ (subscriptTail _ _ (Value.ref _) (Value.int _ _)) _ _ _); k_dflt (refine' dictI_T ?N ?m ?d ?x ?_; (case N => k_asm); (case m => k_mem); (case d => with_reducible assumption); (case x => with_reducible assumption); k_whole)))
local macro_rules | `(tactic| walk_at "binaryOp Mult ref int") => `(tactic| (k_here; (with_reducible show wpAny _ _ (binaryOp Operator.Mult (Value.ref _) (Value.int _ _)) _ _ _); k_dflt (refine' mulT_K ?F ?N ?m ?z ?_; (case F => k_asm); (case N => k_asm); (case m => k_mem); (case z => walk_at "lenfact"); k_whole); intro D' h' F' N'))
local macro_rules | `(tactic| walk_at "compareOp NotEq ref ref") => `(tactic| (k_here; (with_reducible show wpAny _ _ (compareOp CmpOp.NotEq (Value.ref _) (Value.ref _)) _ _ _); k_dflt (refine' neT_K ?N ?a ?b ?e ?u ?_; (case N => k_asm); (case a => k_mem); (case b => k_mem); (case e => (simp only [List.length_map]; omega)); (case u => (dsimp only [lawA, kTop]; omega)); k_whole)))
section
variable {prog : Program} {w : World}
theorem checkP_st {p : Program} {loose : List Str} {mean : ExcName → Option Value} {mg mb : Str → Option Value} {dp un : Nat} {gd : Option (List Code)} {a : Addr} {ccd : Value} {A₀ : Around} {base h₀ : Heap} {L c1 c2 c3 tn td pq gq pu ask e : Addr} {m : Str → Option Value} {s : Shared} {Q : Flow → Shared → Prop} {E : Value → Shared → Prop} {o2 oa : Obj} {room level : Int} {r1 r2 r3 r4 r5 v1 v2 : Tok} {W : List WE} {P : List Tp} {np kp : Nat} {kA : List (Int × Value)} {tl : List (Addr × Obj)}
    (B : Below A₀ base [] h₀) (F : Fr h₀ L s.heap m) (XB : (Mine.kk.heap_1 w.params).In base) (TB : Top p loose mean mg mb base) (C : CodeHd base 979 975) (hdp : dp + 300 < recursionLimit) (hun : un + 2000 < cLine)
    (mt : m (Str.ofString "tank") = some (.ref tn)) (mp : m (Str.ofString "puts") = some (.ref pu))
    (N : News h₀ L s.heap ((tn, instObj 929 td) :: (td, tankO w e pq gq room level r1 r2 r3 r4 r5 v1 v2) :: (pq, wqO W np) :: (pu, lsT P kp) :: (c2, o2) :: (ask, oa) :: tl)) (d2 : o2.data = .cell (some (.ref ask))) (da : oa.IsDictOf (PySem.intKind prog w) kA)
    (hl : W.length = P.length) (hz : P.length ≤ 7) (hP : ∀ t ∈ P, t.row ∈ tl) (hA : ∀ (i : Nat) (x : WE) (t : Tp), W[i]? = some x → P[i]? = some t → valueAt kA t.n = some (.ref x.e))
    (ret : ∀ (h' : Heap) (tk' : Nat), Fr h₀ L h' m → News h₀ L h' ((tn, instObj 929 td) :: (td, tankO w e pq gq room level r1 r2 r3 r4 r5 v1 v2) :: (pq, wqO W np) :: (pu, lsT P kp) :: (c2, o2) :: (ask, oa) :: tl) → Q .next { s with heap := h', toks := tk' }) :
    wpAny (model prog w) (lawA w.params dp un gd c1 c2 c3 L a ccd) (exec (lawTu w.params 5) (lawE w.params c1 c2 c3 L a ccd)) Q E s := by
  refine Mine.go_of ?_
  simp (disch := k_dflt (
  have X := XB.keeps B.stays
  have T := TB.keeps B.stays
  have hk := lawS_kind w.params
  (with_unfolding_all show wpAny _ _ (exec (Stmt.If _ _ _ _) _) _ _ _)
  have F0 := fr_chain [(Str.ofString "tank", .ref tn), (Str.ofString "puts", .ref pu)] F ⟨mt, mp, trivial⟩
  have mE := chain_eq (l := [(Str.ofString "tank", .ref tn), (Str.ofString "puts", .ref pu)]) (m := m) ⟨mt, mp, trivial⟩
  dsimp only [chain] at F0
  k_steps
  unfold Hold
  refine zip_src (xs := W.map fun x => Value.ref x.e) (ys := P.map fun t => Value.ref t.a) (by rfl) (by assumption) (by assumption) (.tail _ (.tail _ (.head _))) (.tail _ (.tail _ (.tail _ (.head _)))) (by rw [List.length_map, List.length_map, hl]) (by rw [List.length_map]; omega) ?el ?fin
  case el =>
    intro g i v1 v2 hx hy C oC m2 h tk E' hC m1 m2' F1 N1
    rw [List.getElem?_map] at hx hy
    obtain ⟨x, hx9, rfl⟩ := Option.map_eq_some_iff.mp hx
    obtain ⟨t, ht9, rfl⟩ := Option.map_eq_some_iff.mp hy
    have hv := hA i x t hx9 ht9
    have htr := hP t (List.mem_of_getElem? ht9)
    have N2 := news_rows N1 (l' := (C, oC) :: t.row :: (c2, o2) :: (ask, oa) :: tl) (an_cons (.head _) (an_cons (.tail _ (.tail _ (.tail _ (.tail _ (.tail _ (.tail _ (.tail _ htr))))))) fun p hp => .tail _ (.tail _ (.tail _ (.tail _ (.tail _ hp))))))
    clear N1
    k_steps
    unfold Hold
    exact ⟨_, rfl⟩
  case fin =>
    intro D h tk F1 N1 o1
    rw [List.length_map] at N1
    k_steps
    · exfalso
      rename _ ≠ _ => hb
      simp [hl] at hb
    · rename News _ _ _ _ => N9
      rename Fr _ _ _ _ => F9
      rw [show (fun z => if z = Str.ofString "tank" then some (Value.ref tn) else if z = Str.ofString "puts" then some (Value.ref pu) else m z) = m from mE] at F9
      exact ret _ _ F9 (news_rows N9 (by walk_at "subl")))) only [↓Mine.go_eq]
end
end

section
-- part L7g
open PySem PySem.W PyProof.Rows PySem.Spec in
theorem turn_L7g {p : Program} {w : World} {A : Around} {en : Env} {Q : Flow → Shared → Prop} {E : Value → Shared → Prop} {s : Shared} (h : Q .next s) : wpAny (model p w) A (execs [] en) Q E s := by
  w_top off
  walk1
  exact h
open PySem PySem.W PyProof.Rows PySem.Calls PyProof.V PySem.Spec

local macro_rules | `(tactic| walk_at "eval ListComp") => `(tactic| (k_here; k_dflt (refine ListComp_Z (F₀ := by k_asm) (by with_unfolding_all rfl) (by decide) (by rfl) (by decide) (by rfl) (by rfl) (by decide) ?_)))
local macro_rules | `(tactic| walk_at "call type:zip") => `(tactic| refine hold_of ?_)
local macro_rules | `(tactic| walk_at "subscriptTail") => `(tactic| (k_here; (with_reducible show wpAny _ _ (subscriptTail _ _ (Value.ref _) (Value.int _ _)) _ _ _); k_dflt (refine' dictI_T ?N ?m ?d ?x ?_; (case N => k_asm); (case m => k_mem); (case d => with_reducible assumption); (case x => with_reducible assumption); k_whole)))
local macro_rules | `(tactic| walk_at "binaryOp Mult ref int") => `(tactic| (k_here; (with_reducible show wpAny _ _ (binaryOp Operator.Mult (Value.ref _) (Value.int _ _)) _ _ _); k_dflt (refine' mulT_K ?F ?N ?m ?z ?_; (case F => k_asm); (case N => k_asm); (case m => k_mem); (case z => walk_at "lenfact"); k_whole); intro D' h' F' N'))
local macro_rules | `(tactic| walk_at "compareOp NotEq ref ref") => `(tactic| (k_here; (with_reducible show wpAny _ _ (compareOp CmpOp.NotEq (Value.ref _) (Value.ref _)) _ _ _); k_dflt (refine' neT_K ?N ?a ?b ?e ?u ?_; (case N => k_asm); (case a => k_mem); (case b => k_mem); (case e => (simp only [List.length_map]; omega)); (case u => (dsimp only [lawA, kTop]; omega)); k_whole)))
section
variable {prog : Program} {w : World}
theorem checkG_st {p : Program} {loose : List Str} {mean : ExcName → Option Value} {mg mb : Str → Option Value} {dp un : Nat} {gd : Option (List Code)} {a : Addr} {ccd : Value} {A₀ : Around} {base h₀ : Heap} {L c1 c2 c3 tn td pq gq pu ask e : Addr} {m : Str → Option Value} {s : Shared} {Q : Flow → Shared → Prop} {E : Value → Shared → Prop} {o2 oa : Obj} {room level : Int} {r1 r2 r3 r4 r5 v1 v2 : Tok} {W : List WE} {P : List Tp} {np kp : Nat} {kA : List (Int × Value)} {tl : List (Addr × Obj)}
    (B : Below A₀ base [] h₀) (F : Fr h₀ L s.heap m) (XB : (Mine.kk.heap_1 w.params).In base) (TB : Top p loose mean mg mb base) (C : CodeHd base 979 975) (hdp : dp + 300 < recursionLimit) (hun : un + 2000 < cLine)
    (mt : m (Str.ofString "tank") = some (.ref tn)) (mp : m (Str.ofString "gets") = some (.ref pu))
    (N : News h₀ L s.heap ((tn, instObj 929 td) :: (td, tankO w e pq gq room level r1 r2 r3 r4 r5 v1 v2) :: (gq, wqO W np) :: (pu, lsT P kp) :: (c2, o2) :: (ask, oa) :: tl)) (d2 : o2.data = .cell (some (.ref ask))) (da : oa.IsDictOf (PySem.intKind prog w) kA)
    (hl : W.length = P.length) (hz : P.length ≤ 7) (hP : ∀ t ∈ P, t.row ∈ tl) (hA : ∀ (i : Nat) (x : WE) (t : Tp), W[i]? = some x → P[i]? = some t → valueAt kA t.n = some (.ref x.e))
    (ret : ∀ (h' : Heap) (tk' : Nat), Fr h₀ L h' m → News h₀ L h' ((tn, instObj 929 td) :: (td, tankO w e pq gq room level r1 r2 r3 r4 r5 v1 v2) :: (gq, wqO W np) :: (pu, lsT P kp) :: (c2, o2) :: (ask, oa) :: tl) → Q .next { s with heap := h', toks := tk' }) :
    wpAny (model prog w) (lawA w.params dp un gd c1 c2 c3 L a ccd) (exec (lawTu w.params 6) (lawE w.params c1 c2 c3 L a ccd)) Q E s := by
  refine Mine.go_of ?_
  simp (disch := k_dflt (
  have X := XB.keeps B.stays
  have T := TB.keeps B.stays
  have hk := lawS_kind w.params
  (with_unfolding_all show wpAny _ _ (exec (Stmt.If _ _ _ _) _) _ _ _)
  have F0 := fr_chain [(Str.ofString "tank", .ref tn), (Str.ofString "gets", .ref pu)] F ⟨mt, mp, trivial⟩
  have mE := chain_eq (l := [(Str.ofString "tank", .ref tn), (Str.ofString "gets", .ref pu)]) (m := m) ⟨mt, mp, trivial⟩
  dsimp only [chain] at F0
  k_steps
  unfold Hold
  refine zip_src (xs := W.map fun x => Value.ref x.e) (ys := P.map fun t => Value.ref t.a) (by rfl) (by assumption) (by assumption) (.tail _ (.tail _ (.head _))) (.tail _ (.tail _ (.tail _ (.head _)))) (by rw [List.length_map, List.length_map, hl]) (by rw [List.length_map]; omega) ?el ?fin
  case el =>
    intro g i v1 v2 hx hy C oC m2 h tk E' hC m1 m2' F1 N1
    rw [List.getElem?_map] at hx hy
    obtain ⟨x, hx9, rfl⟩ := Option.map_eq_some_iff.mp hx
    obtain ⟨t, ht9, rfl⟩ := Option.map_eq_some_iff.mp hy
    have hv := hA i x t hx9 ht9
    have htr := hP t (List.mem_of_getElem? ht9)
    have N2 := news_rows N1 (l' := (C, oC) :: t.row :: (c2, o2) :: (ask, oa) :: tl) (an_cons (.head _) (an_cons (.tail _ (.tail _ (.tail _ (.tail _ (.tail _ (.tail _ (.tail _ htr))))))) fun p hp => .tail _ (.tail _ (.tail _ (.tail _ (.tail _ hp))))))
    clear N1
    k_steps
    unfold Hold
    exact ⟨_, rfl⟩
  case fin =>
    intro D h tk F1 N1 o1
    rw [List.length_map] at N1
    k_steps
    · exfalso
      rename _ ≠ _ => hb
      simp [hl] at hb
    · rename News _ _ _ _ => N9
      rename Fr _ _ _ _ => F9
      rw [show (fun z => if z = Str.ofString "tank" then some (Value.ref tn) else if z = Str.ofString "gets" then some (Value.ref pu) else m z) = m from mE] at F9
      exact ret _ _ F9 (news_rows N9 (by walk_at "subl")))) only [↓Mine.go_eq]
end
end

section
-- part L8
open PySem PySem.W PyProof.Rows PySem.Spec in
theorem turn_L8 {p : Program} {w : World} {A : Around} {en : Env} {Q : Flow → Shared → Prop} {E : Value → Shared → Prop} {s : Shared} (h : Q .next s) : wpAny (model p w) A (execs [] en) Q E s := by
  w_top off
  walk1
  exact h
open PySem PySem.W PyProof.Rows PySem.Calls PyProof.V PySem.Spec

local macro_rules | `(tactic| walk_at "pyIter ref") => `(tactic| refine hold_of ?_)
local macro_rules | `(tactic| walk_at "exec For Name Name cons nil") => `(tactic| refine hold_of ?_)
local macro_rules | `(tactic| walk_at "Exists") => `(tactic| refine hold_of ?_)
local macro_rules | `(tactic| walk_at "setItem ref int") => `(tactic| (k_here; (with_reducible show wpAny _ _ (setItem (Value.ref _) (Value.int _ _) _) _ _ _); k_dflt (refine' kda_set (knd := PySem.intKind _ _) ?F ?N ?U ?d ?k ?z ?_; (case F => k_asm); (case N => k_asm); (case U => k_updF); (case d => with_reducible assumption); (case k => exact intKind_is _ _ _ _); (case z => (rw [sizeLine_eq]; omega)); k_whole); intro h' o' F' N' d'; (try dsimp only at N')))
section
variable {prog : Program} {w : World}
theorem due_st {p : Program} {loose : List Str} {mean : ExcName → Option Value} {mg mb : Str → Option Value} {dp un : Nat} {gd : Option (List Code)} {a : Addr} {ccd : Value} {A₀ : Around} {base h₀ : Heap} {L c1 c2 c3 sv du : Addr} {m : Str → Option Value} {s : Shared} {Q : Flow → Shared → Prop} {E : Value → Shared → Prop} {o3 od : Obj} {S : List (Int × Tok)} {ns : Nat} {kD : List (Int × Value)} {r : Int} {tp : Tok} {tl : List (Addr × Obj)}
    (B : Below A₀ base [] h₀) (F : Fr h₀ L s.heap m) (XB : (Mine.kk.heap_1 w.params).In base) (TB : Top p loose mean mg mb base) (C : CodeHd base 979 975) (hdp : dp + 300 < recursionLimit) (hun : un + 2000 < cLine)
    (ms : m (Str.ofString "served") = some (.ref sv)) (mp : m (Str.ofString "place") = some (.int r tp)) (nd : ([sv, du, c3] ++ tl.map (·.1)).Nodup)
    (N : News h₀ L s.heap ((sv, lsI S ns) :: (du, od) :: (c3, o3) :: tl)) (d3 : o3.data = .cell (some (.ref du))) (dd : od.IsDictOf (PySem.intKind prog w) kD) (hS : S.length ≤ 8) (hD : kD.length ≤ 7) (hnd : (S.map (·.1)).Nodup) (hfr : ∀ x ∈ S, valueAt kD x.1 = none)
    (hE : PassesOwn (model prog w) (lawA w.params dp un gd c1 c2 c3 L a ccd) (lawE w.params c1 c2 c3 L a ccd) E)
    (ret : ∀ (od' : Obj) (kD' : List (Int × Value)) (m' : Str → Option Value) (h' : Heap) (tk' : Nat), od'.IsDictOf (PySem.intKind prog w) kD' → (∀ n ∈ S.map (·.1), ∃ u, valueAt kD' n = some (.int (r + 1) u)) → (∀ n, n ∉ S.map (·.1) → valueAt kD' n = valueAt kD n) → kD'.length = kD.length + S.length →
      (∀ z, z ≠ Str.ofString "one" → m' z = m z) → Fr h₀ L h' m' → News h₀ L h' ((sv, lsI S ns) :: (du, od') :: (c3, o3) :: tl) → Q .next { s with heap := h', toks := tk' }) :
    wpAny (model prog w) (lawA w.params dp un gd c1 c2 c3 L a ccd) (exec (lawTu w.params 2) (lawE w.params c1 c2 c3 L a ccd)) Q E s := by
  refine Mine.go_of ?_
  simp (disch := k_dflt (
  have X := XB.keeps B.stays
  have T := TB.keeps B.stays
  have hk := lawS_kind w.params
  have F0 := F
  (with_unfolding_all show wpAny _ _ (exec (Stmt.For _ _ _ _ _) _) _ _ _)
  (with_unfolding_all refine' For_turns F ?_ ?hs ?hE)
  case hs => intro _; with_unfolding_all rfl
  case hE => exact hE
  replace F := fr_chain [(Str.ofString "served", .ref sv), (Str.ofString "place", .int r tp)] F ⟨ms, mp, trivial⟩
  dsimp only [chain] at F
  k_steps
  unfold Hold
  refine iter_listTurns (n := ns) (by rfl) (by assumption) (by assumption) (.head _) rfl rfl fun I hI => ?_
  refine items_one (fun xs m' nw => ∃ (d r1 : List (Int × Tok)) (od' : Obj) (kD' : List (Int × Value)), S = d ++ r1 ∧ xs = (r1.map fun x => Value.int x.1 x.2).map .val ∧ od'.IsDictOf (PySem.intKind prog w) kD' ∧ (∀ n ∈ d.map (·.1), ∃ u, valueAt kD' n = some (.int (r + 1) u)) ∧ (∀ n, n ∉ d.map (·.1) → valueAt kD' n = valueAt kD n) ∧ kD'.length = kD.length + d.length ∧ (∀ z, z ≠ Str.ofString "one" → m' z = m z) ∧ nw = (sv, lsI S ns) :: (du, od') :: (c3, o3) :: tl) ?turn ?done _ _ _ ⟨[], S, od, kD, rfl, rfl, dd, (by intro _ h; exact nomatch h), fun _ _ => rfl, rfl, ?m0, rfl⟩ (fun p hp => Nat.ne_of_lt (hI p hp))
  case m0 => exact fun z _ => congrFun (chain_eq (l := [(Str.ofString "served", .ref sv), (Str.ofString "place", .int r tp)]) ⟨ms, mp, trivial⟩) z
  case done =>
    rintro m' nw h tk ⟨d, r1, od', kD', hS1, hxs, h1, h2, h3, h4, hm, rfl⟩ F N
    have : r1 = [] := by
      cases r1 with
      | nil => rfl
      | cons x r1 => exact nomatch hxs
    subst this
    rw [List.append_nil] at hS1
    subst hS1
    exact ret od' kD' m' h tk h1 h2 h3 h4 hm F N
  case turn =>
    rintro v r2 m' nw ⟨d, r1, od', kD', hS1, hxs, h1, h2, h3, h4, hm, rfl⟩ v1 h tk o hv ho F N off
    cases r1 with
    | nil => exact nomatch hxs
    | cons x r1 =>
      injection hxs with e1 e2
      subst e1 e2
      have hv : v1 = .int x.1 x.2 := hv
      subst hv
      have nd' := nd
      simp only [List.cons_append, List.nil_append] at nd'
      walk_at "nd"
      have i1 : I ≠ du := Ne.symm (off _ (.tail _ (.head _)))
      have hdl := congrArg List.length hS1
      simp only [List.length_append, List.length_cons] at hdl
      replace F := fr_chain [(Str.ofString "served", .ref sv), (Str.ofString "place", .int r tp)] F ⟨(hm _ (by decide)).trans ms, (hm _ (by decide)).trans mp, trivial⟩
      dsimp only [chain] at F
      k_steps
      unfold Hold
      rename News _ _ _ _ => N9
      rename Fr _ _ _ _ => F9
      rename Obj.IsDictOf _ _ _ => d9
      have hxn : x.1 ∉ d.map (·.1) := fun hx => by
        rw [hS1, List.map_append, List.map_cons, List.nodup_append] at hnd
        exact hnd.2.2 _ hx _ (.head _) rfl
      have hv9 : valueAt kD' x.1 = none := by
        rw [h3 _ hxn]
        exact hfr x (by rw [hS1]; exact List.mem_append_right _ (.head _))
      refine ⟨_, _, _, _, rfl, F9, news_rows N9 ?sub, ?off, ?keep, d ++ [x], r1, _, _, by rw [hS1]; simp, rfl, d9, ?g2, ?g3, ?g4, ?hm, rfl⟩
      case sub => exact fun _ h => h
      case off =>
        refine an_cons (show sv ≠ I from off _ (.head _)) (an_cons (show du ≠ I from off _ (.tail _ (.head _))) fun p hp => off p (.tail _ (.tail _ hp)))
      case keep => exact ⟨.head _, trivial⟩
      case g2 =>
        intro n hn
        rw [valueAt_app hv9]
        rw [List.map_append, List.mem_append] at hn
        by_cases e : n = x.1
        · rw [if_pos e]
          exact ⟨_, rfl⟩
        · rw [if_neg e]
          rcases hn with hn | hn
          · exact h2 n hn
          · exact absurd (List.mem_singleton.mp hn) e
      case g3 =>
        intro n hn
        rw [List.map_append, List.mem_append, not_or] at hn
        rw [valueAt_app hv9, if_neg fun e => hn.2 (by rw [e]; exact .head _)]
        exact h3 n hn.1
      case g4 => rw [length_app hv9, h4, List.length_append]; rfl
      case hm =>
        intro z hz
        show (if z = Str.ofString "one" then _ else chain [(Str.ofString "served", .ref sv), (Str.ofString "place", .int r tp)] m' z) = _
        rw [if_neg hz, chain_eq (l := [(Str.ofString "served", .ref sv), (Str.ofString "place", .int r tp)]) (m := m') ⟨(hm _ (by decide)).trans ms, (hm _ (by decide)).trans mp, trivial⟩]
        exact hm z hz)) only [↓Mine.go_eq]
end
end

section
-- part L5
open PySem PySem.W PyProof.Rows PySem.Spec in
theorem turn_L5 {p : Program} {w : World} {A : Around} {en : Env} {Q : Flow → Shared → Prop} {E : Value → Shared → Prop} {s : Shared} (h : Q .next s) : wpAny (model p w) A (execs [] en) Q E s := by
  w_top off
  walk1
  exact h
open PySem PySem.W PyProof.Rows PySem.Calls PyProof.V PySem.Spec

abbrev lsN (T : List On) (n : Nat) : Obj := listO (T.map fun o => Value.ref o.a).toArray n
theorem lsO_lsN {R : List On} {n : Nat} : lsO R n = lsN R.reverse n := by
  unfold lsO lsN
  rw [List.map_reverse]
abbrev Fx.setC (X : Fx) (c' : Addr) (oc : Obj) : Fx := { X with c' := c', oc := oc }
structure Made (X0 : Fx) (u1 : Tok) (O : List (Int × Tok)) (T : List On) (TT : List (Addr × Obj)) (i : Nat) (M : List Pr) (ys : Array QE) (qn : Nat) (k : Int) (u4 : Tok) (tb : Obj) (cr : List (Addr × Obj)) (c' : Addr) (oc : Obj) (nw : List (Addr × Obj)) : Prop where
  len : M.length = i
  ids : M.map (fun a => a.p.i) = ((List.range i).map fun (j : Nat) => (j : Int)).reverse
  spec : ∀ a ∈ M, ∃ (j : Nat) (o : On), j < i ∧ a.p.i = (j : Int) ∧ a.p.comes = ((O.map (·.1)).idxOf (j : Int) : Int) + 1 ∧ T[j]? = some o ∧ a.p.amt = o.x ∧ a.p.puts = o.b
  tab : (i = 0 ∧ tb = tabObj #[] ∧ cr = []) ∨ (tb = tabObj #[rawInt 575, rawInt 4, .ref c'] ∧ cr = [(c', oc)] ∧ ∃ (vs : Array Value) (qt : Tok), oc.data = .fields vs ∧ vs[1]? = some (.str "_law_one.<locals>.deed" qt))
  rows : nw = eR X0 u1 0 .none ++ (qR X0 ys qn k u4 ++ ((975, tb) :: (cr ++ (M.flatMap Pr.l ++ TT))))
  nd : (nw.map (·.1)).Nodup
  ag : ys.toList.Perm (M.flatMap Pr.pend)
  hp : IsHp QE.lt ys
  de : ∀ y ∈ ys.toList, y.e < k
  ei : Eids ys
  ok : ∀ a ∈ M, PRow (X0.setC c' oc) a.p a.ph a.l ∧ ∃ y ie, a.ph = .s0 y ie
theorem ints_pairs : ∀ (O : List (Int × Tok)), IntsAre (O.map fun x => Value.int x.1 x.2) (O.map (·.1))
  | [] => .nil
  | x :: O => .cons x.1 x.2 (ints_pairs O)
section
variable {prog : Program} {w : World} {A : Around} {E : Value → Shared → Prop} {s : Shared} {h₀ : Heap} {L D : Addr} {news : List (Addr × Obj)} {n : Nat} {Q : Value → Shared → Prop}
theorem itemN_K {T : List On} {j : Nat} {t : Tok} {o : On} (N : News h₀ L s.heap news) (hm : (D, lsN T n) ∈ news) (hz : j < 1000) (hx : T[j]? = some o) (h : Q (.ref o.a) s) : wpAny (model prog w) A (getItem (.ref D) (.int (j : Int) t)) Q E s :=
  wpAny_getItem_list (N.isList hm) (by omega) (by omega) (by simp [hx]) h
theorem itemN_T {value slice : PySem.Expr} {T : List On} {j : Nat} {t : Tok} {o : On} (N : News h₀ L s.heap news) (hm : (D, lsN T n) ∈ news) (hz : j < 1000) (hx : T[j]? = some o) (h : Q (.ref o.a) s)
    (hs : subscripted slice false (.ref D) (.int (j : Int) t) = operate [.ref D, .int (j : Int) t] (getItem (.ref D) (.int (j : Int) t)) := by with_unfolding_all rfl) : wpAny (model prog w) A (subscriptTail value slice (.ref D) (.int (j : Int) t)) Q E s :=
  tail_any (N.isList hm).typeIs slot_list_getitem.lookup (itemN_K N hm hz hx h) hs
theorem indexO_K {O : List (Int × Tok)} {j : Int} {t : Tok} (N : News h₀ L s.heap news) (hm : (D, lsI O n) ∈ news) (hlay : PyData.layable0 (.list ((O.map (·.1)).map .int)) = true) (hx : j ∈ O.map (·.1)) (h : Q (.int ((O.map (·.1)).idxOf j : Nat) s.toks) { s with toks := s.toks + 1 }) : wpAny (model prog w) A (call (.builtin "list.index") [.ref D, .int j t]) Q E s :=
  index_list_ints (N.isList hm) (ints_pairs O) hlay hx h
end
theorem lay_range {n : Nat} (h : n ≤ 7) : PyData.layable0 (.list (((List.range n).map fun (j : Nat) => (j : Int)).map .int)) = true := by
  have : ∀ n : Fin 8, PyData.layable0 (.list (((List.range n.val).map fun (j : Nat) => (j : Int)).map .int)) = true := by decide +kernel
  exact this ⟨n, by omega⟩
theorem nd_off {I : Addr} {o : Obj} {nw : List (Addr × Obj)} (h : (((I, o) :: nw).map (·.1)).Nodup) : (∀ p ∈ nw, p.1 ≠ I) ∧ (nw.map (·.1)).Nodup := by
  rw [List.map_cons, List.nodup_cons] at h
  exact ⟨fun p hp e => h.1 (List.mem_map.mpr ⟨p, hp, e⟩), h.2⟩
theorem Made.size {X0 : Fx} {u1 : Tok} {O : List (Int × Tok)} {T : List On} {TT : List (Addr × Obj)} {i : Nat} {M : List Pr} {ys : Array QE} {qn : Nat} {k : Int} {u4 : Tok} {tb : Obj} {cr : List (Addr × Obj)} {c' : Addr} {oc : Obj} {nw : List (Addr × Obj)} (h : Made X0 u1 O T TT i M ys qn k u4 tb cr c' oc nw) : ys.size ≤ i := by
  have h1 := h.ag.length_eq
  have h2 := pend_len M
  rw [h.len] at h2
  rw [Array.length_toList] at h1
  omega
theorem Made.ty {X0 : Fx} {u1 : Tok} {O : List (Int × Tok)} {T : List On} {TT : List (Addr × Obj)} {i : Nat} {M : List Pr} {ys : Array QE} {qn : Nat} {k : Int} {u4 : Tok} {tb : Obj} {cr : List (Addr × Obj)} {c' : Addr} {oc : Obj} {nw l : List (Addr × Obj)} (h : Made X0 u1 O T TT i M ys qn k u4 tb cr c' oc nw) (hs : ∀ p ∈ M.flatMap Pr.l ++ TT, p ∈ l) : TupsIn l ys :=
  tups_sub (tups_of (X := X0.setC c' oc) (us := []) (fun a ha => (h.ok a ha).1) (fun y h => nomatch h) (fun y hy => by simpa using h.ag.mem_iff.mp hy)) hs
theorem Made.next {X0 : Fx} {u1 : Tok} {O : List (Int × Tok)} {T : List On} {TT : List (Addr × Obj)} {i : Nat} {M : List Pr} {ys zs : Array QE} {qn qn' : Nat} {k : Int} {u4 u4' : Tok} {tb : Obj} {cr : List (Addr × Obj)} {c' c2 : Addr} {oc oc2 : Obj} {nw : List (Addr × Obj)} (h : Made X0 u1 O T TT i M ys qn k u4 tb cr c' oc nw)
    {x : On} (hx : T[i]? = some x) {y : QE} {ie : Addr} {l : List (Addr × Obj)} {pr : Addr} (hy : y.e = k) (pm : zs.toList.Perm (ys.push y).toList) (hp : IsHp QE.lt zs)
    (R : PRow (X0.setC c2 oc2) ⟨(i : Int), ((O.map (·.1)).idxOf (i : Int) : Int) + 1, x.x, x.b, pr⟩ (.s0 y ie) l) (ho : ∃ (vs : Array Value) (qt : Tok), oc2.data = .fields vs ∧ vs[1]? = some (.str "_law_one.<locals>.deed" qt)) (hc : i = 0 ∨ (c2 = c' ∧ oc2 = oc))
    (nd : ((eR X0 u1 0 .none ++ (qR X0 zs qn' (k + 1) u4' ++ ((975, tabObj #[rawInt 575, rawInt 4, .ref c2]) :: ((c2, oc2) :: ((l ++ M.flatMap Pr.l) ++ TT))))).map (·.1)).Nodup) :
    Made X0 u1 O T TT (i + 1) (⟨⟨(i : Int), ((O.map (·.1)).idxOf (i : Int) : Int) + 1, x.x, x.b, pr⟩, .s0 y ie, l⟩ :: M) zs qn' (k + 1) u4' (tabObj #[rawInt 575, rawInt 4, .ref c2]) [(c2, oc2)] c2 oc2
      (eR X0 u1 0 .none ++ (qR X0 zs qn' (k + 1) u4' ++ ((975, tabObj #[rawInt 575, rawInt 4, .ref c2]) :: ((c2, oc2) :: ((l ++ M.flatMap Pr.l) ++ TT))))) := by
  refine ⟨by rw [List.length_cons, h.len], ?_, ?_, .inr ⟨rfl, rfl, ho⟩, ?_, nd, ?_, hp, lt_push h.de pm hy, eids_next h.de h.ei hy pm, ?_⟩
  · rw [List.map_cons, h.ids, List.range_succ, List.map_append, List.reverse_append]
    rfl
  · intro a ha
    rcases List.mem_cons.mp ha with rfl | ha
    · exact ⟨i, x, Nat.lt_succ_self _, rfl, rfl, hx, rfl, rfl⟩
    · obtain ⟨j, o, h1, r⟩ := h.spec a ha
      exact ⟨j, o, Nat.lt_succ_of_lt h1, r⟩
  · rw [List.flatMap_cons, List.cons_append]
    rfl
  · exact ag_push h.ag pm
  · intro a ha
    rcases List.mem_cons.mp ha with rfl | ha
    · exact ⟨R, _, _, rfl⟩
    · rcases hc with h0 | ⟨rfl, rfl⟩
      · have := h.len
        rw [h0] at this
        rw [List.eq_nil_of_length_eq_zero this] at ha
        exact nomatch ha
      · exact h.ok a ha
local macro_rules | `(tactic| walk_at "pyIter ref") => `(tactic| refine hold_of ?_)
local macro_rules | `(tactic| walk_at "call ref") => `(tactic| (k_here; (with_reducible show wpAny _ _ (call (Value.ref 980) _) _ _ _); refine hold_of ?_))
local macro_rules | `(tactic| walk_at "getItem ref int") => `(tactic| (k_here; (with_reducible show wpAny _ _ (getItem (Value.ref _) (Value.int _ _)) _ _ _); k_dflt (refine' itemN_K ?N ?m ?z ?x ?_; (case N => k_asm); (case m => k_mem); (case z => omega); (case x => with_reducible assumption); k_whole)))
local macro_rules | `(tactic| walk_at "call builtin:list.index") => `(tactic| (k_here; (with_reducible show wpAny _ _ (call (Value.builtin _) [Value.ref _, Value.int _ _]) _ _ _); k_dflt (refine' indexO_K ?N ?m ?z ?x ?_; (case N => k_asm); (case m => k_mem); (case z => with_reducible assumption); (case x => with_reducible assumption); k_whole)))
local macro_rules | `(tactic| walk_at "subscriptTail Name Name") => `(tactic| (k_here; (with_reducible show wpAny _ _ (subscriptTail _ _ (Value.ref _) (Value.int _ _)) _ _ _); k_dflt (refine' itemN_T ?N ?m ?z ?x ?_; (case N => k_asm); (case m => k_mem); (case z => omega); (case x => with_reducible assumption); k_whole)))
local macro_rules | `(tactic| walk_at "inl") => `(tactic| first | exact .head _ | (refine List.Mem.tail _ ?_; walk_at "inl") | (refine List.mem_append_right _ ?_; walk_at "inl"))
local macro_rules | `(tactic| walk_at "leaf9") => `(tactic| first | exact fun _ h => h | (refine sub_drop ?_; walk_at "leaf9"))
local macro_rules | `(tactic| walk_at "rows9") => `(tactic| first | (refine an_cons (by walk_at "inl") ?_; walk_at "rows9") | walk_at "leaf9")
local macro_rules | `(tactic| walk_at "rows8") => `(tactic| first | (refine sub_cnt fun p9 => ?_; simp only [cp_app, cp_cons, cp_nil, Nat.zero_add, Nat.add_zero]; omega) | walk_at "rows9")
structure Kept (X0 : Fx) (u1 : Tok) (O : List (Int × Tok)) (T : List On) (TT : List (Addr × Obj)) (i : Nat) (I : Addr) (o : Obj) (r : List (Addr × Obj)) : Prop where
  ex : ∃ (M : List Pr) (ys : Array QE) (qn : Nat) (k : Int) (u4 : Tok) (tb : Obj) (cr : List (Addr × Obj)) (c' : Addr) (oc : Obj) (nw : List (Addr × Obj)), (∀ p ∈ (I, o) :: nw, p ∈ r) ∧ (∀ p ∈ nw, p.1 ≠ I) ∧ Made X0 u1 O T TT i M ys qn k u4 tb cr c' oc nw
theorem made_step {prog : Program} {X0 : Fx} {u1 : Tok} {O : List (Int × Tok)} {T : List On} {TT : List (Addr × Obj)} {i : Nat} {M : List Pr} {ys : Array QE} {qn : Nat} {k : Int} {u4 : Tok} {tb : Obj} {cr : List (Addr × Obj)} {c' : Addr} {oc : Obj} {nw : List (Addr × Obj)} (hM : Made X0 u1 O T TT i M ys qn k u4 tb cr c' oc nw) (hi : i ≤ 7)
    {x : On} (hx : T[i]? = some x) {I : Addr} {o : Obj} (off : ∀ p ∈ nw, p.1 ≠ I) {comes : Int} (hc : comes = ((O.map (·.1)).idxOf (i : Int) : Int) + 1) {t1 t2 t3 : Tok} :
    CallOk prog X0.w 30 1100 (.ref 980) [.ref X0.e, .ref X0.tn, .int (i : Int) t1, .int comes t2, .int x.x t3, .bool x.b, .ref X0.ask, .ref X0.tol] ((I, o) :: nw) (fun v r => v = .none ∧ Kept X0 u1 O T TT (i + 1) I o r) := by
  refine Mine.go_of ?_
  simp (disch := k_dflt (
  subst hc
  rcases hM.tab with ⟨hi0, rfl, rfl⟩ | ⟨rfl, rfl, ho9⟩
  · refine CallOk.conseq (law_one1 (ed := X0.ed) (q := X0.q) (c := X0.c) (cd := X0.cd) (t1 := X0.t1) (t2 := X0.t2) (t3 := X0.t3) (t4 := X0.t4) (u1 := u1) (u4 := u4) (u5 := X0.u5) (n := qn) (fb := X0.fb) (now := 0) (act := .none) (k := k) (ys := ys) (tl := (I, o) :: (M.flatMap Pr.l ++ TT)) ?nd1 (hM.ty ?ty1) ?hz1 hM.de hM.ei hM.hp) (Nat.le_refl _) (Nat.le_refl _) ?sub1 ?post1
    case nd1 =>
      have hn9 := hM.nd
      rw [hM.rows] at hn9
      have hI9 : I ∉ nw.map (·.1) := off_notin off
      rw [hM.rows] at hI9
      exact nd_le (List.nodup_cons.mpr ⟨hI9, hn9⟩) fun _ => by (simp only [eR, qR, List.map_append, List.map_cons, List.map_nil, List.cons_append, List.nil_append, cnt_app, cnt_cons, cnt_nil, Nat.zero_add]; omega)
    case ty1 => exact fun p hp => .tail _ hp
    case hz1 =>
      have := hM.size
      omega
    case sub1 =>
      rw [hM.rows]
      simp only [eR, qR, List.cons_append, List.nil_append, List.append_assoc]
      walk_at "rows8"
    case post1 =>
      intro v9 rows9 h
      obtain ⟨rfl, h⟩ := h
      refine Exists.elim h fun ti h => Exists.elim h fun ie h => Exists.elim h fun id h => Exists.elim h fun lb h => Exists.elim h fun pr h => Exists.elim h fun pd h => Exists.elim h fun l2 h => Exists.elim h fun st h => Exists.elim h fun sd h => Exists.elim h fun f h => Exists.elim h fun sl h => Exists.elim h fun a1 h => Exists.elim h fun a2 h => Exists.elim h fun a3 h => Exists.elim h fun a4 h => Exists.elim h fun a5 h => Exists.elim h fun a6 h => Exists.elim h fun a7 h => Exists.elim h fun a8 h => Exists.elim h fun a9 h => Exists.elim h fun c2 h => Exists.elim h fun zs h => Exists.elim h fun x1 h => Exists.elim h fun x2 h => Exists.elim h fun x3 h => Exists.elim h fun x4 h => Exists.elim h fun b1 h => Exists.elim h fun b2 h => Exists.elim h fun b3 h => Exists.elim h fun b4 h => Exists.elim h fun d1 h => Exists.elim h fun d2 h => Exists.elim h fun d3 h => Exists.elim h fun d4 h => Exists.elim h fun g1 h => Exists.elim h fun qt h => Exists.elim h fun nu h => Exists.elim h fun cu h => Exists.elim h fun au h => Exists.elim h fun n' h => Exists.elim h fun n1 h => Exists.elim h fun n2 h => Exists.elim h fun n3 h => Exists.elim h fun oc2 h => Exists.elim h fun p1 h => Exists.elim h fun p2 h => Exists.elim h fun p3 h => Exists.elim h fun p4 h => Exists.elim h fun p5 h => Exists.elim h fun p6 h => Exists.elim h fun p7 h => Exists.elim h fun p8 h => Exists.elim h fun p9 h => Exists.elim h fun vs h => Exists.elim h fun dc h => Exists.elim h fun nm9 h => Exists.elim h fun ct h => ?_
      obtain ⟨pm, hp, hvs, hv1, f1, f2, f3, f4, f5, f6, f7, f8, f9, rfl, ndr⟩ := h
      have hnd := nd_off (I := I) (o := o) (nw := eR X0 u1 0 .none ++ (qR X0 zs n' (k + 1) x4 ++ ((975, tabObj #[rawInt 575, rawInt 4, .ref c2]) :: ((c2, oc2) :: ((((ti, tupo (0 + 0) 0 k x1 x2 x3 (.ref ie)) :: (ie, instObj 229 id) :: (id, iniO X0.w b1 b2 b3 b4 X0.e lb) :: (lb, listO #[.ref pr] n1) :: coR (X0.setC c2 oc2) ⟨(i : Int), ((O.map (·.1)).idxOf (i : Int) : Int) + 1, x.x, x.b, pr⟩ ⟨pd, l2, st, sd, f, sl, a1, a2, a3, a4, a5, a6, a7, a8, a9, p1, p2, p3, p4, p5, p6, p7, p8, p9, d1, d2, d3, d4, g1, n2, n3, dc, nm9, ct, nu, cu, au⟩ ie #[]) ++ M.flatMap Pr.l) ++ TT))))) (nd_le ndr fun _ => by (simp only [eR, qR, coR, List.flatMap_cons, List.map_append, List.map_cons, List.map_nil, List.cons_append, List.nil_append, cnt_app, cnt_cons, cnt_nil, Nat.zero_add]; omega))
      refine ⟨_, fun _ h => h, rfl, ⟨⟨_, zs, n', k + 1, x4, _, _, c2, oc2, _, ?sub2, hnd.1, Made.next hM hx (y := ⟨ti, 0 + 0, 0, k, x1, x2, x3, .ref ie⟩) (ie := ie) (pr := pr) rfl pm hp (.s0 ⟨f1, f2, f3, f4, f5, f6, f7, f8, f9⟩ rfl rfl rfl) ⟨vs, qt, hvs, hv1⟩ (.inl hi0) hnd.2⟩⟩⟩
      case sub2 =>
        simp only [eR, qR, coR, List.cons_append, List.nil_append, List.append_assoc]
        walk_at "rows8"
  · refine CallOk.conseq (law_one2 (c' := c') (ed := X0.ed) (q := X0.q) (c := X0.c) (cd := X0.cd) (t1 := X0.t1) (t2 := X0.t2) (t3 := X0.t3) (t4 := X0.t4) (u1 := u1) (u4 := u4) (u5 := X0.u5) (n := qn) (fb := X0.fb) (now := 0) (act := .none) (k := k) (ys := ys) (tl := (I, o) :: (c', oc) :: (M.flatMap Pr.l ++ TT)) ?nd1b (hM.ty ?ty1b) ?hz1b hM.de hM.ei hM.hp) (Nat.le_refl _) (Nat.le_refl _) ?sub1b ?post1b
    case nd1b =>
      have hn9 := hM.nd
      rw [hM.rows] at hn9
      have hI9 : I ∉ nw.map (·.1) := off_notin off
      rw [hM.rows] at hI9
      exact nd_le (List.nodup_cons.mpr ⟨hI9, hn9⟩) fun _ => by (simp only [eR, qR, List.map_append, List.map_cons, List.map_nil, List.cons_append, List.nil_append, cnt_app, cnt_cons, cnt_nil, Nat.zero_add]; omega)
    case ty1b => exact fun p hp => .tail _ (.tail _ hp)
    case hz1b =>
      have := hM.size
      omega
    case sub1b =>
      rw [hM.rows]
      simp only [eR, qR, List.cons_append, List.nil_append, List.append_assoc]
      walk_at "rows8"
    case post1b =>
      intro v9 rows9 h
      obtain ⟨rfl, h⟩ := h
      refine Exists.elim h fun ti h => Exists.elim h fun ie h => Exists.elim h fun id h => Exists.elim h fun lb h => Exists.elim h fun pr h => Exists.elim h fun pd h => Exists.elim h fun l2 h => Exists.elim h fun st h => Exists.elim h fun sd h => Exists.elim h fun f h => Exists.elim h fun sl h => Exists.elim h fun a1 h => Exists.elim h fun a2 h => Exists.elim h fun a3 h => Exists.elim h fun a4 h => Exists.elim h fun a5 h => Exists.elim h fun a6 h => Exists.elim h fun a7 h => Exists.elim h fun a8 h => Exists.elim h fun a9 h => Exists.elim h fun zs h => Exists.elim h fun x1 h => Exists.elim h fun x2 h => Exists.elim h fun x3 h => Exists.elim h fun x4 h => Exists.elim h fun b1 h => Exists.elim h fun b2 h => Exists.elim h fun b3 h => Exists.elim h fun b4 h => Exists.elim h fun d1 h => Exists.elim h fun d2 h => Exists.elim h fun d3 h => Exists.elim h fun d4 h => Exists.elim h fun g1 h => Exists.elim h fun nu h => Exists.elim h fun cu h => Exists.elim h fun au h => Exists.elim h fun n' h => Exists.elim h fun n1 h => Exists.elim h fun n2 h => Exists.elim h fun n3 h => Exists.elim h fun p1 h => Exists.elim h fun p2 h => Exists.elim h fun p3 h => Exists.elim h fun p4 h => Exists.elim h fun p5 h => Exists.elim h fun p6 h => Exists.elim h fun p7 h => Exists.elim h fun p8 h => Exists.elim h fun p9 h => Exists.elim h fun dc h => Exists.elim h fun nm9 h => Exists.elim h fun ct h => ?_
      obtain ⟨pm, hp, f1, f2, f3, f4, f5, f6, f7, f8, f9, rfl, ndr⟩ := h
      have hnd := nd_off (I := I) (o := o) (nw := eR X0 u1 0 .none ++ (qR X0 zs n' (k + 1) x4 ++ ((975, tabObj #[rawInt 575, rawInt 4, .ref c']) :: ((c', oc) :: ((((ti, tupo (0 + 0) 0 k x1 x2 x3 (.ref ie)) :: (ie, instObj 229 id) :: (id, iniO X0.w b1 b2 b3 b4 X0.e lb) :: (lb, listO #[.ref pr] n1) :: coR (X0.setC c' oc) ⟨(i : Int), ((O.map (·.1)).idxOf (i : Int) : Int) + 1, x.x, x.b, pr⟩ ⟨pd, l2, st, sd, f, sl, a1, a2, a3, a4, a5, a6, a7, a8, a9, p1, p2, p3, p4, p5, p6, p7, p8, p9, d1, d2, d3, d4, g1, n2, n3, dc, nm9, ct, nu, cu, au⟩ ie #[]) ++ M.flatMap Pr.l) ++ TT))))) (nd_le ndr fun _ => by (simp only [eR, qR, coR, List.flatMap_cons, List.map_append, List.map_cons, List.map_nil, List.cons_append, List.nil_append, cnt_app, cnt_cons, cnt_nil, Nat.zero_add]; omega))
      refine ⟨_, fun _ h => h, rfl, ⟨⟨_, zs, n', k + 1, x4, _, _, c', oc, _, ?sub2b, hnd.1, Made.next hM hx (y := ⟨ti, 0 + 0, 0, k, x1, x2, x3, .ref ie⟩) (ie := ie) (pr := pr) rfl pm hp (.s0 ⟨f1, f2, f3, f4, f5, f6, f7, f8, f9⟩ rfl rfl rfl) ho9 (.inr ⟨rfl, rfl⟩) hnd.2⟩⟩⟩
      case sub2b =>
        simp only [eR, qR, coR, List.cons_append, List.nil_append, List.append_assoc]
        walk_at "rows8")) only [↓Mine.go_eq]
section
variable {prog : Program}
theorem calls_st {p : Program} {loose : List Str} {mean : ExcName → Option Value} {mg mb : Str → Option Value} {dp un : Nat} {gd : Option (List Code)} {a : Addr} {ccd : Value} {A₀ : Around} {base h₀ : Heap} {L c1 c2 c3 od on : Addr} {m : Str → Option Value} {s : Shared} {Q : Flow → Shared → Prop} {E : Value → Shared → Prop} {o2 : Obj} {n kO kT qn0 : Nat} {k0 : Int} {tm u1 u40 : Tok} {O : List (Int × Tok)} {T : List On} {TT : List (Addr × Obj)} {X0 : Fx}
    (B : Below A₀ base [] h₀) (F : Fr h₀ L s.heap m) (XB : (Mine.kk.heap_1 X0.w.params).In base) (TB : Top p loose mean mg mb base) (C : CodeHd base 979 975) (hdp : dp + 300 < recursionLimit) (hun : un + 2000 < cLine)
    (mo : m (Str.ofString "order") = some (.ref od)) (mn : m (Str.ofString "ones") = some (.ref on)) (mm : m (Str.ofString "many") = some (.int (n : Int) tm)) (me : m (Str.ofString "env") = some (.ref X0.e)) (mt : m (Str.ofString "tank") = some (.ref X0.tn)) (ml : m (Str.ofString "told") = some (.ref X0.tol))
    (N : News h₀ L s.heap (eR X0 u1 0 .none ++ (qR X0 #[] qn0 k0 u40 ++ ((975, tabObj #[]) :: TT)))) (nd : ((eR X0 u1 0 .none ++ (qR X0 #[] qn0 k0 u40 ++ ((975, tabObj #[]) :: TT))).map (·.1)).Nodup)
    (hO : (od, lsI O kO) ∈ TT) (hT : (on, lsN T kT) ∈ TT) (hTr : ∀ o ∈ T, o.row ∈ TT) (h2 : (c2, o2) ∈ TT) (d2 : o2.data = .cell (some (.ref X0.ask))) (hOp : (O.map (·.1)).Perm ((List.range n).map fun (j : Nat) => (j : Int))) (hTl : T.length = n) (hn : n ≤ 7)
    (hE : PassesOwn (model prog X0.w) (lawA X0.w.params dp un gd c1 c2 c3 L a ccd) (lawE X0.w.params c1 c2 c3 L a ccd) E)
    (ret : ∀ M ys qn k u4 tb cr c' oc nw (m' : Str → Option Value) (h' : Heap) (tk' : Nat), Made X0 u1 O T TT n M ys qn k u4 tb cr c' oc nw → (∀ z, z ≠ Str.ofString "number" → m' z = m z) → Fr h₀ L h' m' → News h₀ L h' nw → Q .next { s with heap := h', toks := tk' }) :
    wpAny (model prog X0.w) (lawA X0.w.params dp un gd c1 c2 c3 L a ccd) (exec (lawSt X0.w.params 10) (lawE X0.w.params c1 c2 c3 L a ccd)) Q E s := by
  refine Mine.go_of ?_
  simp (disch := k_dflt (
  have X := XB.keeps B.stays
  have T' := TB.keeps B.stays
  have hk := lawS_kind X0.w.params
  have hlay : PyData.layable0 (.list ((O.map (·.1)).map .int)) = true := layable_ints_perm hOp (lay_range hn)
  (with_unfolding_all show wpAny _ _ (exec (Stmt.For _ _ _ _ _) _) _ _ _)
  (with_unfolding_all refine' For_turns F ?_ ?hs ?hE)
  case hs => intro _; with_unfolding_all rfl
  case hE => exact hE
  have F0 := fr_chain [(Str.ofString "many", .int (n : Int) tm)] F ⟨mm, trivial⟩
  dsimp only [chain] at F0
  k_steps
  unfold Hold
  refine iter_rangeTurns (n := n) (by rfl) (by assumption) (by assumption) (by assumption) (by omega) fun I hI => ?_
  refine items_one (fun xs m' nw => ∃ (i : Nat) (M : List Pr) (ys : Array QE) (qn : Nat) (k : Int) (u4 : Tok) (tb : Obj) (cr : List (Addr × Obj)) (c' : Addr) (oc : Obj), xs = (rangeItms n).drop i ∧ (∀ z, z ≠ Str.ofString "number" → m' z = m z) ∧ Made X0 u1 O T TT i M ys qn k u4 tb cr c' oc nw ∧ i ≤ n) ?turn ?done _ _ _ ⟨0, [], #[], qn0, k0, u40, tabObj #[], [], 0, tabObj #[], rfl, ?m0, ⟨rfl, rfl, (by intro _ h; exact nomatch h), .inl ⟨rfl, rfl, rfl⟩, rfl, nd, .refl _, ?hp0, (by intro _ h; exact nomatch h), ?ei0, (by intro _ h; exact nomatch h)⟩, Nat.zero_le _⟩ (fun p hp => Nat.ne_of_lt (hI p hp))
  case m0 => exact fun z _ => congrFun (chain_eq (l := [(Str.ofString "many", .int (n : Int) tm)]) ⟨mm, trivial⟩) z
  case hp0 => exact fun i _ h => by simp at h
  case ei0 => simp [Eids]
  case done =>
    rintro m' nw h tk ⟨i, M, ys, qn, k, u4, tb, cr, c', oc, hxs, hm, hM, hi⟩ F N
    have := rng_nil hxs
    obtain rfl : i = n := by omega
    exact ret _ _ _ _ _ _ _ _ _ _ _ _ _ hM hm F N
  case turn =>
    rintro v r m' nw ⟨i, M, ys, qn, k, u4, tb, cr, c', oc, hxs, hm, hM, hi⟩ v1 h tk o hv ho F N off
    obtain ⟨hin, rfl, rfl⟩ := rng_drop hxs
    obtain ⟨t, hv⟩ := hv
    dsimp only at hv
    subst hv
    replace F := fr_chain [(Str.ofString "order", .ref od), (Str.ofString "ones", .ref on), (Str.ofString "env", .ref X0.e), (Str.ofString "tank", .ref X0.tn), (Str.ofString "told", .ref X0.tol)] F ⟨(hm _ (by decide)).trans mo, (hm _ (by decide)).trans mn, (hm _ (by decide)).trans me, (hm _ (by decide)).trans mt, (hm _ (by decide)).trans ml, trivial⟩
    dsimp only [chain] at F
    obtain ⟨x, hx⟩ : ∃ x, T[i]? = some x := ⟨_, List.getElem?_eq_getElem (by omega)⟩
    have hxr := hTr x (List.mem_of_getElem? hx)
    have hmem : (i : Int) ∈ O.map (·.1) := hOp.mem_iff.mpr (List.mem_map.mpr ⟨i, List.mem_range.mpr hin, rfl⟩)
    have hsub : ∀ p ∈ TT, p ∈ nw := fun p hp => by rw [hM.rows]; exact List.mem_append_right _ (List.mem_append_right _ (.tail _ (List.mem_append_right _ (List.mem_append_right _ hp))))
    have N2 := news_rows N (l' := (I, o) :: (od, lsI O kO) :: (on, lsN T kT) :: x.row :: (c2, o2) :: nw) (an_cons (.head _) (an_cons (.tail _ (hsub _ hO)) (an_cons (.tail _ (hsub _ hT)) (an_cons (.tail _ (hsub _ hxr)) (an_cons (.tail _ (hsub _ h2)) fun p hp => .tail _ hp)))))
    clear N
    k_steps
    unfold Hold
    rename News _ _ _ _ => N9
    rename Fr _ _ _ _ => F9
    refine' made_step hM (by omega) hx off ?hc ?B1 ?F1 ?X1 ?T1 ?C1 ?hk1 ?dp1 ?un1 (news_rows N9 ?sub1) ?ret1
    case hc => rfl
    case B1 => k_asm
    case F1 => k_asm
    case X1 => k_asm
    case T1 => k_asm
    case C1 => k_asm
    case hk1 => exact lawS_kind _
    case dp1 => ktr_room
    case un1 => ktr_units
    case sub1 => walk_at "rows8"
    rintro v9 rows9 h9 tk9 ⟨rfl, ⟨M', ys', qn', k', u4', tb', cr', c2', oc2', nw', hs9, ho9, hM'⟩⟩ F8 N8
    clear N9 F9
    k_steps
    unfold Hold
    refine ⟨_, _, _, _, rfl, by assumption, news_rows (by assumption) hs9, ho9, trivial, i + 1, M', ys', qn', k', u4', tb', cr', c2', oc2', rfl, ?hm, hM', by omega⟩
    case hm =>
      intro z hz
      show (if z = Str.ofString "number" then _ else chain [(Str.ofString "order", .ref od), (Str.ofString "ones", .ref on), (Str.ofString "env", .ref X0.e), (Str.ofString "tank", .ref X0.tn), (Str.ofString "told", .ref X0.tol)] m' z) = _
      rw [if_neg hz, chain_eq (l := [(Str.ofString "order", .ref od), (Str.ofString "ones", .ref on), (Str.ofString "env", .ref X0.e), (Str.ofString "tank", .ref X0.tn), (Str.ofString "told", .ref X0.tol)]) (m := m') ⟨(hm _ (by decide)).trans mo, (hm _ (by decide)).trans mn, (hm _ (by decide)).trans me, (hm _ (by decide)).trans mt, (hm _ (by decide)).trans ml, trivial⟩]
      exact hm z hz)) only [↓Mine.go_eq]
end
end

section
-- part L9a
open PySem PySem.W PyProof.Rows PySem.Spec in
theorem turn_L9a {p : Program} {w : World} {A : Around} {en : Env} {Q : Flow → Shared → Prop} {E : Value → Shared → Prop} {s : Shared} (h : Q .next s) : wpAny (model p w) A (execs [] en) Q E s := by
  w_top off
  walk1
  exact h
open PySem PySem.W PyProof.Rows PySem.Calls PyProof.V PySem.Spec

/-! plain law: what a turn of the law's loop knows -/
def DueOk (kT kD : List (Int × Value)) : Prop := (∀ n v, valueAt kT n = some v → ∃ i u u', v = .int i u ∧ valueAt kD n = some (.int i u')) ∧ ∀ n, (valueAt kD n).isSome = true → (valueAt kT n).isSome = true
section
variable {prog : Program} {X : Fx} {PS : List Pc} {r : Int} {pc : Pc} {T0 T1 : List (Addr × Obj)} {g g' : Gl} {M M' L L' : List Pr} {Qp Qg Qp' Qg' : List Wt} {os os' : List QE} {orow orow' : List (Addr × Obj)} {kA kA' kT kT' kD kD' : List (Int × Value)} {P1 G1 P' G' : List Tp} {S : List (Int × Tok)} {l' : Int}
theorem Rest.inj (P : PsOk PS) (R : Rest prog X PS r T0 g M L Qp Qg os orow kA kT) {a b : Pr} (ha : a ∈ M) (hb : b ∈ M) (e : a.p.i = b.p.i) : a = b := by
  have h1 : ((M.map Pr.p).map Pc.i).Nodup := ((R.O.ps.map Pc.i).nodup_iff).mpr P.ni
  rw [List.map_map] at h1
  exact nodup_inj h1 ha hb e
theorem Rest.memM (R : Rest prog X PS r T0 g M L Qp Qg os orow kA kT) {p : Pc} (h : p ∈ PS) : ∃ a ∈ M, a.p = p := by
  obtain ⟨a, ha, e⟩ := List.mem_map.mp (R.O.ps.mem_iff.mpr h)
  exact ⟨a, ha, e⟩
theorem Rest.inPS (R : Rest prog X PS r T0 g M L Qp Qg os orow kA kT) {a : Pr} (h : a ∈ M) : a.p ∈ PS := R.O.ps.mem_iff.mp (List.mem_map.mpr ⟨a, h, rfl⟩)
theorem Rest.wt (R : Rest prog X PS r T0 g M L Qp Qg os orow kA kT) {q : Wt} (h : q ∈ Qp ∨ q ∈ Qg) : q.pr ∈ M := by
  refine R.hM.mem_iff.mpr (List.mem_append_right _ ?_)
  rcases h with h | h
  · exact List.mem_append_left _ (List.mem_map.mpr ⟨q, h, rfl⟩)
  · exact List.mem_append_right _ (List.mem_map.mpr ⟨q, h, rfl⟩)
theorem Rest.split (R : Rest prog X PS r T0 g M L Qp Qg os orow kA kT) {a : Pr} (h : a ∈ M) : a ∈ L ∨ ∃ q, (q ∈ Qp ∨ q ∈ Qg) ∧ a = q.pr := by
  rcases List.mem_append.mp (R.hM.mem_iff.mp h) with h | h
  · exact .inl h
  · right
    rcases List.mem_append.mp h with h | h
    · obtain ⟨q, hq, rfl⟩ := List.mem_map.mp h
      exact ⟨q, .inl hq, rfl⟩
    · obtain ⟨q, hq, rfl⟩ := List.mem_map.mp h
      exact ⟨q, .inr hq, rfl⟩
abbrev wn (Qp Qg : List Wt) : List Int := (Qp.map nm ++ Qg.map nm).map (·.1)
theorem wn_mem {n : Int} : n ∈ wn Qp Qg ↔ ∃ q, (q ∈ Qp ∨ q ∈ Qg) ∧ q.p.i = n := by
  constructor
  · intro h
    obtain ⟨x, hx, rfl⟩ := List.mem_map.mp h
    rcases List.mem_append.mp hx with hx | hx
    · obtain ⟨q, hq, rfl⟩ := List.mem_map.mp hx
      exact ⟨q, .inl hq, rfl⟩
    · obtain ⟨q, hq, rfl⟩ := List.mem_map.mp hx
      exact ⟨q, .inr hq, rfl⟩
  · rintro ⟨q, hq | hq, rfl⟩
    · exact List.mem_map.mpr ⟨nm q, List.mem_append_left _ (List.mem_map.mpr ⟨q, hq, rfl⟩), rfl⟩
    · exact List.mem_map.mpr ⟨nm q, List.mem_append_right _ (List.mem_map.mpr ⟨q, hq, rfl⟩), rfl⟩
theorem Rest.told (P : PsOk PS) (R : Rest prog X PS r T0 g M L Qp Qg os orow kA kT) (n : Int) : (valueAt kT n).isSome = true ↔ ∃ p ∈ PS, p.i = n ∧ p.comes ≤ r ∧ n ∉ wn Qp Qg := by
  constructor
  · intro h
    obtain ⟨p, hp, rfl⟩ := List.mem_map.mp (R.O.tk2 n h)
    obtain ⟨a, ha, rfl⟩ := R.memM hp
    have ht := R.O.tk a ha
    rw [h] at ht
    rcases R.split ha with hL | ⟨q, hq, rfl⟩
    · rcases R.ph a hL with ⟨y, te, e⟩ | ⟨y, te, e⟩ | ⟨x, e⟩
      · rw [e] at ht; exact nomatch ht
      · rw [e] at ht; exact nomatch ht
      · refine ⟨a.p, hp, rfl, R.ac a ha (by rw [e]; exact fun h => nomatch h), fun hw => ?_⟩
        obtain ⟨q, hq, hi⟩ := wn_mem.mp hw
        have := R.inj P (R.wt hq) ha hi
        rw [← this] at e
        exact nomatch e
    · exact nomatch ht
  · rintro ⟨p, hp, rfl, hc, hw⟩
    obtain ⟨a, ha, rfl⟩ := R.memM hp
    rw [R.O.tk a ha]
    have htm := R.O.tm a ha
    rcases R.split ha with hL | ⟨q, hq, rfl⟩
    · rcases R.ph a hL with ⟨y, te, e⟩ | ⟨y, te, e⟩ | ⟨x, e⟩
      · rw [e] at htm
        exact absurd hc (by have : r + 1 ≤ a.p.comes := htm; omega)
      · rw [e] at htm
        exact absurd hc (by have : r + 1 ≤ a.p.comes := htm; omega)
      · rw [e]; rfl
    · exact absurd (wn_mem.mpr ⟨q, hq, rfl⟩) hw
theorem Rest.posi (P : PsOk PS) (R : Rest prog X PS r T0 g M L Qp Qg os orow kA kT) : Posi (Qp.map nm) ∧ Posi (Qg.map nm) := by
  refine ⟨fun x hx => ?_, fun x hx => ?_⟩
  · obtain ⟨q, hq, rfl⟩ := List.mem_map.mp hx
    exact P.am _ (R.inPS (R.wt (.inl hq)))
  · obtain ⟨q, hq, rfl⟩ := List.mem_map.mp hx
    exact P.am _ (R.inPS (R.wt (.inr hq)))
theorem Rest.stab (R : Rest prog X PS r T0 g M L Qp Qg os orow kA kT) : Stab X.room g.level (Qp.map nm) (Qg.map nm) := by
  refine ⟨fun n a t e => ?_, fun n a t e => ?_⟩
  · cases Qp with
    | nil => exact nomatch e
    | cons q Q =>
      injection e with e _
      injection e with _ e
      exact e ▸ R.i1 q Q rfl
  · cases Qg with
    | nil => exact nomatch e
    | cons q Q =>
      injection e with e _
      injection e with _ e
      exact e ▸ R.i2 q Q rfl
theorem posi_c (h : Posi ps0) (hg : Posi gs0) (ha : 0 < pc.amt) : Posi (psC pc ps0) ∧ Posi (gsC pc gs0) := by
  unfold psC gsC
  refine ⟨fun x hx => ?_, fun x hx => ?_⟩
  · rcases List.mem_append.mp hx with hx | hx
    · exact h x hx
    · split at hx
      · rw [List.mem_singleton.mp hx]; exact ha
      · exact nomatch hx
  · rcases List.mem_append.mp hx with hx | hx
    · exact hg x hx
    · split at hx
      · exact nomatch hx
      · rw [List.mem_singleton.mp hx]; exact ha
end
section
variable {prog : Program} {X : Fx} {PS : List Pc} {r : Int} {pc : Pc} {T0 T1 : List (Addr × Obj)} {g g' : Gl} {M M' L L' : List Pr} {Qp Qg Qp' Qg' : List Wt} {os os' : List QE} {orow orow' : List (Addr × Obj)} {kA kA' kT kT' kD kD' : List (Int × Value)} {P1 G1 P' G' : List Tp} {S : List (Int × Tok)} {l' : Int}
theorem plain_conf (P : PsOk PS) (R0 : Rest prog X PS r T0 g M L Qp Qg os orow kA kT) (R1 : Rest prog X PS (r + 1) T1 g' M' L' Qp' Qg' os' orow' kA' kT') (hpc : pc ∈ PS)
    (hr : Reach X.room g.level (psC pc (Qp.map nm)) (gsC pc (Qg.map nm)) g'.level (Qp'.map nm) (Qg'.map nm)) (sv : SvR X.room g.level P1 G1 l' S P' G') (st : Stab X.room l' (P'.map Tp.nm) (G'.map Tp.nm))
    (hP : P1.map Tp.nm = psC pc (Qp.map nm)) (hG : G1.map Tp.nm = gsC pc (Qg.map nm)) : g'.level = l' ∧ Qp'.map nm = P'.map Tp.nm ∧ Qg'.map nm = G'.map Tp.nm := by
  obtain ⟨dp, dg, _, _, _, r2⟩ := sv
  rw [hP, hG] at r2
  obtain ⟨h1, h2⟩ := R0.posi P
  obtain ⟨h3, h4⟩ := posi_c (pc := pc) h1 h2 (P.am _ hpc)
  exact hr.conf h3 h4 R1.stab r2 st
/-- whom the comer's turn serves -/
structure Served (kT kT' kD : List (Int × Value)) (S : List (Int × Tok)) (r : Int) : Prop where
  nd : (S.map (·.1)).Nodup
  fresh : ∀ x ∈ S, valueAt kD x.1 = none
  due : ∀ kD', (∀ n ∈ S.map (·.1), ∃ u, valueAt kD' n = some (.int (r + 1) u)) → (∀ n, n ∉ S.map (·.1) → valueAt kD' n = valueAt kD n) → DueOk kT' kD'
theorem wn_of {A B : List Tp} (hP : A.map Tp.nm = Qp.map nm) (hG : B.map Tp.nm = Qg.map nm) : (A ++ B).map (·.n) = wn Qp Qg := by
  show _ = (Qp.map nm ++ Qg.map nm).map (·.1)
  rw [← hP, ← hG, ← List.map_append, List.map_map]
  rfl
theorem wnC_of {A B : List Tp} (hP : A.map Tp.nm = psC pc (Qp.map nm)) (hG : B.map Tp.nm = gsC pc (Qg.map nm)) : ((A ++ B).map (·.n)).Perm (pc.i :: wn Qp Qg) := by
  have e : (A ++ B).map (·.n) = (psC pc (Qp.map nm) ++ gsC pc (Qg.map nm)).map (·.1) := by
    rw [← hP, ← hG, ← List.map_append, List.map_map]
    rfl
  rw [e]
  refine List.Perm.map (l₂ := (pc.i, pc.amt) :: (Qp.map nm ++ Qg.map nm)) _ ?_
  unfold psC gsC
  split
  · rw [List.append_nil, List.append_assoc]
    exact List.perm_middle
  · rw [List.append_nil, ← List.append_assoc]
    exact (List.perm_append_comm (l₂ := [_])).trans (.refl _)
theorem served_of (P : PsOk PS) (R0 : Rest prog X PS r T0 g M L Qp Qg os orow kA kT) (R1 : Rest prog X PS (r + 1) T1 g' M' L' Qp' Qg' os' orow' kA' kT') (hpc : pc ∈ PS) (hcm : pc.comes = r + 1)
    (sv : SvR X.room g.level P1 G1 l' S P' G') (hP : P1.map Tp.nm = psC pc (Qp.map nm)) (hG : G1.map Tp.nm = gsC pc (Qg.map nm)) (hP' : P'.map Tp.nm = Qp'.map nm) (hG' : G'.map Tp.nm = Qg'.map nm)
    (k1 : ∀ n v, valueAt kT n = some v → valueAt kT' n = some v) (k2 : ∀ n v, valueAt kT' n = some v → valueAt kT n = none → ∃ u, v = .int (r + 1) u) (D : DueOk kT kD) : Served kT kT' kD S r := by
  obtain ⟨dp, dg, e1, e2, pm, _⟩ := sv
  have t0 := R0.told P
  have t1 := R1.told P
  -- the names that waited, with the comer's
  have all : (S.map (·.1) ++ wn Qp' Qg').Perm (pc.i :: wn Qp Qg) := by
    refine List.Perm.trans ?_ (wnC_of hP hG)
    rw [← wn_of hP' hG', e1, e2]
    refine (pm.append_right _).trans ?_
    rw [← List.map_append]
    refine List.Perm.map _ ?_
    rw [List.append_assoc, List.append_assoc]
    refine List.Perm.append_left _ ?_
    exact List.perm_append_comm_assoc _ _ _
  have hpcn : pc.i ∉ wn Qp Qg := fun h => by
    obtain ⟨q, hq, hi⟩ := wn_mem.mp h
    obtain ⟨a, ha, rfl⟩ := R0.memM hpc
    have := R0.inj P (R0.wt hq) ha hi
    subst this
    have := R0.ac _ ha (fun h => nomatch h)
    have h2 : q.p.comes = r + 1 := hcm
    have h3 : q.p.comes ≤ r := this
    omega
  have hwn : (wn Qp Qg).Nodup := by
    have h1 : (M.map fun a => a.p.i).Nodup := by
      have := ((R0.O.ps.map Pc.i).nodup_iff).mpr P.ni
      rwa [List.map_map] at this
    have h2 : (wn Qp Qg) = ((Qp.map Wt.pr ++ Qg.map Wt.pr).map fun a => a.p.i) := by
      show (Qp.map nm ++ Qg.map nm).map (·.1) = _
      simp [List.map_map, Function.comp_def]
    rw [h2]
    have h3 := ((R0.hM.map fun a => a.p.i).nodup_iff).mp h1
    rw [List.map_append] at h3
    exact (List.nodup_append.mp h3).2.1
  have hnd := (all.nodup_iff).mpr (List.nodup_cons.mpr ⟨hpcn, hwn⟩)
  rw [List.nodup_append] at hnd
  -- a name of S
  have hS : ∀ n ∈ S.map (·.1), (valueAt kT n).isSome = false ∧ (valueAt kT' n).isSome = true := by
    intro n hn
    have hm := all.mem_iff.mp (List.mem_append_left _ hn)
    have hw' : n ∉ wn Qp' Qg' := fun h => hnd.2.2 _ hn _ h rfl
    obtain ⟨p, hp, rfl, hc⟩ : ∃ p ∈ PS, p.i = n ∧ p.comes ≤ r + 1 ∧ (p.comes ≤ r → p.i ∈ wn Qp Qg) := by
      rcases List.mem_cons.mp hm with h | h
      · exact ⟨pc, hpc, h.symm, by omega, fun h => by omega⟩
      · obtain ⟨q, hq, rfl⟩ := wn_mem.mp h
        have h9 : q.p.comes ≤ r := R0.ac _ (R0.wt hq) (fun h => nomatch h)
        exact ⟨q.p, R0.inPS (R0.wt hq), rfl, by omega, fun _ => h⟩
    refine ⟨?_, (t1 _).mpr ⟨p, hp, rfl, hc.1, hw'⟩⟩
    rw [Bool.eq_false_iff]
    intro h
    obtain ⟨p2, hp2, hi, hc2, hw⟩ := (t0 _).mp h
    have : p2 = p := nodup_inj P.ni hp2 hp hi
    subst this
    exact hw (hc.2 hc2)
  refine ⟨hnd.1, fun x hx => ?_, fun kD' d1 d2 => ⟨fun n v hv => ?_, fun n hn => ?_⟩⟩
  · cases h : valueAt kD x.1 with
    | none => rfl
    | some v =>
      have := D.2 x.1 (by rw [h]; rfl)
      rw [(hS x.1 (List.mem_map.mpr ⟨x, hx, rfl⟩)).1] at this
      exact nomatch this
  · cases h : valueAt kT n with
    | some v0 =>
      have := k1 n v0 h
      rw [hv] at this
      injection this with this
      subst this
      obtain ⟨i, u, u', e, e'⟩ := D.1 n v h
      refine ⟨i, u, u', e, ?_⟩
      rw [d2 n fun hn => ?_]
      · exact e'
      · have := (hS n hn).1
        rw [h] at this
        exact nomatch this
    | none =>
      obtain ⟨u, rfl⟩ := k2 n v hv h
      obtain ⟨p, hp, rfl, hc, hw⟩ := (t1 n).mp (by rw [hv]; rfl)
      have hin : p.i ∈ pc.i :: wn Qp Qg := by
        by_cases h1 : p.comes ≤ r
        · by_cases h2 : p.i ∈ wn Qp Qg
          · exact .tail _ h2
          · have := (t0 p.i).mpr ⟨p, hp, rfl, h1, h2⟩
            rw [h] at this
            exact nomatch this
        · have : p = pc := nodup_inj P.nc hp hpc (by omega)
          rw [this]
          exact .head _
      rcases List.mem_append.mp (all.mem_iff.mpr hin) with h1 | h1
      · obtain ⟨u', e'⟩ := d1 _ h1
        exact ⟨_, u, u', rfl, e'⟩
      · exact absurd h1 hw
  · by_cases h1 : n ∈ S.map (·.1)
    · exact (hS n h1).2
    · rw [d2 n h1] at hn
      have := D.2 n hn
      cases h : valueAt kT n with
      | none => rw [h] at this; exact nomatch this
      | some v => rw [k1 n v h]; rfl
end
end

section
-- part L10
open PySem PySem.W PyProof.Rows PySem.Spec in
theorem turn_L10 {p : Program} {w : World} {A : Around} {en : Env} {Q : Flow → Shared → Prop} {E : Value → Shared → Prop} {s : Shared} (h : Q .next s) : wpAny (model p w) A (execs [] en) Q E s := by
  w_top off
  walk1
  exact h
open PySem PySem.W PyProof.Rows PySem.Calls PyProof.V PySem.Spec

theorem lsT_snoc {P : List Tp} {t : Tp} {n : Nat} : lsT (P ++ [t]) n = { cls := .type "list", data := .seq ((P.map fun t => Value.ref t.a).toArray.push (.ref t.a)) n } := by simp
theorem tp_ex {h₀ h : Heap} {L D : Addr} {n am : Int} {t1 t2 : Tok} {k : Nat} {l : List (Addr × Obj)} (N : News h₀ L h ((D, tup2 (.int n t1) (.int am t2) k) :: l)) : ∃ t : Tp, D = t.a ∧ n = t.n ∧ am = t.amt ∧ News h₀ L h (t.row :: l) := ⟨⟨D, n, am, t1, t2, k⟩, rfl, rfl, rfl, N⟩
local macro_rules | `(tactic| walk_at "subscriptTail Name Name") => `(tactic| (k_here; (with_reducible show wpAny _ _ (subscriptTail _ _ (Value.ref _) (Value.int _ _)) _ _ _); k_dflt (refine' itemN_T ?N ?m ?z ?x ?_; (case N => k_asm); (case m => k_mem); (case z => omega); (case x => with_reducible assumption); k_whole)))
section
variable {prog : Program} {w : World}
theorem app_st {p : Program} {loose : List Str} {mean : ExcName → Option Value} {mg mb : Str → Option Value} {dp un : Nat} {gd : Option (List Code)} {a : Addr} {ccd : Value} {A₀ : Around} {base h₀ : Heap} {L c1 c2 c3 pu ge on : Addr} {m : Str → Option Value} {s : Shared} {Q : Flow → Shared → Prop} {E : Value → Shared → Prop} {P G : List Tp} {T : List On} {x : On} {j kP kG kT : Nat} {tn : Tok} {tl : List (Addr × Obj)}
    (B : Below A₀ base [] h₀) (F : Fr h₀ L s.heap m) (XB : (Mine.kk.heap_1 w.params).In base) (TB : Top p loose mean mg mb base) (C : CodeHd base 979 975) (hdp : dp + 300 < recursionLimit) (hun : un + 2000 < cLine)
    (mp : m (Str.ofString "puts") = some (.ref pu)) (mg9 : m (Str.ofString "gets") = some (.ref ge)) (mo : m (Str.ofString "ones") = some (.ref on)) (mn : m (Str.ofString "number") = some (.int (j : Int) tn))
    (nd : ([pu, ge] ++ tl.map (·.1)).Nodup) (N : News h₀ L s.heap ((pu, lsT P kP) :: (ge, lsT G kG) :: tl)) (hT : (on, lsN T kT) ∈ tl) (hxr : x.row ∈ tl) (hx : T[j]? = some x) (hj : j < 1000) (hz : P.length + G.length ≤ 7)
    (ret : ∀ (t : Tp) (P1 G1 : List Tp) (kP' kG' : Nat) (h' : Heap) (tk' : Nat), t.n = (j : Int) → t.amt = x.x → (x.b = true ∧ P1 = P ++ [t] ∧ G1 = G ∨ x.b = false ∧ P1 = P ∧ G1 = G ++ [t]) → Fr h₀ L h' m → News h₀ L h' (t.row :: (pu, lsT P1 kP') :: (ge, lsT G1 kG') :: tl) → (∀ p ∈ (pu, lsT P kP) :: (ge, lsT G kG) :: tl, p.1 < t.a) → Q .next { s with heap := h', toks := tk' }) :
    wpAny (model prog w) (lawA w.params dp un gd c1 c2 c3 L a ccd) (exec (lawTu w.params 0) (lawE w.params c1 c2 c3 L a ccd)) Q E s := by
  refine Mine.go_of ?_
  simp (disch := k_dflt (
  have X := XB.keeps B.stays
  have T' := TB.keeps B.stays
  have hk := lawS_kind w.params
  (with_unfolding_all show wpAny _ _ (exec (Stmt.Expr _ _) _) _ _ _)
  have mE := chain_eq (l := [(Str.ofString "puts", .ref pu), (Str.ofString "gets", .ref ge), (Str.ofString "ones", .ref on), (Str.ofString "number", .int (j : Int) tn)]) (m := m) ⟨mp, mg9, mo, mn, trivial⟩
  replace F := fr_chain [(Str.ofString "puts", .ref pu), (Str.ofString "gets", .ref ge), (Str.ofString "ones", .ref on), (Str.ofString "number", .int (j : Int) tn)] F ⟨mp, mg9, mo, mn, trivial⟩
  dsimp only [chain] at F
  have nd' := nd
  simp only [List.cons_append, List.nil_append] at nd'
  walk_at "nd"
  have e1 : on ≠ pu := row_ne (by assumption) hT
  have e2 : on ≠ ge := row_ne (by assumption) hT
  have e3 : x.a ≠ pu := row_ne (by assumption) hxr
  have e4 : x.a ≠ ge := row_ne (by assumption) hxr
  have N2 := news_rows N (l' := (pu, lsT P kP) :: (ge, lsT G kG) :: (on, lsN T kT) :: x.row :: tl) (an_cons (.head _) (an_cons (.tail _ (.head _)) (an_cons (.tail _ (.tail _ hT)) (an_cons (.tail _ (.tail _ hxr)) fun p hp => .tail _ (.tail _ hp)))))
  clear N
  k_steps
  · rename News _ _ _ _ => N9
    rename Fr _ _ _ _ => F9
    rename ∀ p : Addr × Obj, p ∈ (_ : List (Addr × Obj)) → @LT.lt Nat _ p.1 _ => lt9
    rw [show (fun z => if z = Str.ofString "puts" then some (.ref pu) else if z = Str.ofString "gets" then some (.ref ge) else if z = Str.ofString "ones" then some (.ref on) else if z = Str.ofString "number" then some (.int (j : Int) tn) else m z) = m from mE] at F9
    obtain ⟨t, rfl, ht1, ht2, N8⟩ := tp_ex N9
    exact ret t (P ++ [t]) G _ _ _ _ ht1.symm ht2.symm (.inl ⟨by assumption, rfl, rfl⟩) F9 (news_rows N8 (an_cons (.head _) (an_cons (by rw [lsT_snoc]; k_mem) (an_cons (by k_mem) fun p hp => .tail _ (.tail _ (.tail _ (.tail _ (.tail _ hp)))))))) (an_cons (lt9 _ (.head _)) (an_cons (lt9 _ (.tail _ (.head _))) fun p hp => lt9 p (.tail _ (.tail _ (.tail _ (.tail _ hp))))))
  · rename News _ _ _ _ => N9
    rename Fr _ _ _ _ => F9
    rename ∀ p : Addr × Obj, p ∈ (_ : List (Addr × Obj)) → @LT.lt Nat _ p.1 _ => lt9
    rw [show (fun z => if z = Str.ofString "puts" then some (.ref pu) else if z = Str.ofString "gets" then some (.ref ge) else if z = Str.ofString "ones" then some (.ref on) else if z = Str.ofString "number" then some (.int (j : Int) tn) else m z) = m from mE] at F9
    obtain ⟨t, rfl, ht1, ht2, N8⟩ := tp_ex N9
    exact ret t P (G ++ [t]) _ _ _ _ ht1.symm ht2.symm (.inr ⟨by assumption, rfl, rfl⟩) F9 (news_rows N8 (an_cons (.head _) (an_cons (by k_mem) (an_cons (by rw [lsT_snoc]; k_mem) fun p hp => .tail _ (.tail _ (.tail _ (.tail _ (.tail _ hp)))))))) (an_cons (lt9 _ (.head _)) (an_cons (lt9 _ (.tail _ (.head _))) fun p hp => lt9 p (.tail _ (.tail _ (.tail _ (.tail _ hp)))))))) only [↓Mine.go_eq]
end
end

section
-- part L11
open PySem PySem.W PyProof.Rows PySem.Spec in
theorem turn_L11 {p : Program} {w : World} {A : Around} {en : Env} {Q : Flow → Shared → Prop} {E : Value → Shared → Prop} {s : Shared} (h : Q .next s) : wpAny (model p w) A (execs [] en) Q E s := by
  w_top off
  walk1
  exact h
open PySem PySem.W PyProof.Rows PySem.Calls PyProof.V PySem.Spec

local macro_rules | `(tactic| walk_at "call ref") => `(tactic| (k_here; (with_reducible show wpAny _ _ (call (Value.ref 659) _ _) _ _ _); refine hold_of ?_))
section
variable {prog : Program} {X : Fx} {PS : List Pc} {kT : List (Int × Value)} {pc : Pc} {T0 : List (Addr × Obj)} {g : Gl} {M LL : List Pr} {Qp Qg : List Wt} {os : List QE} {orow : List (Addr × Obj)} {kA : List (Int × Value)}
theorem run_st {p : Program} {loose : List Str} {mean : ExcName → Option Value} {mg mb : Str → Option Value} {dp un : Nat} {gd : Option (List Code)} {a : Addr} {ccd : Value} {A₀ : Around} {base h₀ : Heap} {L c1 c2 c3 : Addr} {m : Str → Option Value} {s : Shared} {Q : Flow → Shared → Prop} {E : Value → Shared → Prop} {r : Int} {tp : Tok}
    (B : Below A₀ base [] h₀) (F : Fr h₀ L s.heap m) (XB : (Mine.kk.heap_1 X.w.params).In base) (TB : Top p loose mean mg mb base) (C : CodeHd base 979 975) (hdp : dp + 300 < recursionLimit) (hun : un + 2000 < cLine)
    (me : m (Str.ofString "env") = some (.ref X.e)) (mp : m (Str.ofString "place") = some (.int r tp))
    (P : PsOk PS) (H : PgOk prog) (G : OcOk X) (hr : 0 ≤ r) (I : Rest prog X PS r T0 g M LL Qp Qg os orow kA kT) (hc : ∃ a ∈ LL, a.p = pc ∧ a.ph.asked = none) (hcm : pc.comes = r + 1)
    (N : News h₀ L s.heap (wR X g (Qp.map Wt.x) (Qg.map Wt.x) (M.flatMap Pr.l ++ (orow ++ T0))))
    (ret : ∀ (rows' : List (Addr × Obj)) (h' : Heap) (tk' : Nat), DoneW prog X PS r kT pc g.level (Qp.map nm) (Qg.map nm) T0 rows' → Fr h₀ L h' m → News h₀ L h' rows' → Q .next { s with heap := h', toks := tk' }) :
    wpAny (model prog X.w) (lawA X.w.params dp un gd c1 c2 c3 L a ccd) (exec (lawTu X.w.params 3) (lawE X.w.params c1 c2 c3 L a ccd)) Q E s := by
  refine Mine.go_of ?_
  simp (disch := k_dflt (
  have X' := XB.keeps B.stays
  have T' := TB.keeps B.stays
  have hk := lawS_kind X.w.params
  (with_unfolding_all show wpAny _ _ (exec (Stmt.Expr _ _) _) _ _ _)
  have mE := chain_eq (l := [(Str.ofString "env", .ref X.e), (Str.ofString "place", .int r tp)]) (m := m) ⟨me, mp, trivial⟩
  replace F := fr_chain [(Str.ofString "env", .ref X.e), (Str.ofString "place", .int r tp)] F ⟨me, mp, trivial⟩
  dsimp only [chain] at F
  have N2 := news_rows N (l' := (X.e, instObj 662 X.ed) :: (X.ed, envO X.w X.t1 X.t2 X.t3 X.t4 g.u1 g.now X.q X.c g.act) :: wR X g (Qp.map Wt.x) (Qg.map Wt.x) (M.flatMap Pr.l ++ (orow ++ T0))) (an_cons (.head _) (an_cons (.tail _ (.head _)) fun p hp => hp))
  k_steps
  unfold Hold
  rename Fr _ _ _ _ => F9
  refine wpAny_call ?_
  refine' run_w (kt := s.toks) P H G ?f1 ?f2 hr I hc hcm B F9 XB TB C (lawS_kind _) ?dp ?un N ?ret
  case f1 => k_is
  case f2 => k_is
  case dp => omega
  case un => omega
  case ret =>
    intro rows' h' tk' hD F' N'
    rw [show (fun z => if z = Str.ofString "env" then some (.ref X.e) else if z = Str.ofString "place" then some (.int r tp) else m z) = m from mE] at F'
    exact ret rows' h' tk' hD F' N')) only [↓Mine.go_eq]
end
end

section
-- part L12
open PySem PySem.W PyProof.Rows PySem.Spec in
theorem turn_L12 {p : Program} {w : World} {A : Around} {en : Env} {Q : Flow → Shared → Prop} {E : Value → Shared → Prop} {s : Shared} (h : Q .next s) : wpAny (model p w) A (execs [] en) Q E s := by
  w_top off
  walk1
  exact h
open PySem PySem.W PyProof.Rows PySem.Calls PyProof.V PySem.Spec

theorem value_mem {k : Int} {v : Value} : ∀ {kvs : List (Int × Value)}, (kvs.map (·.1)).Nodup → (k, v) ∈ kvs → valueAt kvs k = some v
  | [], _, h => nomatch h
  | (a, b) :: r, hn, h => by
    rw [List.map_cons, List.nodup_cons] at hn
    unfold valueAt
    rcases List.mem_cons.mp h with e | h
    · injection e with e1 e2
      subst e1 e2
      simp
    · have hne : a ≠ k := fun e => hn.1 (e ▸ List.mem_map.mpr ⟨_, h, rfl⟩)
      have := value_mem hn.2 h
      unfold valueAt at this
      rw [List.find?_cons, show (decide (a = k)) = false from decide_eq_false hne]
      exact this
theorem value_key {n : Int} {kvs : List (Int × Value)} (h : (valueAt kvs n).isSome = true) : n ∈ kvs.map (·.1) := by
  rw [valueAt_isSome_eq_any, List.any_eq_true] at h
  obtain ⟨kv, h1, h2⟩ := h
  exact List.mem_map.mpr ⟨kv, h1, by simpa using h2⟩
theorem dict_nd {prog : Program} {w : World} {o : Obj} {kvs : List (Int × Value)} (h : o.IsDictOf (PySem.intKind prog w) kvs) : (kvs.map (·.1)).Nodup := by
  obtain ⟨es, ep, _, _, _, _, nd⟩ := h
  exact nd
theorem hits_of {A : Around} {s : Shared} {kT kD : List (Int × Value)} (hn : (kT.map (·.1)).Nodup) (D : DueOk kT kD) : KeqHits A s kD kT true := by
  have go : ∀ l : List (Int × Value), (∀ p ∈ l, p ∈ kT) → KeqHits A s kD l true := by
    intro l
    induction l with
    | nil => exact fun _ => .nil
    | cons p l ih =>
      obtain ⟨k, v⟩ := p
      intro h
      obtain ⟨i, u, u', rfl, e⟩ := D.1 k v (value_mem hn (h _ (.head _)))
      have h2 := KeqHits.hit (A := A) (s := s) (r := l) e (SeqAt.EqAt.int_int i u i u') (ih fun p hp => h p (.tail _ hp))
      rw [beq_self_eq_true, Bool.true_and] at h2
      exact h2
  exact go kT fun _ h => h
theorem due_len {kT kD : List (Int × Value)} (hn : (kT.map (·.1)).Nodup) (hn' : (kD.map (·.1)).Nodup) (D : DueOk kT kD) : kT.length = kD.length := by
  have h1 := nodup_len hn (m := kD.map (·.1)) fun n hn => by
    obtain ⟨i, u, u', e, e'⟩ : ∃ i u u', valueAt kT n = some (.int i u) ∧ valueAt kD n = some (.int i u') := by
      have := val_some hn
      cases h : valueAt kT n with
      | none => rw [h] at this; exact nomatch this
      | some v =>
        obtain ⟨i, u, u', rfl, e⟩ := D.1 n v h
        exact ⟨i, u, u', rfl, e⟩
    exact value_key (by rw [e']; rfl)
  have h2 := nodup_len hn' (m := kT.map (·.1)) fun n hn => value_key (D.2 n (val_some hn))
  rw [List.length_map, List.length_map] at h1 h2
  omega
local macro_rules | `(tactic| walk_at "compareOp NotEq ref ref") => `(tactic| refine hold_of ?_)
section
variable {prog : Program} {w : World}
theorem if_st {p : Program} {loose : List Str} {mean : ExcName → Option Value} {mg mb : Str → Option Value} {dp un : Nat} {gd : Option (List Code)} {a : Addr} {ccd : Value} {A₀ : Around} {base h₀ : Heap} {L c1 c2 c3 tn td pq gq tol du e : Addr} {m : Str → Option Value} {s : Shared} {Q : Flow → Shared → Prop} {E : Value → Shared → Prop} {o3 ot od : Obj} {room level : Int} {r1 r2 r3 r4 r5 v1 v2 lt rt : Tok} {kT kD : List (Int × Value)} {tl : List (Addr × Obj)}
    (B : Below A₀ base [] h₀) (F : Fr h₀ L s.heap m) (XB : (Mine.kk.heap_1 w.params).In base) (TB : Top p loose mean mg mb base) (C : CodeHd base 979 975) (hdp : dp + 300 < recursionLimit) (hun : un + 2000 < cLine)
    (mt : m (Str.ofString "tank") = some (.ref tn)) (ml : m (Str.ofString "level") = some (.int level lt)) (mr : m (Str.ofString "room") = some (.int room rt)) (mo : m (Str.ofString "told") = some (.ref tol))
    (N : News h₀ L s.heap ((tn, instObj 929 td) :: (td, tankO w e pq gq room level r1 r2 r3 r4 r5 v1 v2) :: (tol, ot) :: (du, od) :: (c3, o3) :: tl)) (d3 : o3.data = .cell (some (.ref du))) (dt : ot.IsDictOf (PySem.intKind prog w) kT) (dd : od.IsDictOf (PySem.intKind prog w) kD) (D : DueOk kT kD) (la : (tol == sysModules) = false) (lb : (du == sysModules) = false) (h0 : 0 ≤ level) (h1 : level ≤ room)
    (ret : ∀ (h' : Heap) (tk' : Nat), Fr h₀ L h' m → News h₀ L h' ((tn, instObj 929 td) :: (td, tankO w e pq gq room level r1 r2 r3 r4 r5 v1 v2) :: (tol, ot) :: (du, od) :: (c3, o3) :: tl) → Q .next { s with heap := h', toks := tk' }) :
    wpAny (model prog w) (lawA w.params dp un gd c1 c2 c3 L a ccd) (exec (lawTu w.params 4) (lawE w.params c1 c2 c3 L a ccd)) Q E s := by
  refine Mine.go_of ?_
  simp (disch := k_dflt (
  have X := XB.keeps B.stays
  have T := TB.keeps B.stays
  have hk := lawS_kind w.params
  (with_unfolding_all show wpAny _ _ (exec (Stmt.If _ _ _ _) _) _ _ _)
  have mE := chain_eq (l := [(Str.ofString "tank", .ref tn), (Str.ofString "level", .int level lt), (Str.ofString "room", .int room rt), (Str.ofString "told", .ref tol)]) (m := m) ⟨mt, ml, mr, mo, trivial⟩
  replace F := fr_chain [(Str.ofString "tank", .ref tn), (Str.ofString "level", .int level lt), (Str.ofString "room", .int room rt), (Str.ofString "told", .ref tol)] F ⟨mt, ml, mr, mo, trivial⟩
  dsimp only [chain] at F
  k_steps
  · exfalso
    rename _ ≠ _ => hb
    exact hb rfl
  · unfold Hold
    rename News _ _ _ _ => N9
    rename Fr _ _ _ _ => F9
    refine keq_ne (r := true) la lb (kda_dict N9 (by k_mem) dt) (kda_dict N9 (by k_mem) dd) (by dsimp only [lawA, kTop]; omega) (fun _ => hits_of (dict_nd dt) D) ?_
    rw [show (!((kT.length == kD.length) && true)) = false by rw [due_len (dict_nd dt) (dict_nd dd) D]; simp]
    k_steps
    rename News _ _ _ _ => N8
    rename Fr _ _ _ _ => F8
    rw [show (fun z => if z = Str.ofString "tank" then some (.ref tn) else if z = Str.ofString "level" then some (.int level lt) else if z = Str.ofString "room" then some (.int room rt) else if z = Str.ofString "told" then some (.ref tol) else m z) = m from mE] at F8
    exact ret _ _ F8 N8)) only [↓Mine.go_eq]
end
end

section
-- part L13a
open PySem PySem.W PyProof.Rows PySem.Spec in
theorem turn_L13a {p : Program} {w : World} {A : Around} {en : Env} {Q : Flow → Shared → Prop} {E : Value → Shared → Prop} {s : Shared} (h : Q .next s) : wpAny (model p w) A (execs [] en) Q E s := by
  w_top off
  walk1
  exact h
open PySem PySem.W PyProof.Rows PySem.Calls PyProof.V PySem.Spec

abbrev TZ (pu ge du c3 : Addr) (o3 : Obj) (P : List Tp) (kP : Nat) (G : List Tp) (kG : Nat) (od : Obj) (Z1 : List (Addr × Obj)) : List (Addr × Obj) := (pu, lsT P kP) :: (ge, lsT G kG) :: (du, od) :: (c3, o3) :: Z1
theorem wR_app {X : Fx} {g : Gl} {Wp Wg : List WE} {A B T : List (Addr × Obj)} : wR X g Wp Wg (A ++ (B ++ T)) = wR X g Wp Wg (A ++ B) ++ T := by
  simp only [wR, List.append_assoc]
def Keep5 (m m' : Str → Option Value) : Prop := ∀ z, z ≠ Str.ofString "place" → z ≠ Str.ofString "number" → z ≠ Str.ofString "served" → z ≠ Str.ofString "level" → z ≠ Str.ofString "one" → m' z = m z
def LJ (prog : Program) (X : Fx) (PS : List Pc) (pu ge du c3 : Addr) (o3 : Obj) (Z0 : List (Addr × Obj)) (m0 : Str → Option Value) (r : Nat) (m' : Str → Option Value) (nw : List (Addr × Obj)) : Prop :=
  ∃ (g : Gl) (M LL : List Pr) (Qp Qg : List Wt) (os : List QE) (orow : List (Addr × Obj)) (kA kT : List (Int × Value)) (P G : List Tp) (kP kG : Nat) (kD : List (Int × Value)) (od : Obj) (Z1 : List (Addr × Obj)) (lt : Tok),
    Rest prog X PS (r : Int) (TZ pu ge du c3 o3 P kP G kG od Z1) g M LL Qp Qg os orow kA kT ∧ nw = wR X g (Qp.map Wt.x) (Qg.map Wt.x) (M.flatMap Pr.l ++ (orow ++ TZ pu ge du c3 o3 P kP G kG od Z1)) ∧ P.map Tp.nm = Qp.map nm ∧ G.map Tp.nm = Qg.map nm ∧
    od.IsDictOf (PySem.intKind prog X.w) kD ∧ DueOk kT kD ∧ (∀ t ∈ P ++ G, t.row ∈ Z1) ∧ (∀ z ∈ Z0, z ∈ Z1) ∧ m' (Str.ofString "level") = some (.int g.level lt) ∧ Keep5 m0 m' ∧ 0 ≤ g.level ∧ g.level ≤ X.room
theorem Rest.swap {prog : Program} {X : Fx} {PS : List Pc} {r : Int} {T0 T1 : List (Addr × Obj)} {g : Gl} {M L : List Pr} {Qp Qg : List Wt} {os : List QE} {orow : List (Addr × Obj)} {kA kT : List (Int × Value)} (R : Rest prog X PS r T0 g M L Qp Qg os orow kA kT)
    (nd : ((wR X g (Qp.map Wt.x) (Qg.map Wt.x) (M.flatMap Pr.l ++ orow) ++ T1).map (·.1)).Nodup) : Rest prog X PS r T1 g M L Qp Qg os orow kA kT := by
  refine ⟨R.hM, ⟨R.A.ag, R.A.hp, R.A.de, R.A.ei, by rw [wR_app]; exact nd, fun y hy => ?_⟩, R.O, R.ol, R.hP, R.hG, R.ph, R.i1, R.i2, R.ac, R.now⟩
  refine List.mem_append_left _ ?_
  have := R.ol
  cases this with
  | none => exact nomatch hy
  | one _ _ _ => rw [List.mem_singleton.mp hy]; exact .head _
theorem Rest.nd0 {prog : Program} {X : Fx} {PS : List Pc} {r : Int} {T0 : List (Addr × Obj)} {g : Gl} {M L : List Pr} {Qp Qg : List Wt} {os : List QE} {orow : List (Addr × Obj)} {kA kT : List (Int × Value)} (R : Rest prog X PS r T0 g M L Qp Qg os orow kA kT) : ((wR X g (Qp.map Wt.x) (Qg.map Wt.x) (M.flatMap Pr.l ++ orow) ++ T0).map (·.1)).Nodup := by
  have := R.A.nd
  rw [wR_app] at this
  exact this
theorem Rest.len {prog : Program} {X : Fx} {PS : List Pc} {r : Int} {T0 : List (Addr × Obj)} {g : Gl} {M L : List Pr} {Qp Qg : List Wt} {os : List QE} {orow : List (Addr × Obj)} {kA kT : List (Int × Value)} (P : PsOk PS) (R : Rest prog X PS r T0 g M L Qp Qg os orow kA kT) : Qp.length + Qg.length ≤ 7 := by
  have h1 := R.O.lenM P
  have h2 := R.hM.length_eq
  simp only [List.length_append, List.length_map] at h2
  omega
/-- the next comer -/
theorem Rest.comer {prog : Program} {X : Fx} {PS : List Pc} {r : Int} {T0 : List (Addr × Obj)} {g : Gl} {M L : List Pr} {Qp Qg : List Wt} {os : List QE} {orow : List (Addr × Obj)} {kA kT : List (Int × Value)} {pc : Pc} (R : Rest prog X PS r T0 g M L Qp Qg os orow kA kT) (h : pc ∈ PS) (hc : pc.comes = r + 1) : ∃ a ∈ L, a.p = pc ∧ a.ph.asked = none := by
  obtain ⟨a, ha, rfl⟩ := R.memM h
  have hn : a.ph.asked = none := by
    by_cases h1 : a.ph.asked = none
    · exact h1
    · have := R.ac a ha h1
      omega
  rcases R.split ha with hL | ⟨q, hq, rfl⟩
  · exact ⟨a, hL, rfl, hn⟩
  · exact nomatch hn
theorem enum_drop {vs : List Value} {i r : Nat} {v : Itm} {l : List Itm} (h : v :: l = (enumItems i vs).drop r) : ∃ y, vs[r]? = some y ∧ v = .pair (fun t => .int ((i + r : Nat) : Int) t) y ∧ l = (enumItems i vs).drop (r + 1) := by
  have hl : r < (enumItems i vs).length := by
    rcases Nat.lt_or_ge r (enumItems i vs).length with h1 | h1
    · exact h1
    · rw [List.drop_eq_nil_of_le h1] at h
      exact nomatch h
  have hv : r < vs.length := by rwa [enumItems_length] at hl
  rw [List.drop_eq_getElem_cons hl] at h
  injection h with h1 h2
  have h3 := enumItems_get vs i r (List.getElem?_eq_getElem hv)
  rw [List.getElem?_eq_getElem hl] at h3
  injection h3 with h3
  exact ⟨vs[r], List.getElem?_eq_getElem hv, by rw [h1, h3], h2⟩
theorem enum_nil {vs : List Value} {i r : Nat} (h : [] = (enumItems i vs).drop r) : vs.length ≤ r := by
  have := congrArg List.length h
  rw [List.length_drop, enumItems_length] at this
  simp at this
  omega
theorem served_pre {prog : Program} {X : Fx} {PS : List Pc} {r : Int} {pc : Pc} {T0 : List (Addr × Obj)} {g : Gl} {M L : List Pr} {Qp Qg : List Wt} {os : List QE} {orow : List (Addr × Obj)} {kA kT kD : List (Int × Value)} {P1 G1 P' G' : List Tp} {S : List (Int × Tok)} {l' : Int}
    (P : PsOk PS) (R0 : Rest prog X PS r T0 g M L Qp Qg os orow kA kT) (hpc : pc ∈ PS) (hcm : pc.comes = r + 1)
    (sv : SvR X.room g.level P1 G1 l' S P' G') (hP : P1.map Tp.nm = psC pc (Qp.map nm)) (hG : G1.map Tp.nm = gsC pc (Qg.map nm)) (D : DueOk kT kD) : (S.map (·.1)).Nodup ∧ ∀ x ∈ S, valueAt kD x.1 = none := by
  obtain ⟨dp, dg, e1, e2, pm, _⟩ := sv
  have t0 := R0.told P
  have all : (S.map (·.1) ++ (P' ++ G').map (·.n)).Perm (pc.i :: wn Qp Qg) := by
    refine List.Perm.trans ?_ (wnC_of hP hG)
    rw [e1, e2]
    refine (pm.append_right _).trans ?_
    rw [← List.map_append]
    refine List.Perm.map _ ?_
    rw [List.append_assoc, List.append_assoc]
    refine List.Perm.append_left _ ?_
    exact List.perm_append_comm_assoc _ _ _
  have hpcn : pc.i ∉ wn Qp Qg := fun h => by
    obtain ⟨q, hq, hi⟩ := wn_mem.mp h
    obtain ⟨a, ha, rfl⟩ := R0.memM hpc
    have := R0.inj P (R0.wt hq) ha hi
    subst this
    have := R0.ac _ ha (fun h => nomatch h)
    have h2 : q.p.comes = r + 1 := hcm
    have h3 : q.p.comes ≤ r := this
    omega
  have hwn : (wn Qp Qg).Nodup := by
    have h1 : (M.map fun a => a.p.i).Nodup := by
      have := ((R0.O.ps.map Pc.i).nodup_iff).mpr P.ni
      rwa [List.map_map] at this
    have h2 : (wn Qp Qg) = ((Qp.map Wt.pr ++ Qg.map Wt.pr).map fun a => a.p.i) := by
      show (Qp.map nm ++ Qg.map nm).map (·.1) = _
      simp [List.map_map, Function.comp_def]
    rw [h2]
    have h3 := ((R0.hM.map fun a => a.p.i).nodup_iff).mp h1
    rw [List.map_append] at h3
    exact (List.nodup_append.mp h3).2.1
  have hnd := (all.nodup_iff).mpr (List.nodup_cons.mpr ⟨hpcn, hwn⟩)
  rw [List.nodup_append] at hnd
  refine ⟨hnd.1, fun x hx => ?_⟩
  cases h : valueAt kD x.1 with
  | none => rfl
  | some v =>
    exfalso
    have h1 := D.2 x.1 (by rw [h]; rfl)
    obtain ⟨p2, hp2, hi, hc2, hw⟩ := (t0 _).mp h1
    rcases List.mem_cons.mp (all.mem_iff.mp (List.mem_append_left _ (List.mem_map.mpr ⟨x, hx, rfl⟩))) with h | h
    · have : p2 = pc := nodup_inj P.ni hp2 hpc (hi.trans h)
      subst this
      omega
    · exact hw h
theorem asked_of {prog : Program} {X : Fx} {PS : List Pc} {r : Int} {T0 : List (Addr × Obj)} {g : Gl} {M L : List Pr} {Qp Qg : List Wt} {os : List QE} {orow : List (Addr × Obj)} {kA kT : List (Int × Value)} {Q : List Wt} {P : List Tp}
    (R : Rest prog X PS r T0 g M L Qp Qg os orow kA kT) (hQ : ∀ q ∈ Q, q ∈ Qp ∨ q ∈ Qg) (hP : P.map Tp.nm = Q.map nm) (i : Nat) (x : WE) (t : Tp) (h1 : (Q.map Wt.x)[i]? = some x) (h2 : P[i]? = some t) : valueAt kA t.n = some (.ref x.e) := by
  rw [List.getElem?_map] at h1
  obtain ⟨q, hq, rfl⟩ := Option.map_eq_some_iff.mp h1
  have h3 := congrArg (fun l => l[i]?) hP
  rw [List.getElem?_map, List.getElem?_map, h2, hq] at h3
  injection h3 with h3
  have h4 : t.n = q.p.i := congrArg Prod.fst h3
  rw [h4]
  exact R.O.ak q.pr (R.wt (hQ q (List.mem_of_getElem? hq)))
section
variable {X : Fx} {g : Gl} {Wp Wg : List WE} {r : List (Addr × Obj)}
theorem wR_tn : (X.tn, instObj 929 X.td) ∈ wR X g Wp Wg r := List.mem_append_right _ (List.mem_append_right _ (List.mem_append_left _ (.head _)))
theorem wR_td : (X.td, tankO X.w X.e X.pq X.gq X.room g.level X.r1 X.r2 X.r3 X.r4 X.r5 X.v1 g.v2) ∈ wR X g Wp Wg r := List.mem_append_right _ (List.mem_append_right _ (List.mem_append_left _ (.tail _ (.head _))))
theorem wR_pq : (X.pq, wqO Wp g.np) ∈ wR X g Wp Wg r := List.mem_append_right _ (List.mem_append_right _ (List.mem_append_left _ (.tail _ (.tail _ (.head _)))))
theorem wR_gq : (X.gq, wqO Wg g.ng) ∈ wR X g Wp Wg r := List.mem_append_right _ (List.mem_append_right _ (List.mem_append_left _ (.tail _ (.tail _ (.tail _ (.head _))))))
theorem wR_ask : (X.ask, g.oa) ∈ wR X g Wp Wg r := List.mem_append_right _ (List.mem_append_right _ (List.mem_append_left _ (.tail _ (.tail _ (.tail _ (.tail _ (.head _)))))))
theorem wR_tol : (X.tol, g.ot) ∈ wR X g Wp Wg r := List.mem_append_right _ (List.mem_append_right _ (List.mem_append_left _ (.tail _ (.tail _ (.tail _ (.tail _ (.tail _ (.head _))))))))
theorem Rest.len' {prog : Program} {PS : List Pc} {r : Int} {T0 : List (Addr × Obj)} {M L : List Pr} {Qp Qg : List Wt} {os : List QE} {orow : List (Addr × Obj)} {kA kT : List (Int × Value)} (P : PsOk PS) (R : Rest prog X PS r T0 g M L Qp Qg os orow kA kT) {Q : List Wt} {T : List Tp} (h : Q = Qp ∨ Q = Qg) (e : T.map Tp.nm = Q.map nm) : (Q.map Wt.x).length = T.length ∧ T.length ≤ 7 := by
  have h1 := congrArg List.length e
  have h2 := R.len P
  rw [List.length_map, List.length_map] at h1
  rw [List.length_map]
  rcases h with rfl | rfl <;> exact ⟨h1.symm, by omega⟩
end
end

section
-- part L13
open PySem PySem.W PyProof.Rows PySem.Spec in
theorem turn_L13 {p : Program} {w : World} {A : Around} {en : Env} {Q : Flow → Shared → Prop} {E : Value → Shared → Prop} {s : Shared} (h : Q .next s) : wpAny (model p w) A (execs [] en) Q E s := by
  w_top off
  walk1
  exact h
open PySem PySem.W PyProof.Rows PySem.Calls PyProof.V PySem.Spec

local macro_rules | `(tactic| walk_at "exec Expr") => `(tactic| refine hold_of ?_)
local macro_rules | `(tactic| walk_at "exec For Name Name cons nil") => `(tactic| refine hold_of ?_)
local macro_rules | `(tactic| walk_at "exec If") => `(tactic| refine hold_of ?_)
local macro_rules | `(tactic| walk_at "pyIter ref") => `(tactic| refine hold_of ?_)
local macro_rules | `(tactic| walk_at "call type:enumerate") => `(tactic| refine hold_of ?_)
local macro_rules | `(tactic| walk_at "Exists") => `(tactic| refine hold_of ?_)
local macro_rules | `(tactic| walk_at "exec For Tuple Call cons nil") => `(tactic| fail)
local macro_rules | `(tactic| walk_at "call ref") => `(tactic| (k_here; (with_reducible show wpAny _ _ (call (Value.ref 973) _) _ _ _); refine hold_of ?_))
local macro_rules | `(tactic| walk_at "inl") => `(tactic| first | exact .head _ | (refine List.Mem.tail _ ?_; walk_at "inl") | (refine List.mem_append_right _ ?_; walk_at "inl"))
local macro_rules | `(tactic| walk_at "leaf9") => `(tactic| first | exact fun _ h => h | exact fun _ h => List.mem_append_left _ h | (refine sub_drop ?_; walk_at "leaf9") | (refine sub_mid ?_; walk_at "leaf9"))
local macro_rules | `(tactic| walk_at "sub9") => `(tactic| first | (refine an_cons (by walk_at "inl") ?_; walk_at "sub9") | ((with_reducible refine app_sub ?_ ?_); (focus walk_at "sub9"); walk_at "sub9") | walk_at "leaf9")
local macro_rules | `(tactic| walk_at "cnt9") => `(tactic| (simp only [List.map_append, List.map_cons, List.map_nil, List.cons_append, List.nil_append, cnt_app, cnt_cons, cnt_nil, Nat.zero_add]; omega))
local macro_rules | `(tactic| walk_at "sub8") => `(tactic| first | (refine sub_cnt fun p9 => ?_; simp only [cp_app, cp_cons, cp_nil, Nat.zero_add, Nat.add_zero]; omega) | walk_at "sub9")
section
variable {prog : Program} {X : Fx} {PS : List Pc}
theorem main_st {p : Program} {loose : List Str} {mean : ExcName → Option Value} {mg mb : Str → Option Value} {dp un : Nat} {gd : Option (List Code)} {a : Addr} {ccd : Value} {A₀ : Around} {base h₀ : Heap} {L c1 c2 c3 pu ge du on ord : Addr} {m : Str → Option Value} {s : Shared} {Q : Flow → Shared → Prop} {E : Value → Shared → Prop} {o2 o3 : Obj} {n kO kT9 : Nat} {rt : Tok} {O : List (Int × Tok)} {T : List On} {Z0 nw0 : List (Addr × Obj)}
    (B : Below A₀ base [] h₀) (F : Fr h₀ L s.heap m) (XB : (Mine.kk.heap_1 X.w.params).In base) (TB : Top p loose mean mg mb base) (C : CodeHd base 979 975) (hdp : dp + 300 < recursionLimit) (hun : un + 2000 < cLine)
    (mo : m (Str.ofString "order") = some (.ref ord)) (mn : m (Str.ofString "ones") = some (.ref on)) (mp : m (Str.ofString "puts") = some (.ref pu)) (mg9 : m (Str.ofString "gets") = some (.ref ge)) (me : m (Str.ofString "env") = some (.ref X.e)) (mt : m (Str.ofString "tank") = some (.ref X.tn)) (ml : m (Str.ofString "told") = some (.ref X.tol)) (mr : m (Str.ofString "room") = some (.int X.room rt))
    (N : News h₀ L s.heap nw0) (J0 : LJ prog X PS pu ge du c3 o3 Z0 m 0 m nw0)
    (hO : (ord, lsI O kO) ∈ Z0) (hT : (on, lsN T kT9) ∈ Z0) (hTr : ∀ o ∈ T, o.row ∈ Z0) (h2 : (c2, o2) ∈ Z0) (d2 : o2.data = .cell (some (.ref X.ask))) (d3 : o3.data = .cell (some (.ref du))) (la : (X.tol == sysModules) = false) (lb : (du == sysModules) = false)
    (P : PsOk PS) (H : PgOk prog) (G : 0 < O.length → OcOk X) (hn : O.length ≤ 7)
    (hcm : ∀ (i : Nat) (x : Int × Tok), O[i]? = some x → ∃ pc ∈ PS, pc.comes = (i : Int) + 1 ∧ ∃ (j : Nat) (o : On), x.1 = (j : Int) ∧ pc.i = (j : Int) ∧ T[j]? = some o ∧ j < 1000 ∧ pc.amt = o.x ∧ pc.puts = o.b)
    (hE : PassesOwn (model prog X.w) (lawA X.w.params dp un gd c1 c2 c3 L a ccd) (lawE X.w.params c1 c2 c3 L a ccd) E)
    (ret : ∀ (m' : Str → Option Value) (nw : List (Addr × Obj)) (h' : Heap) (tk' : Nat), LJ prog X PS pu ge du c3 o3 Z0 m O.length m' nw → Fr h₀ L h' m' → News h₀ L h' nw → Q .next { s with heap := h', toks := tk' }) :
    wpAny (model prog X.w) (lawA X.w.params dp un gd c1 c2 c3 L a ccd) (exec (lawSt X.w.params 12) (lawE X.w.params c1 c2 c3 L a ccd)) Q E s := by
  refine Mine.go_of ?_
  simp (disch := k_dflt (
  have X' := XB.keeps B.stays
  have T' := TB.keeps B.stays
  have hk := lawS_kind X.w.params
  (with_unfolding_all show wpAny _ _ (exec (Stmt.For _ _ _ _ _) _) _ _ _)
  (with_unfolding_all refine' For_turns F ?_ ?hs ?hE)
  case hs => intro _; with_unfolding_all rfl
  case hE => exact hE
  have mE := chain_eq (l := [(Str.ofString "order", .ref ord)]) (m := m) ⟨mo, trivial⟩
  have F0 := fr_chain [(Str.ofString "order", .ref ord)] F ⟨mo, trivial⟩
  dsimp only [chain] at F0
  k_steps
  unfold Hold
  have hZ : ∀ z ∈ Z0, z ∈ nw0 := by
    obtain ⟨g, M, LL, Qp, Qg, os, orow, kA, kT, P1, G1, kP, kG, kD, od, Z1, lt, R0, rfl, _, _, _, _, _, hz, _⟩ := J0
    exact fun z hz' => by rw [wR_app]; exact List.mem_append_right _ (.tail _ (.tail _ (.tail _ (.tail _ (hz z hz')))))
  refine ktu_enum (by rfl) F0 N (hZ _ hO) rfl rfl rfl fun I hI => ?_
  refine items_two (fun xs m' nw => ∃ r : Nat, xs = (enumItems 0 (O.map fun x => Value.int x.1 x.2)).drop r ∧ LJ prog X PS pu ge du c3 o3 Z0 m r m' nw ∧ r ≤ O.length) ?turn ?done _ _ _ ⟨0, rfl, ?j0, Nat.zero_le _⟩ (fun p hp => Nat.ne_of_lt (Nat.lt_succ_of_lt (hI p hp))) (fun p hp => Nat.ne_of_lt (hI p hp))
  case j0 =>
    rw [show (fun z => if z = Str.ofString "order" then some (.ref ord) else m z) = m from mE]
    exact J0
  case done =>
    rintro m' nw h tk ⟨r, hxs, hJ, hr⟩ F N
    have := enum_nil hxs
    rw [List.length_map] at this
    obtain rfl : r = O.length := by omega
    exact ret m' nw h tk hJ F N
  case turn =>
    rintro v l m' nw ⟨r, hxs, hJ, hr⟩ v1 h tk o1 o9 hv F9 N9 off1 off2
    obtain ⟨y, hy, rfl, rfl⟩ := enum_drop hxs
    rw [List.getElem?_map] at hy
    obtain ⟨x, hx9, rfl⟩ := Option.map_eq_some_iff.mp hy
    rw [Nat.zero_add] at hv
    obtain ⟨Tu, tt, rfl, hTu⟩ := hv
    dsimp only at hTu
    clear F0
    obtain ⟨pc, hpc, hcm9, j, o, hj, hpi, hTj, hj9, ham, hpb⟩ := hcm r x hx9
    obtain ⟨x1, x2⟩ := x
    dsimp only at hj
    subst hj
    obtain ⟨g, M, LL, Qp, Qg, os, orow, kA, kT, P1, G1, kP, kG, kD, od, Z1, lt, R0, rfl, hP1, hG1, dd, D0, hrow, hz0, hlev, hk5, hl0, hl1⟩ := hJ
    have mp' : m' (Str.ofString "puts") = some (.ref pu) := (hk5 _ (by decide) (by decide) (by decide) (by decide) (by decide)).trans mp
    have mg' : m' (Str.ofString "gets") = some (.ref ge) := (hk5 _ (by decide) (by decide) (by decide) (by decide) (by decide)).trans mg9
    have mn' : m' (Str.ofString "ones") = some (.ref on) := (hk5 _ (by decide) (by decide) (by decide) (by decide) (by decide)).trans mn
    have me' : m' (Str.ofString "env") = some (.ref X.e) := (hk5 _ (by decide) (by decide) (by decide) (by decide) (by decide)).trans me
    have mt' : m' (Str.ofString "tank") = some (.ref X.tn) := (hk5 _ (by decide) (by decide) (by decide) (by decide) (by decide)).trans mt
    have ml' : m' (Str.ofString "told") = some (.ref X.tol) := (hk5 _ (by decide) (by decide) (by decide) (by decide) (by decide)).trans ml
    have mr' : m' (Str.ofString "room") = some (.int X.room rt) := (hk5 _ (by decide) (by decide) (by decide) (by decide) (by decide)).trans mr
    have hnd0 := R0.nd0
    rw [wR_app] at N9 off1 off2
    generalize hW : wR X g (Qp.map Wt.x) (Qg.map Wt.x) (M.flatMap Pr.l ++ orow) = W0 at N9 off1 off2 hnd0
    have ndI : (((I + 1, o1) :: (I, o9) :: (W0 ++ TZ pu ge du c3 o3 P1 kP G1 kG od Z1)).map (·.1)).Nodup := by
      refine List.nodup_cons.mpr ⟨fun hm => ?_, List.nodup_cons.mpr ⟨off_notin off2, hnd0⟩⟩
      rcases List.mem_cons.mp hm with e | hm
      · exact Nat.succ_ne_self I e
      · exact off_notin off1 hm
    k_steps
    unfold Hold
    rename Fr _ _ _ _ => F8
    rename News _ _ _ _ => N8
    have ndA : (((pu, lsT P1 kP) :: (ge, lsT G1 kG) :: (du, od) :: (c3, o3) :: (Z1 ++ ((I + 1, o1) :: (I, o9) :: W0))).map (·.1)).Nodup := nd_le ndI fun _ => by (simp only [List.map_append, List.map_cons, List.map_nil, List.cons_append, List.nil_append, cnt_app, cnt_cons, cnt_nil, Nat.zero_add]; omega)
    have hPl : P1.length + G1.length ≤ 7 := by
      have h1 := congrArg List.length hP1
      have h2 := congrArg List.length hG1
      have h3 := R0.len P
      rw [List.length_map, List.length_map] at h1 h2
      omega
    refine' app_st (kP := kP) (kG := kG) (tl := (du, od) :: (c3, o3) :: (Z1 ++ ((I + 1, o1) :: (I, o9) :: W0))) (P := P1) (G := G1) (T := T) (x := o) (j := j) B F8 XB TB C hdp hun mp' mg' mn' rfl ndA (news_rows N8 ?subA) (.tail _ (.tail _ (List.mem_append_left _ (hz0 _ hT)))) (.tail _ (.tail _ (List.mem_append_left _ (hz0 _ (hTr o (List.mem_of_getElem? hTj)))))) hTj hj9 hPl ?retA
    case subA => walk_at "sub8"
    case retA =>
      intro t P2 G2 kP2 kG2 h2a tk2 ht1 ht2 hPG F7 N7 ltA
      have hm1 : ∀ z, z ≠ Str.ofString "number" → z ≠ Str.ofString "place" → (fun y => if y = Str.ofString "number" then some (Value.int (j : Int) x2) else if y = Str.ofString "place" then some (Value.int (r : Int) tt) else m' y) z = m' z := fun z h1 h2 => by
        show (if z = Str.ofString "number" then _ else if z = Str.ofString "place" then _ else m' z) = m' z
        rw [if_neg h1, if_neg h2]
      have hP2 : P2.map Tp.nm = psC pc (Qp.map nm) ∧ G2.map Tp.nm = gsC pc (Qg.map nm) := by
        unfold psC gsC
        rcases hPG with ⟨hb, rfl, rfl⟩ | ⟨hb, rfl, rfl⟩
        · rw [hpb, hb, if_pos rfl, if_pos rfl, List.map_append, hP1, hG1, List.append_nil]
          refine ⟨?_, rfl⟩
          show _ ++ [(t.n, t.amt)] = _
          rw [ht1, ht2, hpi, ham]
        · rw [hpb, hb, if_neg Bool.false_ne_true, if_neg Bool.false_ne_true, List.map_append, hP1, hG1, List.append_nil]
          refine ⟨rfl, ?_⟩
          show _ ++ [(t.n, t.amt)] = _
          rw [ht1, ht2, hpi, ham]
      have hr2 : ∀ t9 ∈ P2 ++ G2, t9.row ∈ t.row :: Z1 := by
        intro t9 h9
        rcases hPG with ⟨hb, rfl, rfl⟩ | ⟨hb, rfl, rfl⟩
        · rcases List.mem_append.mp h9 with h9 | h9
          · rcases List.mem_append.mp h9 with h9 | h9
            · exact .tail _ (hrow t9 (List.mem_append_left _ h9))
            · rw [List.mem_singleton.mp h9]; exact .head _
          · exact .tail _ (hrow t9 (List.mem_append_right _ h9))
        · rcases List.mem_append.mp h9 with h9 | h9
          · exact .tail _ (hrow t9 (List.mem_append_left _ h9))
          · rcases List.mem_append.mp h9 with h9 | h9
            · exact .tail _ (hrow t9 (List.mem_append_right _ h9))
            · rw [List.mem_singleton.mp h9]; exact .head _
      have hl2 : P2.length + G2.length ≤ 8 := by
        rcases hPG with ⟨hb, rfl, rfl⟩ | ⟨hb, rfl, rfl⟩ <;> (rw [List.length_append]; simp only [List.length_cons, List.length_nil]; omega)
      have ndB : ((t.row :: (pu, lsT P2 kP2) :: (ge, lsT G2 kG2) :: (du, od) :: (c3, o3) :: (Z1 ++ ((I + 1, o1) :: (I, o9) :: W0))).map (·.1)).Nodup := List.nodup_cons.mpr ⟨off_notin (an_cons (show pu ≠ t.a from Nat.ne_of_lt (ltA (pu, lsT P1 kP) (.head _))) (an_cons (show ge ≠ t.a from Nat.ne_of_lt (ltA (ge, lsT G1 kG) (.tail _ (.head _)))) fun p hp => Nat.ne_of_lt (ltA p (.tail _ (.tail _ hp))))), ndA⟩
      have F7 := fr_chain [(Str.ofString "level", .int g.level lt), (Str.ofString "room", .int X.room rt), (Str.ofString "puts", .ref pu), (Str.ofString "gets", .ref ge)] F7 ⟨hlev, mr', mp', mg', trivial⟩
      dsimp only [chain] at F7
      k_steps
      unfold Hold
      refine' served_c (np := kP2) (ng := kG2) (tl := t.row :: (du, od) :: (c3, o3) :: (Z1 ++ ((I + 1, o1) :: (I, o9) :: W0))) (P := P2) (G := G2) ?ndS ?hPS ?hzS B ?FS ?XS ?TS ?CS ?hkS ?dpS ?unS (news_rows N7 ?subS) ?retS
      case ndS => exact nd_le ndB fun _ => by walk_at "cnt9"
      case hPS =>
        intro t9 h9
        rcases List.mem_cons.mp (hr2 t9 h9) with e | h9
        · rw [e]; exact .head _
        · exact .tail _ (.tail _ (.tail _ (List.mem_append_left _ h9)))
      case hzS => omega
      case FS => assumption
      case XS => exact X'
      case TS => exact T'
      case CS => exact C
      case hkS => exact lawS_kind _
      case dpS => omega
      case unS => omega
      case subS => walk_at "sub8"
      case retS =>
        rintro v6 rows6 h6 tk6 ⟨tp, sv, S, l', u, P', G', np', ng', ns, kk, rfl, hsv, hst, rfl, ndS⟩ F6 N6
        have hlS := hsv.len
        k_steps
        unfold Hold
        rename Fr _ _ _ _ => F5
        rename News _ _ _ _ => N5
        obtain ⟨hndS, hfrS⟩ := served_pre P R0 hpc hcm9 hsv hP2.1 hP2.2 D0
        have hkl : kD.length ≤ 7 := by
          have h1 := due_len (dict_nd R0.O.ot) (dict_nd dd) D0
          have h2 := R0.O.lenT P
          omega
        have ndD : (((sv, lsI S ns) :: (du, od) :: (c3, o3) :: ((pu, lsT P' np') :: (ge, lsT G' ng') :: t.row :: (Z1 ++ ((I + 1, o1) :: (I, o9) :: W0)))).map (·.1)).Nodup := nd_le ndS fun _ => by walk_at "cnt9"
        refine' due_st (ns := ns) (tl := (pu, lsT P' np') :: (ge, lsT G' ng') :: t.row :: (Z1 ++ ((I + 1, o1) :: (I, o9) :: W0))) B F5 XB TB C hdp hun rfl rfl ?ndD2 (news_rows N5 ?subD) d3 dd ?hSD hkl hndS hfrS hE ?retD
        case ndD2 => exact ndD
        case subD => walk_at "sub8"
        case hSD => omega
        case retD =>
          intro od' kD' m2 h7 tk7 dd' g1 g2 g3 hm2 F10 N10
          have hfr2 : ∀ z, z ≠ Str.ofString "place" → z ≠ Str.ofString "number" → z ≠ Str.ofString "served" → z ≠ Str.ofString "level" → z ≠ Str.ofString "one" → m2 z = m' z := by
            intro z h1 h2 h3 h4 h5
            rw [hm2 z h5]
            show (if z = Str.ofString "level" then some (Value.int l' u) else if z = Str.ofString "served" then some (Value.ref sv) else if z = Str.ofString "level" then some (Value.int g.level lt) else if z = Str.ofString "room" then some (Value.int X.room rt) else if z = Str.ofString "puts" then some (Value.ref pu) else if z = Str.ofString "gets" then some (Value.ref ge) else if z = Str.ofString "number" then _ else if z = Str.ofString "place" then _ else m' z) = m' z
            rw [if_neg h4, if_neg h3, if_neg h4]
            by_cases e : z = Str.ofString "room"
            · rw [if_pos e, e]; exact mr'.symm
            · rw [if_neg e]
              by_cases e : z = Str.ofString "puts"
              · rw [if_pos e, e]; exact mp'.symm
              · rw [if_neg e]
                by_cases e : z = Str.ofString "gets"
                · rw [if_pos e, e]; exact mg'.symm
                · rw [if_neg e, if_neg h2, if_neg h1]
          have mp2 : m2 (Str.ofString "puts") = some (.ref pu) := (hm2 _ (by decide)).trans rfl
          have mg2 : m2 (Str.ofString "gets") = some (.ref ge) := (hm2 _ (by decide)).trans rfl
          have mr2 : m2 (Str.ofString "room") = some (.int X.room rt) := (hm2 _ (by decide)).trans rfl
          have mlv : m2 (Str.ofString "level") = some (.int l' u) := (hm2 _ (by decide)).trans rfl
          have mpl : m2 (Str.ofString "place") = some (.int (r : Int) tt) := (hm2 _ (by decide)).trans rfl
          have me2 : m2 (Str.ofString "env") = some (.ref X.e) := (hfr2 _ (by decide) (by decide) (by decide) (by decide) (by decide)).trans me'
          have mt2 : m2 (Str.ofString "tank") = some (.ref X.tn) := (hfr2 _ (by decide) (by decide) (by decide) (by decide) (by decide)).trans mt'
          have ml2 : m2 (Str.ofString "told") = some (.ref X.tol) := (hfr2 _ (by decide) (by decide) (by decide) (by decide) (by decide)).trans ml'
          have hk2 : Keep5 m m2 := fun z h1 h2 h3 h4 h5 => (hfr2 z h1 h2 h3 h4 h5).trans (hk5 z h1 h2 h3 h4 h5)
          have ndR : ((W0 ++ ((I + 1, o1) :: (I, o9) :: TZ pu ge du c3 o3 P' np' G' ng' od' (t.row :: Z1))).map (·.1)).Nodup := nd_le ndD fun _ => by walk_at "cnt9"
          have R1 := R0.swap (T1 := (I + 1, o1) :: (I, o9) :: TZ pu ge du c3 o3 P' np' G' ng' od' (t.row :: Z1)) (by rw [hW]; exact ndR)
          k_steps
          unfold Hold
          refine' run_st (pc := pc) (T0 := (I + 1, o1) :: (I, o9) :: TZ pu ge du c3 o3 P' np' G' ng' od' (t.row :: Z1)) B F10 XB TB C hdp hun me2 mpl P H (G ?h1R) ?h0R R1 (R1.comer hpc hcm9) hcm9 (news_rows N10 ?subR) ?retR
          case h1R => exact List.length_pos_of_mem (List.mem_of_getElem? hx9)
          case h0R => omega
          case subR => rw [wR_app, hW]; walk_at "sub8"
          case retR =>
            rintro rows9 h8 tk8 ⟨g', M', LL', Qp', Qg', os', orow', kA', kT', R2, rfl, hrc, k1, k2, _⟩ F11 N11
            obtain ⟨e1, e2, e3⟩ := plain_conf P R1 R2 hpc hrc hsv hst hP2.1 hP2.2
            have D2 := (served_of P R1 R2 hpc hcm9 hsv hP2.1 hP2.2 e2.symm e3.symm k1 k2 D0).due kD' g1 g2
            have hrg : 0 ≤ g'.level ∧ g'.level ≤ X.room := by
              obtain ⟨h1, h2⟩ := R0.posi P
              obtain ⟨h3, h4⟩ := posi_c (pc := pc) h1 h2 (P.am _ hpc)
              exact hrc.range h3 h4 hl0 hl1
            subst e1
            rw [wR_app] at N11
            have hnd1 := R2.nd0
            generalize hW2 : wR X g' (Qp'.map Wt.x) (Qg'.map Wt.x) (M'.flatMap Pr.l ++ orow') = W2 at N11 hnd1
            have hin : ∀ z ∈ wR X g' (Qp'.map Wt.x) (Qg'.map Wt.x) (M'.flatMap Pr.l ++ orow'), z ∈ W2 := fun z hz => hW2 ▸ hz
            k_steps
            unfold Hold
            let TT := (I + 1, o1) :: (I, o9) :: TZ pu ge du c3 o3 P' np' G' ng' od' (t.row :: Z1)
            refine' if_st (tn := X.tn) (tol := X.tol) (du := du) (td := X.td) (pq := X.pq) (gq := X.gq) (e := X.e) (od := od') (ot := g'.ot) (o3 := o3) (tl := W2 ++ TT) B F11 XB TB C hdp hun mt2 mlv mr2 ml2 (news_rows N11 ?subI) d3 R2.O.ot dd' D2 la lb hrg.1 hrg.2 ?retI
            case subI => exact an_cons (List.mem_append_left _ (hin _ wR_tn)) (an_cons (List.mem_append_left _ (hin _ wR_td)) (an_cons (List.mem_append_left _ (hin _ wR_tol)) (an_cons (List.mem_append_right _ (.tail _ (.tail _ (.tail _ (.tail _ (.head _)))))) (an_cons (List.mem_append_right _ (.tail _ (.tail _ (.tail _ (.tail _ (.tail _ (.head _))))))) fun _ h => h))))
            case retI =>
              intro h9 tk9 F13 N13
              have hrow2 : ∀ t9 ∈ P' ++ G', t9.row ∈ t.row :: Z1 := by
                obtain ⟨dp9, dg9, e9, e8, _⟩ := hsv
                intro t9 h9
                rw [e9, e8] at hr2
                rcases List.mem_append.mp h9 with h9 | h9
                · exact hr2 t9 (List.mem_append_left _ (List.mem_append_right _ h9))
                · exact hr2 t9 (List.mem_append_right _ (List.mem_append_right _ h9))
              have hz2 : ∀ z ∈ t.row :: Z1, z ∈ W2 ++ TT := fun z hz => List.mem_append_right _ (.tail _ (.tail _ (.tail _ (.tail _ (.tail _ (.tail _ hz))))))
              k_steps
              unfold Hold
              refine' checkP_st (tn := X.tn) (td := X.td) (pq := X.pq) (gq := X.gq) (e := X.e) (pu := pu) (ask := X.ask) (W := Qp'.map Wt.x) (P := P') (oa := g'.oa) (o2 := o2) (tl := W2 ++ TT) B F13 XB TB C hdp hun mt2 mp2 (news_rows N13 ?subP) d2 R2.O.oa (R2.len' P (.inl rfl) e2.symm).1 (R2.len' P (.inl rfl) e2.symm).2 (fun t9 h9 => hz2 _ (hrow2 t9 (List.mem_append_left _ h9))) (asked_of R2 (fun q h => .inl h) e2.symm) ?retP
              case subP => exact an_cons (.head _) (an_cons (.tail _ (.head _)) (an_cons (.tail _ (.tail _ (.tail _ (.tail _ (.tail _ (List.mem_append_left _ (hin _ wR_pq))))))) (an_cons (.tail _ (.tail _ (.tail _ (.tail _ (.tail _ (List.mem_append_right _ (.tail _ (.tail _ (.head _))))))))) (an_cons (.tail _ (.tail _ (.tail _ (.tail _ (.tail _ (hz2 _ (.tail _ (hz0 _ h2)))))))) (an_cons (.tail _ (.tail _ (.tail _ (.tail _ (.tail _ (List.mem_append_left _ (hin _ wR_ask))))))) fun _ h => .tail _ (.tail _ (.tail _ (.tail _ (.tail _ h)))))))))
              case retP =>
                intro h10 tk10 F15 N15
                k_steps
                unfold Hold
                refine' checkG_st (tn := X.tn) (td := X.td) (pq := X.pq) (gq := X.gq) (e := X.e) (pu := ge) (ask := X.ask) (W := Qg'.map Wt.x) (P := G') (oa := g'.oa) (o2 := o2) (tl := W2 ++ TT) B F15 XB TB C hdp hun mt2 mg2 (news_rows N15 ?subG) d2 R2.O.oa (R2.len' P (.inr rfl) e3.symm).1 (R2.len' P (.inr rfl) e3.symm).2 (fun t9 h9 => hz2 _ (hrow2 t9 (List.mem_append_right _ h9))) (asked_of R2 (fun q h => .inr h) e3.symm) ?retG
                case subG => exact an_cons (.head _) (an_cons (.tail _ (.head _)) (an_cons (.tail _ (.tail _ (.tail _ (.tail _ (.tail _ (.tail _ (List.mem_append_left _ (hin _ wR_gq)))))))) (an_cons (.tail _ (.tail _ (.tail _ (.tail _ (.tail _ (.tail _ (List.mem_append_right _ (.tail _ (.tail _ (.tail _ (.head _))))))))))) (an_cons (.tail _ (.tail _ (.tail _ (.tail _ (.head _))))) (an_cons (.tail _ (.tail _ (.tail _ (.tail _ (.tail _ (.head _)))))) fun _ h => .tail _ (.tail _ (.tail _ (.tail _ (.tail _ (.tail _ h))))))))))
                case retG =>
                  intro h11 tk11 F16 N16
                  replace N16 := news_rows N16 (l' := W2 ++ TT) fun z hz => .tail _ (.tail _ (.tail _ (.tail _ (.tail _ (.tail _ hz)))))
                  k_steps
                  unfold Hold
                  have ndF : ((W2 ++ TZ pu ge du c3 o3 P' np' G' ng' od' (t.row :: Z1)).map (·.1)).Nodup := nd_le hnd1 fun _ => by walk_at "cnt9"
                  have ndF' : (((I + 1, o1) :: (I, o9) :: (W2 ++ TZ pu ge du c3 o3 P' np' G' ng' od' (t.row :: Z1))).map (·.1)).Nodup := nd_le hnd1 fun _ => by walk_at "cnt9"
                  have hm3 := (List.nodup_cons.mp ndF').1
                  have hm4 := (List.nodup_cons.mp (List.nodup_cons.mp ndF').2).1
                  refine ⟨_, _, _, W2 ++ TZ pu ge du c3 o3 P' np' G' ng' od' (t.row :: Z1), rfl, F16, news_rows N16 ?subF, fun p hp e => hm3 (.tail _ (by have := List.mem_map_of_mem (f := fun x : Addr × Obj => x.1) hp; rw [e] at this; exact this)), fun p hp e => hm4 (by have := List.mem_map_of_mem (f := fun x : Addr × Obj => x.1) hp; rw [e] at this; exact this), ?keepF, r + 1, rfl, ?LJF, ?lenF⟩
                  case subF => walk_at "sub8"
                  case keepF => exact ⟨List.mem_append_right _ (.tail _ (.tail _ (.tail _ (.tail _ (.tail _ (hz0 _ hO)))))), trivial⟩
                  case lenF =>
                    have := List.getElem?_eq_some_iff.mp hx9
                    obtain ⟨h, _⟩ := this
                    exact h
                  case LJF => exact ⟨g', M', LL', Qp', Qg', os', orow', kA', kT', P', G', np', ng', kD', od', t.row :: Z1, u, R2.swap (by rw [hW2]; exact ndF), by rw [wR_app, hW2], e2.symm, e3.symm, dd', D2, hrow2, fun z hz => .tail _ (hz0 z hz), mlv, hk2, hrg⟩)) only [↓Mine.go_eq]
end
end

end
end Mine
end

section
-- part L14
open PySem PySem.W PyProof.Rows PySem.Spec in
theorem Mine.turn_L14 {p : Program} {w : World} {A : Around} {en : Env} {Q : Flow → Shared → Prop} {E : Value → Shared → Prop} {s : Shared} (h : Q .next s) : wpAny (model p w) A (execs [] en) Q E s := by
  w_top off
  walk1
  exact h
open PySem PySem.W PyProof.Rows PySem.Calls PyProof.V PySem.Spec
namespace Mine

local macro_rules | `(tactic| walk_at "inl") => `(tactic| first | exact .head _ | (refine List.Mem.tail _ ?_; walk_at "inl") | (refine List.mem_append_right _ ?_; walk_at "inl"))
local macro_rules | `(tactic| walk_at "leaf9") => `(tactic| first | exact fun _ h => h | exact fun _ h => List.mem_append_left _ h | (refine sub_drop ?_; walk_at "leaf9") | (refine sub_mid ?_; walk_at "leaf9"))
local macro_rules | `(tactic| walk_at "sub9") => `(tactic| first | (refine an_cons (by walk_at "inl") ?_; walk_at "sub9") | ((with_reducible refine app_sub ?_ ?_); (focus walk_at "sub9"); walk_at "sub9") | walk_at "leaf9")
local macro_rules | `(tactic| walk_at "cnt9") => `(tactic| (simp only [List.map_append, List.map_cons, List.map_nil, List.cons_append, List.nil_append, cnt_app, cnt_cons, cnt_nil, Nat.zero_add]; omega))
local macro_rules | `(tactic| walk_at "sub8") => `(tactic| first | (refine sub_cnt fun p9 => ?_; simp only [cp_app, cp_cons, cp_nil, Nat.zero_add, Nat.add_zero]; omega) | walk_at "sub9")
theorem nodup_by {α β γ : Type} {f : α → β} {g : α → γ} : ∀ {l : List α}, (l.map f).Nodup → (∀ a ∈ l, ∀ b ∈ l, g a = g b → f a = f b) → (l.map g).Nodup
  | [], _, _ => List.Pairwise.nil
  | x :: l, h, hi => by
    rw [List.map_cons, List.nodup_cons] at h ⊢
    refine ⟨fun hm => ?_, nodup_by h.2 fun a ha b hb => hi a (.tail _ ha) b (.tail _ hb)⟩
    obtain ⟨y, hy, e⟩ := List.mem_map.mp hm
    exact h.1 (List.mem_map.mpr ⟨y, hy, hi y (.tail _ hy) x (.head _) e⟩)
theorem range_nd (n : Nat) : ((List.range n).map fun (j : Nat) => (j : Int)).Nodup := by
  have h : ∀ l : List Nat, l.Nodup → (l.map fun (j : Nat) => (j : Int)).Nodup := fun l hl => by
    refine nodup_by (f := id) (by rwa [List.map_id]) fun a _ b _ e => ?_
    exact Int.ofNat.inj e
  exact h _ List.nodup_range
section
variable {prog : Program} {X0 : Fx} {u1 : Tok} {O : List (Int × Tok)} {T : List On} {TT : List (Addr × Obj)} {n : Nat} {M : List Pr} {ys : Array QE} {qn : Nat} {k : Int} {u4 : Tok} {tb : Obj} {cr : List (Addr × Obj)} {c' : Addr} {oc : Obj} {nw : List (Addr × Obj)}
theorem Made.ps (D : Made X0 u1 O T TT n M ys qn k u4 tb cr c' oc nw) (hp : (O.map (·.1)).Perm ((List.range n).map fun (j : Nat) => (j : Int))) (hn : n ≤ 7) (hT : ∀ o ∈ T, 0 < o.x) : PsOk (M.map Pr.p) := by
  have hnd : ((M.map Pr.p).map Pc.i).Nodup := by
    rw [List.map_map]
    show (M.map fun a => a.p.i).Nodup
    rw [D.ids]
    exact (List.reverse_perm _).nodup_iff.mpr (range_nd n)
  refine ⟨hnd, ?_, ?_, ?_, by rw [List.length_map, D.len]; exact hn⟩
  · rw [List.map_map] at hnd ⊢
    refine nodup_by hnd fun a ha b hb e => ?_
    obtain ⟨j, o, h1, h2, h3, _⟩ := D.spec a ha
    obtain ⟨j', o', h1', h2', h3', _⟩ := D.spec b hb
    have e : a.p.comes = b.p.comes := e
    show a.p.i = b.p.i
    rw [h3, h3'] at e
    have hin : ∀ j : Nat, j < n → (j : Int) ∈ O.map (·.1) := fun j hj => hp.mem_iff.mpr (List.mem_map.mpr ⟨j, List.mem_range.mpr hj, rfl⟩)
    have e9 : (O.map (·.1)).idxOf (j : Int) = (O.map (·.1)).idxOf (j' : Int) := by omega
    have g1 := List.getElem_idxOf (List.idxOf_lt_length_of_mem (hin j h1))
    have g2 := List.getElem_idxOf (List.idxOf_lt_length_of_mem (hin j' h1'))
    rw [h2, h2', ← g1, ← g2]
    simp only [e9]
  · intro p hp'
    obtain ⟨a, ha, rfl⟩ := List.mem_map.mp hp'
    obtain ⟨j, o, _, _, _, h4, h5, _⟩ := D.spec a ha
    rw [h5]
    exact hT o (List.mem_of_getElem? h4)
  · intro p hp'
    obtain ⟨a, ha, rfl⟩ := List.mem_map.mp hp'
    obtain ⟨j, o, _, _, h3, _⟩ := D.spec a ha
    omega
theorem Made.cm (D : Made X0 u1 O T TT n M ys qn k u4 tb cr c' oc nw) (hp : (O.map (·.1)).Perm ((List.range n).map fun (j : Nat) => (j : Int))) (hn : n ≤ 7) :
    ∀ (i : Nat) (x : Int × Tok), O[i]? = some x → ∃ pc ∈ M.map Pr.p, pc.comes = (i : Int) + 1 ∧ ∃ (j : Nat) (o : On), x.1 = (j : Int) ∧ pc.i = (j : Int) ∧ T[j]? = some o ∧ j < 1000 ∧ pc.amt = o.x ∧ pc.puts = o.b := by
  intro i x hx
  have hnd : (O.map (·.1)).Nodup := hp.nodup_iff.mpr (range_nd n)
  have hm : x.1 ∈ O.map (·.1) := List.mem_map.mpr ⟨x, List.mem_of_getElem? hx, rfl⟩
  obtain ⟨j, hj, hjx⟩ := List.mem_map.mp (hp.mem_iff.mp hm)
  have hj9 := List.mem_range.mp hj
  have h2 : (j : Int) ∈ M.map fun a => a.p.i := by
    rw [D.ids]
    exact List.mem_reverse.mpr (List.mem_map.mpr ⟨j, hj, rfl⟩)
  obtain ⟨a, ha, hai⟩ := List.mem_map.mp h2
  obtain ⟨j', o, h1, h3, h4, h5, h6, h7⟩ := D.spec a ha
  have ej : j' = j := by
    have : (j' : Int) = (j : Int) := h3.symm.trans hai
    omega
  subst ej
  refine ⟨a.p, List.mem_map.mpr ⟨a, ha, rfl⟩, ?_, j', o, hjx.symm, h3, h5, by omega, h6, h7⟩
  rw [h4]
  have hx2 : (O.map (·.1))[i]? = some (j' : Int) := by rw [List.getElem?_map, hx]; exact congrArg some hjx.symm
  have hl := (List.getElem?_eq_some_iff.mp hx2)
  obtain ⟨hl, hv⟩ := hl
  have hjm : (j' : Int) ∈ O.map (·.1) := hjx ▸ hm
  have g1 := List.getElem_idxOf (List.idxOf_lt_length_of_mem hjm)
  have := (List.getElem_inj (h₀ := List.idxOf_lt_length_of_mem hjm) (h₁ := hl) hnd).mp (g1.trans hv.symm)
  omega
abbrev A6 (X0 : Fx) (lv : Int) (v2 : Tok) (np ng : Nat) (oa ot : Obj) : List (Addr × Obj) := [(X0.tn, instObj 929 X0.td), (X0.td, tankO X0.w X0.e X0.pq X0.gq X0.room lv X0.r1 X0.r2 X0.r3 X0.r4 X0.r5 X0.v1 v2), (X0.pq, wqO [] np), (X0.gq, wqO [] ng), (X0.ask, oa), (X0.tol, ot)]
theorem made_LJ {pu ge du c3 c8 : Addr} {o3 od oa ot oc8 : Obj} {Z0 : List (Addr × Obj)} {mm : Str → Option Value} {lv : Int} {lt v2 : Tok} {np ng kP kG : Nat}
    (D : Made X0 u1 O T TT n M ys qn k u4 tb cr c' oc nw) (hok : ∀ a ∈ M, PRow (X0.setC c8 oc8) a.p a.ph a.l)
    (hnd : (((pu, lsT [] kP) :: (ge, lsT [] kG) :: (du, od) :: (c3, o3) :: (c8, oc8) :: (eR X0 u1 0 .none ++ (qR X0 ys qn k u4 ++ ((975, tb) :: (M.flatMap Pr.l ++ (A6 X0 lv v2 np ng oa ot ++ Z0)))))).map (·.1)).Nodup)
    (hoa : oa.IsDictOf (PySem.intKind prog X0.w) []) (hot : ot.IsDictOf (PySem.intKind prog X0.w) []) (hod : od.IsDictOf (PySem.intKind prog X0.w) []) (hlv : mm (Str.ofString "level") = some (.int lv lt)) (hl0 : 0 ≤ lv) (hl1 : lv ≤ X0.room) :
    ∃ nw', LJ prog (X0.setC c8 oc8) (M.map Pr.p) pu ge du c3 o3 ((975, tb) :: Z0) mm 0 mm nw' ∧ ∀ z ∈ nw', z ∈ (pu, lsT [] kP) :: (ge, lsT [] kG) :: (du, od) :: (c3, o3) :: (c8, oc8) :: (eR X0 u1 0 .none ++ (qR X0 ys qn k u4 ++ ((975, tb) :: (M.flatMap Pr.l ++ (A6 X0 lv v2 np ng oa ot ++ Z0))))) := by
  refine Mine.go_of ?_
  simp (disch := k_dflt (
  have hs0 : ∀ a ∈ M, ∃ y ie, a.ph = .s0 y ie := fun a ha => (D.ok a ha).2
  have hnd2 : ((wR (X0.setC c8 oc8) ⟨0, u1, .none, ys, qn, k, u4, lv, v2, np, ng, oa, ot⟩ [] [] (M.flatMap Pr.l ++ ([] ++ TZ pu ge du c3 o3 [] kP [] kG od ((975, tb) :: Z0)))).map (·.1)).Nodup := by
    refine nd_le hnd fun _ => ?_
    simp only [wl, List.map_append, List.map_cons, List.map_nil, List.cons_append, List.nil_append, cnt_app, cnt_cons, cnt_nil, Nat.zero_add]
    omega
  refine ⟨_, ⟨⟨0, u1, .none, ys, qn, k, u4, lv, v2, np, ng, oa, ot⟩, M, M, [], [], [], [], [], [], [], [], kP, kG, [], od, (975, tb) :: Z0, lt, ⟨?_, ⟨?_, D.hp, D.de, D.ei, hnd2, ?_⟩, ⟨.refl _, hok, hoa, hot, ?_, ?_, ?_, ?_, ?_, ?_, ?_⟩, .none, ?_, ?_, ?_, ?_, ?_, ?_, ?_⟩, rfl, rfl, rfl, hod, ⟨?_, ?_⟩, ?_, ?_, hlv, fun _ _ _ _ _ _ => rfl, hl0, hl1⟩, ?_⟩
  · show M.Perm (M ++ ([] ++ []))
    rw [List.append_nil, List.append_nil]
  · show ys.toList.Perm (M.flatMap Pr.pend ++ [])
    rw [List.append_nil]
    exact D.ag
  · exact fun _ h => nomatch h
  · intro a ha
    obtain ⟨y, ie, e⟩ := hs0 a ha
    rw [e]; rfl
  · intro a ha
    obtain ⟨y, ie, e⟩ := hs0 a ha
    rw [e]; rfl
  · exact fun _ h => nomatch h
  · exact fun _ h => nomatch h
  · exact fun _ _ h => nomatch h
  · exact fun _ _ h => nomatch h
  · intro a ha
    obtain ⟨y, ie, e⟩ := hs0 a ha
    obtain ⟨j, o, _, _, h3, _⟩ := D.spec a ha
    rw [e, h3]
    show ((0 : Nat) : Int) + 1 ≤ _
    omega
  · exact fun _ h => nomatch h
  · exact fun _ h => nomatch h
  · intro a ha
    exact .inl (hs0 a ha)
  · exact fun _ _ h => nomatch h
  · exact fun _ _ h => nomatch h
  · intro a ha h
    obtain ⟨y, ie, e⟩ := hs0 a ha
    rw [e] at h
    exact absurd rfl h
  · show (0 : Int) < ((0 : Nat) : Int) + 2
    omega
  · exact fun _ _ h => nomatch h
  · exact fun _ h => nomatch h
  · exact fun _ h => nomatch h
  · exact fun z hz => hz
  · simp only [wR, wl, List.nil_append, List.cons_append]
    walk_at "sub8")) only [↓Mine.go_eq]
end
end Mine
end

section
open PySem PySem.W PyProof.Rows PySem.Spec in
theorem Mine.turn_gC {p : Program} {w : World} {A : Around} {en : Env} {Q : Flow → Shared → Prop} {E : Value → Shared → Prop} {s : Shared} (h : Q .next s) : wpAny (model p w) A (execs [] en) Q E s := by
  w_top off
  walk1
  exact h
open PySem PySem.W PyProof.Rows PySem.Calls PyProof.V PySem.Spec
namespace Mine
local macro_rules | `(tactic| walk_at "nd") => `(tactic| ((with_reducible rename List.Nodup _ => nd9); (simp only [List.nodup_cons, List.mem_cons, List.not_mem_nil, not_or, or_false, not_false_eq_true, List.nodup_nil, and_true] at nd9); (repeat (cases ‹_ ∧ _›))))
local macro_rules | `(tactic| walk_at "subl") => `(tactic| (first | exact fun _ h => h | exact fun _ h => List.mem_append_right _ h | (refine sub_cons ?_; walk_at "subl")))
local macro_rules | `(tactic| k_room) => `(tactic| ktr_room)
local macro_rules | `(tactic| walk_at "call builtin:len") => `(tactic| (k_here; (with_reducible show wpAny _ _ (call (Value.builtin "len") [Value.ref _]) _ _ _); k_dflt (refine' len0_K ?N ?m ?z ?_; (case N => k_asm); (case m => k_mem); (case z => walk_at "lenfact"); k_whole)))
local macro_rules | `(tactic| walk_at "call builtin:list.pop") => `(tactic| (k_here; (with_reducible show wpAny _ _ (call (Value.builtin _) [Value.ref _, Value.int 0 _]) _ _ _); k_dflt (refine' pop0_K ?F ?N ?U ?z ?_; (case F => k_asm); (case N => k_asm); (case U => k_upd); (case z => walk_at "lenfact"); k_whole); intro h' F' N'; (try dsimp only at N')))
local macro_rules | `(tactic| walk_at "getItem ref int") => `(tactic| (k_here; (with_reducible show wpAny _ _ (getItem (Value.ref _) (Value.int 0 _)) _ _ _); k_dflt (refine' item0_K ?N ?m ?_; (case N => k_asm); (case m => k_mem); k_whole)))
local macro_rules | `(tactic| walk_at "lenfact") => `(tactic| (simp only [List.length_map]; omega))
local macro_rules | `(tactic| walk_at "WhlRest") => `(tactic| ((with_reducible show WhlRest _ _ _ _ _ _ _ _ _ 0 _); refine' hold_of ?_))
local macro_rules | `(tactic| walk_at "exec While Constant cons nil") => `(tactic| (k_here; refine whl_start 100 ?_))
local macro_rules | `(tactic| walk_at "exec While Compare cons nil") => `(tactic| (k_here; refine whl_start 0 (hold_of ?_)))
local macro_rules | `(tactic| walk_at "schedtail") => `(tactic| ((case N => k_asm); (case e => k_mem); (case d => k_mem); (case U => k_updF); (case V => intro o9; k_updF); (case cd => k_mem); (case B => k_asm); (case F => k_asm); (case X => k_asm); (case T => k_asm); (case hk => first | exact rfl | with_reducible assumption); (case dp => ktr_room); (case un => ktr_units); (case nd => with_reducible assumption); (case TY => first | exact tups_sub (by with_reducible assumption) (by walk_at "subl") | exact tups_two (by with_reducible assumption) (by k_mem) (by walk_at "subl")); (case hz => omega); (case D => with_reducible assumption); (case D1 => with_reducible assumption); (case H => with_reducible assumption); k_whole))
local macro_rules | `(tactic| walk_at "call ref") => `(tactic| (k_here; (with_reducible show wpAny _ _ (call (Value.ref 637) [Value.ref _, Value.ref _]) _ _ _); k_dflt (refine' sched_2 ?B ?F ?X ?T ?hk ?dp ?un ?N ?nd ?U ?V ?e ?d ?cd ?TY ?hz ?D ?D1 ?H ?_; walk_at "schedtail"; intro t9 zs9 x1 x2 x3 x4 h' tk' pm' hp' l1 F' N'; (try dsimp only at N'))))
local macro_rules | `(tactic| walk_at "call ref") => `(tactic| (k_here; (with_reducible show wpAny _ _ (call (Value.ref 637) [Value.ref _, Value.ref _, Value.int _ _]) _ _ _); k_dflt (refine' sched_3 ?B ?F ?X ?T ?hk ?dp ?un ?N ?nd ?U ?V ?e ?d ?cd ?TY ?hz ?D ?D1 ?H ?_; walk_at "schedtail"; intro t9 zs9 x1 x2 x3 x4 h' tk' pm' hp' l1 F' N'; (try dsimp only at N'))))
local macro_rules | `(tactic| walk_at "call ref") => `(tactic| (k_here; (with_reducible show wpAny _ _ (call (Value.ref 637) [Value.ref _, Value.ref _, Value.int _ _, Value.int _ _]) _ _ _); k_dflt (refine' sched_4 ?B ?F ?X ?T ?hk ?dp ?un ?N ?nd ?U ?V ?e ?d ?cd ?TY ?hz ?D ?D1 ?H ?_; walk_at "schedtail"; intro t9 zs9 x1 x2 x3 x4 h' tk' pm' hp' l1 F' N'; (try dsimp only at N'))))
local macro_rules | `(tactic| k_cells $Y:ident) => `(tactic| (have hY := kc_nine $Y; obtain ⟨o1', o2', o3', o4', o5', o6', o7', o8', o9', hE', d1', d2', d3', d4', d5', d6', d7', d8', d9'⟩ := hY; subst hE'; clear $Y))
local macro_rules | `(tactic| walk_at "enterC") => `(tactic| (refine' code_defC ?k1 ?k2 ?k3 ?k4 ?k5 ?kA ?kF ?kK ?k6 ?k7 ?k8 ?k9 ?kB ?kD ?_ ?c2 ?c3 ?c4; (case kA => exact rfl); (case kF => exact rfl); (case kK => assumption); (case k1 => k_asm); (case k2 => k_asm); (case k3 => k_asm); (case k4 => k_asm); (case k5 => k_asm); (case k6 => k_is); (case k7 => k_is); (case k8 => k_room); (case k9 => exact BindsTo.of_eq rfl); (case kB => exact rfl); (case kD => decide +kernel); (case c2 => exact rfl); (case c3 => exact rfl); (case c4 => exact rfl); k_whole; intro g' L' h' tk' cells' FG' F' N' Y' B' X' T' l1; (have l2 := lt_up l1; have l3 := lt_up l2; have l4 := lt_up l3; have l5 := lt_up l4; have l6 := lt_up l5; have l7 := lt_up l6; have l8 := lt_up l7; have l9 := lt_up l8; have l10 := lt_up l9); k_cells Y'; (try simp only [List.cons_append, List.nil_append] at N'); (try dsimp only); (try k_lift B'); (try k_fold)))
local macro_rules | `(tactic| walk_at "call builtin:hasattr") => `(tactic| (k_here; (with_reducible show wpAny _ _ (call (Value.builtin _) [Value.ref _, Value.str _ _]) _ _ _); k_dflt (refine' hasattr_K ?k1 ?k2 ?k3 ?k4 ?kM ?k5 ?k6 ?k7 ?k8 ?k9 ?k10 ?k11 ?k12 ?_; (case k1 => k_asm); (case k2 => k_asm); (case k3 => k_asm); (case k4 => k_inst); (case kM => k_is); (case k5 => k_is); (case k6 => k_is); (case k7 => k_is); (case k8 => k_is); (case k9 => k_is); (case k10 => k_is); (case k11 => decide +kernel); (case k12 => k_get); k_whole; intro q' h' F' N' l1; (try k_lt l1); (try k_sweep))))
local macro_rules | `(tactic| ktr_room) => `(tactic| ((try simp only [depth_under_make, depth_in1, depth_deeper]); (try dsimp only [kTop]); omega))
local macro_rules | `(tactic| ktr_units) => `(tactic| ((try simp only [units_in1, units_deeper, units_under_make, Around.mark_units]); (try dsimp only [kTop]); omega))

local macro_rules | `(tactic| k_lt $h:ident) => `(tactic| skip)
local macro_rules | `(tactic| k_ne) => `(tactic| first | with_reducible assumption | (with_reducible apply Ne.symm; with_reducible assumption) | exact ne_lt (by with_reducible assumption) (by k_mem) | exact ne_gt (by with_reducible assumption) (by k_mem) | exact Nat.ne_of_lt (by with_reducible assumption) | exact Nat.ne_of_gt (by with_reducible assumption))
local macro_rules | `(tactic| k_lt2 $h:ident) => `(tactic| have h8 := lt_through (by with_reducible assumption) $h)
local macro_rules | `(tactic| k_all) => `(tactic| first | with_reducible assumption | exact off_map (by with_reducible assumption) | exact off_of (by with_reducible assumption) (by walk_at "subl"))
local macro_rules | `(tactic| walk_at "call builtin:_heapq.heappop") => `(tactic| (k_here; k_dflt (refine' pop_K ?k0 ?k1 ?k2 ?k3 ?k4 ?k5 ?k6 ?k7 ?k8 ?_; (case k1 => k_asm); (case k2 => k_asm); (case k3 => k_updF); (case k0 => with_reducible assumption); (case k4 => first | exact tups_sub (by with_reducible assumption) (by walk_at "subl") | exact tups_two (by with_reducible assumption) (by k_mem) (by walk_at "subl")); (case k5 => omega); (case k6 => with_reducible assumption); (case k7 => with_reducible assumption); (case k8 => ktr_units); k_whole); intro zs' h' pm' hp' F' N'; (try dsimp only at N'); have TYp := tups_pop (by with_reducible assumption) pm' (by with_reducible assumption) rfl; have Dp := lt_pop (by with_reducible assumption) pm'; have D1p := eids_pop (by with_reducible assumption) pm'; have hzp := size_pop pm'))
local macro_rules | `(tactic| walk_at "exec For Tuple Call cons nil") => `(tactic| (k_here; (rename Fr _ _ _ _ => lF'); (with_unfolding_all refine' For_turns lF' ?_; k_whole)))
local macro_rules | `(tactic| walk_at "call type:enumerate") => `(tactic| (k_here; (with_reducible show wpAny _ _ (call (Value.type _) [Value.ref _]) (fun xv s₁ => wpAny _ _ (pyIter xv) (fun it s₂ => TurnsAt _ _ _ _ _ _ _ _ _ it s₂) _ s₁) _ _); (rename Fr _ _ _ _ => lF'); (with_unfolding_all refine' ktu_enum ?k1 lF' ?k2 ?k3 ?k4 ?k5 ?k6 ?_; (case k1 => rfl); (case k2 => k_asm); (case k3 => k_mem); (case k4 => rfl); (case k5 => first | exact rfl | walk_at "lst0" | walk_at "lst1" | walk_at "lst2"); (case k6 => rfl); k_whole); clear lF'; intro i' l1; have l2 := lt_up l1))
local macro_rules | `(tactic| walk_at "skip") => `(tactic| first
  | ((with_reducible refine' Skip.keep ?ka ?kb); (case ka => (refine an_cons ?_ (an_cons ?_ an_nil) <;> ((try dsimp only); k_ne))); (case kb => walk_at "skip"))
  | ((with_reducible refine' Skip.drop ?kb); (case kb => walk_at "skip"))
  | (refine' Skip.tail ?kt; (case kt => (refine an_cons ?_ (an_cons ?_ an_nil) <;> k_all))))
local macro_rules | `(tactic| walk_at "UnrEndW") => `(tactic| (refine' unrEnd ?k1 ?k2 ?k3 ?k4 ?_; (case k1 => k_asm); (case k2 => k_asm); (case k3 => exact an_cons (by k_mem) (an_cons (by k_mem) an_nil)); (case k4 => (simp only [List.map_cons, List.map_nil]; walk_at "skip")); k_whole; refine And.intro (by k_subL) ?_))
local macro_rules | `(tactic| walk_at "notin") => `(tactic| first
  | (refine List.not_mem_cons_of_ne_of_not_mem ?_ ?_; (focus k_ne); walk_at "notin")
  | (refine notin_map ?_; k_all))
local macro_rules | `(tactic| walk_at "newnd") => `(tactic| first | (with_reducible assumption) | (refine List.nodup_cons.mpr (And.intro ?_ ?_); (focus walk_at "notin"); walk_at "newnd"))
local macro_rules | `(tactic| walk_at "rowo") => `(tactic| first | (with_reducible exact sub_refl9) | ((with_reducible refine an_cons ?_ ?_); (focus k_mem); walk_at "rowo") | (walk_at "subl"))
local macro_rules | `(tactic| walk_at "rows") => `(tactic| first | (with_reducible exact sub_refl9) | (refine sub_cnt fun p9 => ?_; simp only [cp_app, cp_cons, cp_nil, Nat.zero_add, Nat.add_zero]; omega) | (walk_at "rowo"))

local macro_rules | `(tactic| walk_at "wpAt") => `(tactic| ((try dsimp only); with_unfolding_all (first | (ks_step "execs cons"; refine ks_wpAt_execs_cons ?_) | (ks_step "exec Expr"; refine ks_wpAt_Expr_any ?_) | (ks_step "exec Return"; refine ks_wpAt_Return_some ?_) | (ks_step "eval Call"; refine ks_wpAt_MethodCall ?_))))
local macro_rules | `(tactic| walk_at "wpAt") => `(tactic| ((try dsimp only); ks_step "attributeBase Call"; k_here; k_dflt (refine ks_node (by k_asm) (by k_asm) (by k_asm) (by k_asm) (by k_is) (by rfl) (by rfl) (by k_inst) (by k_is) (by rfl) (by assumption) (by k_is) (by k_is) (by k_is) (by k_is) (by decide) (by rfl) (by rfl) (by rfl) (by rfl) (by assumption) (by first | boot_by_name | rfl | kernel_rfl) ?_; intro so' h' F' N' l1)))
local macro_rules | `(tactic| walk_at "enterD") => `(tactic| (refine' code_def ?k1 ?k2 ?k3 ?k4 ?k5 ?kA ?kF ?kK ?k6 ?k7 ?k8 ?k9 ?kB ?_ ?c2 ?c3 ?c4 ?c5; (case kA => exact rfl); (case kF => exact rfl); (case kK => first | assumption | exact rfl); (case k1 => k_asm); (case k2 => k_asm); (case k3 => k_asm); (case k4 => k_asm); (case k5 => k_asm); (case k6 => k_is); (case k7 => k_is); (case k8 => ktr_room); (case k9 => first | exact binds_K (by k_in) rfl (by k_is) rfl rfl rfl | exact BindsTo.of_eq rfl); (case c5 => decide); (case kB => exact locs rfl); (case c2 => exact rfl); (case c3 => exact rfl); (case c4 => exact rfl); k_whole; intro g' L' h' FG' F' N' B' X' T'; (try dsimp only); (try k_lift B'); (try k_fold)))
local macro_rules | `(tactic| walk_at "subscriptTail") => `(tactic| (k_here; first
  | ((with_reducible show wpAny _ _ (subscriptTail _ _ (Value.ref _) (Value.int 0 _)) _ _ _); k_dflt (refine' tup_0 ?N ?m ?_; (case N => k_asm); (case m => k_mem); k_whole))
  | ((with_reducible show wpAny _ _ (subscriptTail _ _ (Value.ref _) (Value.int 1 _)) _ _ _); k_dflt (refine' tup_1 ?N ?m ?_; (case N => k_asm); (case m => k_mem); k_whole))))
local macro_rules | `(tactic| walk_at "exec While Compare cons nil") => `(tactic| (k_here; refine whl_start 0 (hold_of ?_)))
local macro_rules | `(tactic| walk_at "exec While BoolOp cons nil") => `(tactic| (k_here; refine whl_start 0 (hold_of ?_)))
local macro_rules | `(tactic| walk_at "call builtin:len") => `(tactic| (k_here; (with_reducible show wpAny _ _ (call (Value.builtin "len") [Value.ref _]) _ _ _); k_dflt (refine' lenS_K ?N ?m ?z ?_; (case N => k_asm); (case m => k_mem); (case z => walk_at "lenfact"); k_whole)))
local macro_rules | `(tactic| walk_at "compareOp NotEq") => `(tactic| (k_here; refine NeB.go (by with_reducible assumption) ?_))
local macro_rules | `(tactic| walk_at "truthy ref") => `(tactic| (k_here; (with_reducible show wpAny _ _ (truthy (Value.ref _)) _ _ _); k_dflt (first
  | (refine' truth_nil ?N ?m ?_; (case N => k_asm); (case m => k_mem); k_whole)
  | (refine' truth_cons ?N ?m ?z ?_; (case N => k_asm); (case m => k_mem); (case z => walk_at "lenfact"); k_whole))))
local macro_rules | `(tactic| walk_at "Exists") => `(tactic| refine hold_of ?_)
local macro_rules | `(tactic| walk_at "binaryOp Mod int int") => `(tactic| (k_here; refine mod_int (by first | exact mod_ne12 | exact mod_ne13 | exact mod_two | exact mod_ne2) ?_))
local macro_rules | `(tactic| walk_at "call ref") => `(tactic| (k_here; (first | (with_reducible show wpAny _ _ (call (Value.ref 662) _) _ _ _) | (with_reducible show wpAny _ _ (call (Value.ref 929) _) _ _ _)); refine hold_of ?_))
local macro_rules | `(tactic| walk_at "exec Assign cons ListComp") => `(tactic| (k_here; refine hold_of ?_))
local macro_rules | `(tactic| walk_at "exec For Name Call cons nil") => `(tactic| (k_here; refine hold_of ?_))
local macro_rules | `(tactic| walk_at "exec For Tuple Call cons nil") => `(tactic| (k_here; refine hold_of ?_))
local macro_rules | `(tactic| walk_at "notin") => `(tactic| exact List.not_mem_nil)
section
-- part L16a
open PySem PySem.W PyProof.Rows PySem.Spec in
theorem turn_L16a {p : Program} {w : World} {A : Around} {en : Env} {Q : Flow → Shared → Prop} {E : Value → Shared → Prop} {s : Shared} (h : Q .next s) : wpAny (model p w) A (execs [] en) Q E s := by
  w_top off
  walk1
  exact h
open PySem PySem.W PyProof.Rows PySem.Calls PyProof.V PySem.Spec

section
variable {prog : Program} {w : World} {A : Around} {E : Value → Shared → Prop} {s : Shared} {h₀ : Heap} {L : Addr} {m : Str → Option Value} {env : Env}
/-- a comprehension over a dict's keys whose test never holds -/
def KeysSrc (prog : Program) (w : World) (A : Around) (h₀ : Heap) (L : Addr) (m : Str → Option Value) (env : Env) (ct : PySem.Expr) (scope : Scope) (x : Str) (cl : List (Str × Addr)) (Q : Value → Shared → Prop) (xv : Value) (s₁ : Shared) : Prop :=
  ∃ (d : Addr) (od : Obj) (kvs : List (Int × Value)) (news : List (Addr × Obj)), xv = .ref d ∧ A.handled = none ∧ Fr h₀ L s₁.heap m ∧ News h₀ L s₁.heap news ∧ (d, od) ∈ news ∧ od.IsDictOf (intKind prog w) kvs ∧ (d == sysModules) = false ∧ kvs.length ≤ 1000 ∧
    (∀ (i : Nat) (k : Int) (v : Value), kvs[i]? = some (k, v) → ∀ t I oI C oC D m₂ h tk (E' : Value → Shared → Prop), LCg.NsObj oC m₂ → m₂ x = some (.int k t) → Fr h₀ L h m → News h₀ L h ((I, oI) :: (C, oC) :: (D, LCg.lst []) :: news) →
      wpAny (model prog w) A (isTrue ct (compEnvC scope cl C env) (eval ct (compEnvC scope cl C env))) (fun ok s' => ok = false ∧ ∃ h' tk', s' = { s₁ with heap := h', toks := tk' } ∧ Fr h₀ L h' m ∧ News h₀ L h' ((I, oI) :: (C, oC) :: (D, LCg.lst []) :: news)) E' { s₁ with heap := h, toks := tk }) ∧
    ∀ D h tk, Fr h₀ L h m → News h₀ L h ((D, LCg.lst []) :: news) → Q (.ref D) { s₁ with heap := h, toks := tk }
theorem restT_f {ct elt : PySem.Expr} {x : Str} {scope : Scope} {cl : List (Str × Addr)} {S : List (Addr × Obj) → Prop} {P : Nat → Value → Prop} {Fin : List Value → List (Addr × Obj) → Prop} {n : Nat} {news : List (Addr × Obj)} (hS : S news)
    (turn : ∀ i, i < n → ∀ v I oI C oC D m₂ h tk (E' : Value → Shared → Prop), P i v → LCg.NsObj oC m₂ → m₂ x = some v → Fr h₀ L h m → News h₀ L h ((I, oI) :: (C, oC) :: (D, LCg.lst []) :: news) →
      wpAny (model prog w) A (isTrue ct (compEnvC scope cl C env) (eval ct (compEnvC scope cl C env))) (fun ok s' => ok = false ∧ ∃ h' tk', s' = { s with heap := h', toks := tk' } ∧ Fr h₀ L h' m ∧ News h₀ L h' ((I, oI) :: (C, oC) :: (D, LCg.lst []) :: news)) E' { s with heap := h, toks := tk })
    (fin : Fin [] news) : LCt.CompRestT prog w A h₀ L m env ct elt x scope cl s S P Fin n 0 [] news := by
  have go : ∀ k i, i + k = n → LCt.CompRestT prog w A h₀ L m env ct elt x scope cl s S P Fin k i [] news := by
    intro k
    induction k with
    | zero => exact fun i _ => .zero fin
    | succ k ih =>
      intro i e
      refine .succ fun v I oI C oC D m₂ h tk E' hv hC hx F N off ne => ?_
      refine wpAny_mono (turn i (by omega) v I oI C oC D m₂ h tk E' hv hC hx F N) (fun y s' hy => ?_) fun _ _ e => e
      obtain ⟨rfl, h', tk', e1, F', N'⟩ := hy
      rw [if_neg Bool.false_ne_true]
      exact ⟨h', tk', news, e1, F', N', off, hS, ih (i + 1) (by omega)⟩
  exact go n 0 (by omega)
theorem ListComp_D {ct elt iter : PySem.Expr} {x : Str} {px : Pos} {scope : Scope} {cl : List (Str × Addr)} {pos : Pos} {Q : Value → Shared → Prop} (F₀ : Fr h₀ L s.heap m)
    (hclos : closureFor scope env = pure cl) (hcell : ∀ y ∈ scope.names, y.2 ≠ .cell) (hkind : scope.kind = .function)
    (hnames : ∀ y ∈ scope.names, y.2 = .local → scope.names.lookup y.1 = some .local) (hx : scope.names.lookup x = some .local)
    (h : wpAny (model prog w) A (eval iter env) (KeysSrc prog w A h₀ L m env ct scope x cl Q) E s)
    (hs : ∀ x, foldedSetIterable iter env x = pure x := by intro _; rfl) :
    wpAny (model prog w) A (eval (.ListComp elt [⟨.Name x px, iter, [ct], 0⟩] scope pos) env) Q E s := by
  rw [eval_ListComp]
  refine wpAny_comprehension_free (use := none) rfl hs hclos hkind hnames (wpAny_mono h (fun xv s₁ h₁ => ?_) fun _ _ e => e)
  obtain ⟨d, od, kvs, news, rfl, hh, F, N, hm, hd, lo, hsz, el, fin⟩ := h₁
  obtain ⟨ep, ha⟩ := PySem.W.KdkAt.of hd
  have hax := N _ hm
  have hat := ha.dictAt hax.1
  have hlt : d < s₁.heap.objs.size := hat.lt_size
  refine wpAny_pyIter_dict lo hat ?_
  have up : ∀ b o, s₁.heap.get? b = some o → (s₁.heap.push { cls := .type "dict_keyiterator", data := .fields #[.ref d, .int 0 0, .int kvs.length 0, .int ep 0] }).get? b = some o := fun b o e => Heap.get?_push_of_some _ e
  refine LCt.block_T (S := fun nw => (d, od) ∈ nw) (Fin := fun ys nw => ys = [] ∧ nw = news) (Walks.dictKeys (knd := intKind prog w) hh s₁.heap.objs.size d (Nat.ne_of_lt hlt) kvs ep) (by rw [sizeLine_eq]; omega) (fun i h st => by obtain ⟨o, e, _⟩ := st.1; exact ⟨o, e⟩)
    (fun i h h' o nw st e e' k N' S => ⟨by obtain ⟨o', q, r⟩ := st.1; rw [e] at q; cases q; exact ⟨o, e', r⟩, ha.dictAt (N' _ S).1⟩) hcell hkind hx ⟨⟨_, Heap.get?_push_size _ rfl, rfl, rfl⟩, hat.push _⟩ (fun b hb => ?_)
    (F.keeps up) (N.grown up) (Nat.ne_of_lt F.ns.lt) (next_is_new F) (fun p hp => Nat.ne_of_lt (Heap.lt_size (N p hp).1)) hm (restT_f hm ?_ ⟨rfl, rfl⟩) ?_
  · show b < (s₁.heap.push _).objs.size
    rw [Heap.size_push]
    rcases List.mem_cons.mp hb with rfl | hb
    · exact Nat.lt_succ_self _
    · rw [List.mem_singleton.mp hb]; exact Nat.lt_succ_of_lt hlt
  · rintro i hi v I oI C oC D m₂ h tk E' ⟨k, x9, hx9, hk⟩ hC hxv F' N'
    obtain ⟨t, rfl⟩ := Value.isInt_shape hk
    exact el i k x9 hx9 t I oI C oC D m₂ h tk E' hC hxv F' N'
  · rintro D C h tk m' ys news' F' N' o1 hn hC₀ hD₀ hCL hDL hCD offC ⟨rfl, rfl⟩
    refine ⟨m', hn, fun h'' hs'' => fin D h'' tk (F'.change hs'' hCL hC₀) (fun p hp => ?_)⟩
    refine ⟨hs''.extBut _ _ ?_ (N' p hp).1, (N' p hp).2⟩
    rcases List.mem_cons.mp hp with rfl | hp
    · exact Ne.symm hCD
    · exact offC p hp
end

theorem wl_mem9 {w : World} {C : Nat} {e t : Addr} : ∀ {W : List WE} {x : WE}, x ∈ W → (x.e, instObj C x.d) ∈ wl w C e t W ∧ (x.d, x.dict w e t) ∈ wl w C e t W
  | _ :: _, _, .head _ => ⟨.head _, .tail _ (.head _)⟩
  | _ :: _, _, .tail _ h => ⟨.tail _ (.tail _ (wl_mem9 h).1), .tail _ (.tail _ (wl_mem9 h).2)⟩
theorem ev_rows {prog : Program} {X : Fx} {PS : List Pc} {r : Int} {T0 : List (Addr × Obj)} {g : Gl} {M L : List Pr} {Qp Qg : List Wt} {os : List QE} {orow : List (Addr × Obj)} {kA kT kD : List (Int × Value)} {k : Int}
    (R : Rest prog X PS r T0 g M L Qp Qg os orow kA kT) (D : DueOk kT kD) (h : (valueAt kA k).isSome = true) :
    ∃ (x : WE) (cl : Nat) (od9 : Obj) (b : Bool), valueAt kA k = some (.ref x.e) ∧ (cl = 850 ∨ cl = 871) ∧ (x.e, instObj cl x.d) ∈ wR X g (Qp.map Wt.x) (Qg.map Wt.x) (M.flatMap Pr.l ++ orow) ∧ (x.d, od9) ∈ wR X g (Qp.map Wt.x) (Qg.map Wt.x) (M.flatMap Pr.l ++ orow) ∧
      (valueAt kD k).isSome = b ∧ (od9 = x.dict X.w X.e X.tn ∧ b = false ∨ ∃ t6 t7, od9 = x.gone X.w X.e X.tn t6 t7 ∧ b = true) := by
  obtain ⟨p, hp, rfl⟩ := List.mem_map.mp (R.O.ak2 k h)
  obtain ⟨a, ha, rfl⟩ := R.memM hp
  have h1 := R.O.ak a ha
  have h2 := R.O.tk a ha
  have hb : (valueAt kD a.p.i).isSome = a.ph.told := by
    rw [← h2]
    cases e : valueAt kT a.p.i with
    | none =>
      cases e' : valueAt kD a.p.i with
      | none => rfl
      | some v =>
        have := D.2 a.p.i (by rw [e']; rfl)
        rw [e] at this
        exact nomatch this
    | some v =>
      obtain ⟨i, u, u', _, e'⟩ := D.1 _ _ e
      rw [e']; rfl
  rcases R.split ha with hL | ⟨q, hq, rfl⟩
  · rcases R.ph a hL with ⟨y, te, e⟩ | ⟨y, te, e⟩ | ⟨x, e⟩
    · rw [h1, e] at h
      exact nomatch h
    · rw [h1, e] at h
      exact nomatch h
    · have hr := R.O.ok a ha
      have hl : ∀ z ∈ a.l, z ∈ wR X g (Qp.map Wt.x) (Qg.map Wt.x) (M.flatMap Pr.l ++ orow) := fun z hz => List.mem_append_right _ (List.mem_append_right _ (List.mem_append_right _ (List.mem_append_right _ (List.mem_append_right _ (List.mem_append_left _ (List.mem_flatMap.mpr ⟨a, ha, hz⟩))))))
      rw [e] at h1 hb
      obtain ⟨ap, aph, al⟩ := a
      dsimp only at e hr hl h1 hb
      subst e
      cases hr with
      | @s5 _ t6 t7 =>
        refine ⟨x, cls ap.puts, _, true, h1, ?_, hl _ (.head _), hl _ (.tail _ (.head _)), hb, .inr ⟨t6, t7, rfl, rfl⟩⟩
        cases ap.puts
        · exact .inr rfl
        · exact .inl rfl
  · rcases hq with hq | hq
    · have := wl_mem9 (w := X.w) (C := 850) (e := X.e) (t := X.tn) (List.mem_map.mpr ⟨q, hq, rfl⟩ : q.x ∈ Qp.map Wt.x)
      exact ⟨q.x, 850, _, false, h1, .inl rfl, List.mem_append_right _ (List.mem_append_right _ (List.mem_append_right _ (List.mem_append_left _ this.1))), List.mem_append_right _ (List.mem_append_right _ (List.mem_append_right _ (List.mem_append_left _ this.2))), hb, .inl ⟨rfl, rfl⟩⟩
    · have := wl_mem9 (w := X.w) (C := 871) (e := X.e) (t := X.tn) (List.mem_map.mpr ⟨q, hq, rfl⟩ : q.x ∈ Qg.map Wt.x)
      exact ⟨q.x, 871, _, false, h1, .inr rfl, List.mem_append_right _ (List.mem_append_right _ (List.mem_append_right _ (List.mem_append_right _ (List.mem_append_left _ this.1)))), List.mem_append_right _ (List.mem_append_right _ (List.mem_append_right _ (List.mem_append_right _ (List.mem_append_left _ this.2)))), hb, .inl ⟨rfl, rfl⟩⟩
end

section
-- part L16
open PySem PySem.W PyProof.Rows PySem.Spec in
theorem turn_L16 {p : Program} {w : World} {A : Around} {en : Env} {Q : Flow → Shared → Prop} {E : Value → Shared → Prop} {s : Shared} (h : Q .next s) : wpAny (model p w) A (execs [] en) Q E s := by
  w_top off
  walk1
  exact h
open PySem PySem.W PyProof.Rows PySem.Calls PyProof.V PySem.Spec

local macro_rules | `(tactic| walk_at "eval ListComp") => `(tactic| (k_here; k_dflt (refine ListComp_D (F₀ := by k_asm) (by with_unfolding_all rfl) (by decide) (by rfl) (by decide) (by rfl) ?_)))
local macro_rules | `(tactic| walk_at "compareOp In int ref") => `(tactic| (k_here; refine hold_of ?_))
local macro_rules | `(tactic| walk_at "compareOp Eq ref ref") => `(tactic| (k_here; refine hold_of ?_))
local macro_rules | `(tactic| walk_at "subscriptTail") => `(tactic| (k_here; (with_reducible show wpAny _ _ (subscriptTail _ _ (Value.ref _) (Value.int _ _)) _ _ _); k_dflt (refine' dictI_T ?N ?m ?d ?x ?_; (case N => k_asm); (case m => k_mem); (case d => with_reducible assumption); (case x => with_reducible assumption); k_whole)))
theorem eqT_K {prog : Program} {w : World} {A : Around} {E : Value → Shared → Prop} {s : Shared} {h₀ : Heap} {L a b : Addr} {news : List (Addr × Obj)} {k : Nat} {Q : Value → Shared → Prop} (N : News h₀ L s.heap news) (ha : (a, LCg.lst []) ∈ news) (hb : (b, W.listOf #[] k) ∈ news) (hu : A.units + 64 < cLine) (h : Q (.bool true) s) :
    wpAny (model prog w) A (compareOp .Eq (.ref a) (.ref b)) Q E s := by
  refine eq_dataH_same (reads_newData (N.isList ha) (tr_carried 0)) (reads_newData (N.isList hb) (tr_carried 0)) (tr_shaped _) (tr_shaped _) hu (SeqAt.noMix_of_shape (.list .bool) rfl _ _ (tr_has _) (tr_has _)) ?_
  have e : PySem.Spec.same (.list (List.replicate 0 (.bool true))) (.list (List.replicate 0 (.bool true))) = true := by
    simp only [PySem.Spec.same]
    exact tr_same 0
  rw [e]
  exact h
section
variable {prog : Program} {X : Fx} {PS : List Pc} {r : Int} {T0 : List (Addr × Obj)} {g : Gl} {M LL : List Pr} {Qp Qg : List Wt} {os : List QE} {orow : List (Addr × Obj)} {kA kT kD : List (Int × Value)}
theorem ret_st {p : Program} {loose : List Str} {mean : ExcName → Option Value} {mg mb : Str → Option Value} {dp un : Nat} {gd : Option (List Code)} {a : Addr} {ccd : Value} {A₀ : Around} {base h₀ : Heap} {L c1 c2 c3 du : Addr} {m : Str → Option Value} {s : Shared} {Q : Flow → Shared → Prop} {E : Value → Shared → Prop} {o2 o3 od : Obj} {rt : Tok} {nw : List (Addr × Obj)}
    (B : Below A₀ base [] h₀) (F : Fr h₀ L s.heap m) (XB : (Mine.kk.heap_1 X.w.params).In base) (TB : Top p loose mean mg mb base) (C : CodeHd base 979 975) (hdp : dp + 300 < recursionLimit) (hun : un + 2000 < cLine)
    (mt : m (Str.ofString "tank") = some (.ref X.tn)) (mr : m (Str.ofString "room") = some (.int X.room rt)) (R : Rest prog X PS r T0 g M LL Qp Qg os orow kA kT) (D : DueOk kT kD) (P : PsOk PS) (dd : od.IsDictOf (PySem.intKind prog X.w) kD)
    (N : News h₀ L s.heap nw) (hW : ∀ z ∈ wR X g (Qp.map Wt.x) (Qg.map Wt.x) (M.flatMap Pr.l ++ orow), z ∈ nw) (h2 : (c2, o2) ∈ nw) (d2 : o2.data = .cell (some (.ref X.ask))) (h3 : (c3, o3) ∈ nw) (d3 : o3.data = .cell (some (.ref du))) (hdu : (du, od) ∈ nw) (la : (X.ask == sysModules) = false) (lb : (du == sysModules) = false)
    (ret : ∀ (m' : Str → Option Value) (h' : Heap) (tk' : Nat), Fr h₀ L h' m' → News h₀ L h' nw → Q (.ret (.bool true)) { s with heap := h', toks := tk' }) :
    wpAny (model prog X.w) (lawA X.w.params dp un gd c1 c2 c3 L a ccd) (exec (lawSt X.w.params 13) (lawE X.w.params c1 c2 c3 L a ccd)) Q E s := by
  refine Mine.go_of ?_
  simp (disch := k_dflt (
  have X' := XB.keeps B.stays
  have T' := TB.keeps B.stays
  have hk := lawS_kind X.w.params
  (with_unfolding_all show wpAny _ _ (exec (Stmt.Return _ _) _) _ _ _)
  have F0 := fr_chain [(Str.ofString "tank", .ref X.tn), (Str.ofString "room", .int X.room rt)] F ⟨mt, mr, trivial⟩
  dsimp only [chain] at F0
  have N1 := news_rows N (l' := (X.tn, instObj 929 X.td) :: (X.td, tankO X.w X.e X.pq X.gq X.room g.level X.r1 X.r2 X.r3 X.r4 X.r5 X.v1 g.v2) :: (c2, o2) :: (X.ask, g.oa) :: (c3, o3) :: (du, od) :: nw) (an_cons (hW _ wR_tn) (an_cons (hW _ wR_td) (an_cons h2 (an_cons (hW _ wR_ask) (an_cons h3 (an_cons hdu fun _ h => h))))))
  clear N F
  k_steps
  · rename Fr _ _ _ _ => F5
    rename News _ _ _ _ => N5
    refine ⟨X.ask, g.oa, kA, _, rfl, by rfl, F5, N5, .tail _ (.tail _ (.tail _ (.head _))), R.O.oa, la, ?len, ?el, ?fin⟩
    case len =>
      have h1 := nodup_len (dict_nd R.O.oa) fun n hn => R.O.ak2 n (val_some hn)
      have h2 := P.ln
      rw [List.length_map, List.length_map] at h1
      omega
    case el =>
      intro i k v hkv t I oI C9 oC D9 m₂ h tk E' hC9 hm2 F6 N6
      obtain ⟨x, cl, od9, b, hv, hcl, hx1, hx2, hb, hod⟩ := ev_rows R D (val_some (List.mem_map.mpr ⟨(k, v), List.mem_of_getElem? hkv, rfl⟩))
      have N7 := news_rows N6 (l' := (C9, oC) :: (x.e, instObj cl x.d) :: (x.d, od9) :: (c2, o2) :: (X.ask, g.oa) :: (c3, o3) :: (du, od) :: (I, oI) :: (D9, LCg.lst []) :: nw) (an_cons (.tail _ (.head _)) (an_cons (.tail _ (.tail _ (.tail _ (.tail _ (.tail _ (.tail _ (.tail _ (.tail _ (.tail _ (hW _ hx1)))))))))) (an_cons (.tail _ (.tail _ (.tail _ (.tail _ (.tail _ (.tail _ (.tail _ (.tail _ (.tail _ (hW _ hx2)))))))))) (an_cons (.tail _ (.tail _ (.tail _ (.tail _ (.tail _ (.head _)))))) (an_cons (.tail _ (.tail _ (.tail _ (.tail _ (.tail _ (.tail _ (.head _))))))) (an_cons (.tail _ (.tail _ (.tail _ (.tail _ (.tail _ (.tail _ (.tail _ (.head _)))))))) (an_cons (.tail _ (.tail _ (.tail _ (.tail _ (.tail _ (.tail _ (.tail _ (.tail _ (.head _))))))))) (an_cons (.head _) (an_cons (.tail _ (.tail _ (.head _))) fun _ h => .tail _ (.tail _ (.tail _ (.tail _ (.tail _ (.tail _ (.tail _ (.tail _ (.tail _ h)))))))))))))))))
      clear N6 N5 F5
      have R2 := R.O.oa
      have hX : ∀ z ∈ nw, z ∈ (C9, oC) :: (x.e, instObj cl x.d) :: (x.d, od9) :: (c2, o2) :: (X.ask, g.oa) :: (c3, o3) :: (du, od) :: (I, oI) :: (D9, LCg.lst []) :: nw := fun z hz => .tail _ (.tail _ (.tail _ (.tail _ (.tail _ (.tail _ (.tail _ (.tail _ (.tail _ hz))))))))
      rcases hcl with rfl | rfl <;> rcases hod with ⟨rfl, rfl⟩ | ⟨t6, t7, rfl, rfl⟩
      · k_steps
        unfold Hold
        rename Fr _ _ _ _ => F9
        rename News _ _ _ _ => N9
        refine kda_in (knd := intKind prog X.w) N9 (.tail _ (.tail _ (.tail _ (.tail _ (.tail _ (.tail _ (.head _))))))) dd lb (intKind_is _ _ _ _) false hb ?_
        k_steps
        rename Fr _ _ _ _ => F8
        rename News _ _ _ _ => N8
        refine ⟨_, _, rfl, F8, news_rows N8 (an_cons (.tail _ (.tail _ (.tail _ (.tail _ (.tail _ (.tail _ (.tail _ (.head _)))))))) (an_cons (.head _) (an_cons (.tail _ (.tail _ (.tail _ (.tail _ (.tail _ (.tail _ (.tail _ (.tail _ (.head _))))))))) (an_cons (hX _ (hW _ wR_tn)) (an_cons (hX _ (hW _ wR_td)) (an_cons (.tail _ (.tail _ (.tail _ (.head _)))) (an_cons (.tail _ (.tail _ (.tail _ (.tail _ (.head _))))) (an_cons (.tail _ (.tail _ (.tail _ (.tail _ (.tail _ (.head _)))))) (an_cons (.tail _ (.tail _ (.tail _ (.tail _ (.tail _ (.tail _ (.head _))))))) hX)))))))))⟩
      · k_steps
        unfold Hold
        rename Fr _ _ _ _ => F9
        rename News _ _ _ _ => N9
        refine kda_in (knd := intKind prog X.w) N9 (.tail _ (.tail _ (.tail _ (.tail _ (.tail _ (.tail _ (.head _))))))) dd lb (intKind_is _ _ _ _) true hb ?_
        k_steps
        rename Fr _ _ _ _ => F8
        rename News _ _ _ _ => N8
        refine ⟨_, _, rfl, F8, news_rows N8 (an_cons (.tail _ (.tail _ (.tail _ (.tail _ (.tail _ (.tail _ (.tail _ (.head _)))))))) (an_cons (.head _) (an_cons (.tail _ (.tail _ (.tail _ (.tail _ (.tail _ (.tail _ (.tail _ (.tail _ (.head _))))))))) (an_cons (hX _ (hW _ wR_tn)) (an_cons (hX _ (hW _ wR_td)) (an_cons (.tail _ (.tail _ (.tail _ (.head _)))) (an_cons (.tail _ (.tail _ (.tail _ (.tail _ (.head _))))) (an_cons (.tail _ (.tail _ (.tail _ (.tail _ (.tail _ (.head _)))))) (an_cons (.tail _ (.tail _ (.tail _ (.tail _ (.tail _ (.tail _ (.head _))))))) hX)))))))))⟩
      · k_steps
        unfold Hold
        rename Fr _ _ _ _ => F9
        rename News _ _ _ _ => N9
        refine kda_in (knd := intKind prog X.w) N9 (.tail _ (.tail _ (.tail _ (.tail _ (.tail _ (.tail _ (.head _))))))) dd lb (intKind_is _ _ _ _) false hb ?_
        k_steps
        rename Fr _ _ _ _ => F8
        rename News _ _ _ _ => N8
        refine ⟨_, _, rfl, F8, news_rows N8 (an_cons (.tail _ (.tail _ (.tail _ (.tail _ (.tail _ (.tail _ (.tail _ (.head _)))))))) (an_cons (.head _) (an_cons (.tail _ (.tail _ (.tail _ (.tail _ (.tail _ (.tail _ (.tail _ (.tail _ (.head _))))))))) (an_cons (hX _ (hW _ wR_tn)) (an_cons (hX _ (hW _ wR_td)) (an_cons (.tail _ (.tail _ (.tail _ (.head _)))) (an_cons (.tail _ (.tail _ (.tail _ (.tail _ (.head _))))) (an_cons (.tail _ (.tail _ (.tail _ (.tail _ (.tail _ (.head _)))))) (an_cons (.tail _ (.tail _ (.tail _ (.tail _ (.tail _ (.tail _ (.head _))))))) hX)))))))))⟩
      · k_steps
        unfold Hold
        rename Fr _ _ _ _ => F9
        rename News _ _ _ _ => N9
        refine kda_in (knd := intKind prog X.w) N9 (.tail _ (.tail _ (.tail _ (.tail _ (.tail _ (.tail _ (.head _))))))) dd lb (intKind_is _ _ _ _) true hb ?_
        k_steps
        rename Fr _ _ _ _ => F8
        rename News _ _ _ _ => N8
        refine ⟨_, _, rfl, F8, news_rows N8 (an_cons (.tail _ (.tail _ (.tail _ (.tail _ (.tail _ (.tail _ (.tail _ (.head _)))))))) (an_cons (.head _) (an_cons (.tail _ (.tail _ (.tail _ (.tail _ (.tail _ (.tail _ (.tail _ (.tail _ (.head _))))))))) (an_cons (hX _ (hW _ wR_tn)) (an_cons (hX _ (hW _ wR_td)) (an_cons (.tail _ (.tail _ (.tail _ (.head _)))) (an_cons (.tail _ (.tail _ (.tail _ (.tail _ (.head _))))) (an_cons (.tail _ (.tail _ (.tail _ (.tail _ (.tail _ (.head _)))))) (an_cons (.tail _ (.tail _ (.tail _ (.tail _ (.tail _ (.tail _ (.head _))))))) hX)))))))))⟩
    case fin =>
      intro D9 h tk F6 N6
      clear N5 F5
      k_steps
      unfold Hold
      rename Fr _ _ _ _ => F8
      rename News _ _ _ _ => N8
      refine eqT_K N8 (.tail _ (.head _)) (.head _) (by dsimp only [lawA, kTop]; omega) ?_
      exact ret _ _ _ F8 (news_rows N8 fun z hz => .tail _ (.tail _ (.tail _ (.tail _ (.tail _ (.tail _ (.tail _ (.tail _ hz))))))))
  · exact absurd rfl ‹X.room ≠ X.room›)) only [↓Mine.go_eq]
end
end

section
-- part L2
open PySem PySem.W PyProof.Rows PySem.Spec in
theorem turn_L2 {p : Program} {w : World} {A : Around} {en : Env} {Q : Flow → Shared → Prop} {E : Value → Shared → Prop} {s : Shared} (h : Q .next s) : wpAny (model p w) A (execs [] en) Q E s := by
  w_top off
  walk1
  exact h
open PySem PySem.W PyProof.Rows PySem.Calls PyProof.V PySem.Spec

local macro_rules | `(tactic| walk_at "CompSrc") => `(tactic| refine hold_of ?_)
local macro_rules | `(tactic| walk_at "CompEnd") => `(tactic| refine hold_of ?_)
section
variable {prog : Program} {w : World}
theorem ones_st {p : Program} {loose : List Str} {mean : ExcName → Option Value} {mg mb : Str → Option Value} {dp un : Nat} {gd : Option (List Code)} {a : Addr} {ccd : Value} {A₀ : Around} {base h₀ : Heap} {L c1 c2 c3 nu : Addr} {m : Str → Option Value} {s : Shared} {Q : Flow → Shared → Prop} {E : Value → Shared → Prop} {o1 : Obj} {ws : List Value} {nums : List Int} {n kn : Nat} {tm : Tok} {tl : List (Addr × Obj)}
    (B : Below A₀ base [] h₀) (F : Fr h₀ L s.heap (fun z => if z = Str.ofString "many" then some (.int (n : Int) tm) else m z)) (XB : (Mine.kk.heap_1 w.params).In base) (TB : Top p loose mean mg mb base) (C : CodeHd base 979 975) (hdp : dp + 300 < recursionLimit) (hun : un + 2000 < cLine)
    (N : News h₀ L s.heap ((c1, o1) :: (nu, W.listOf ws.toArray kn) :: tl)) (nd : ([c1, nu] ++ tl.map (·.1)).Nodup) (h1 : o1.data = .cell (some (.ref nu))) (hi : IntsAre ws nums) (hn : n ≤ 7) (hln : 2 * n + 2 ≤ nums.length) (hl2 : nums.length ≤ 63)
    (ret : ∀ (D : Addr) (R : List On) (h' : Heap) (tk' : Nat), R.length = n → (∀ o ∈ R, 0 < o.x) → Fr h₀ L h' (fun z => if z = Str.ofString "ones" then some (.ref D) else if z = Str.ofString "many" then some (.int (n : Int) tm) else m z) → News h₀ L h' ((D, lsO R n) :: (R.map On.row ++ (c1, o1) :: (nu, W.listOf ws.toArray kn) :: tl)) → (((D, lsO R n) :: (R.map On.row ++ (c1, o1) :: (nu, W.listOf ws.toArray kn) :: tl)).map (·.1)).Nodup → Q .next { s with heap := h', toks := tk' }) :
    wpAny (model prog w) (lawA w.params dp un gd c1 c2 c3 L a ccd) (exec (lawSt w.params 6) (lawE w.params c1 c2 c3 L a ccd)) Q E s := by
  refine Mine.go_of ?_
  simp (disch := k_dflt (
  have X := XB.keeps B.stays
  have T := TB.keeps B.stays
  (with_unfolding_all show wpAny _ _ (exec (Stmt.Assign _ _ _) _) _ _ _)
  k_dflt (refine LCg.Assign_ListComp_U (F₀ := by k_asm) (by rfl) (by with_unfolding_all rfl) (by with_unfolding_all rfl) (by decide) (by rfl) (by decide) (by rfl) (by rfl) (by rfl) ?_)
  k_steps
  unfold Hold
  refine LCg.CompSrc.range (n := n) (by rfl) (by k_asm) (by k_asm) (by assumption) (by first | exact small_one (by omega) (by omega) (by omega) (by omega) | decide) (by first | exact rangeSize_nat _ _ | rfl | fail "rs") (by rw [PySem.sizeLine_eq]; omega) ?_
  intro g'
  refine rest_ind (fun i ys nw => ∃ R : List On, R.length = i ∧ (∀ o ∈ R, 0 < o.x) ∧ ys = (R.map fun o => Value.ref o.a).reverse ∧ nw = R.map On.row ++ ((c1, o1) :: (nu, W.listOf ws.toArray kn) :: tl) ∧ (nw.map (·.1)).Nodup) ⟨[], rfl, by (intro _ h; exact nomatch h), rfl, rfl, by simpa using nd⟩ ?turn ?fin
  case fin =>
    rintro ys nw ⟨R, rfl, hR, rfl, rfl, hnd⟩
    intro D h tk F N o1
    rw [lst_lsO] at N
    exact ret D R h tk rfl hR F N (List.nodup_cons.mpr ⟨off_notin (off1_mem o1), hnd⟩)
  case turn =>
    rintro i ys nw hin ⟨R, rfl, hR, rfl, rfl, hnd⟩ v I oI C oC D m2 h tk E' ⟨t, rfl⟩ hC hx F N off ne
    have N2 := news_rows N (l' := (I, oI) :: (C, oC) :: (D, LCg.lst (R.map fun o => Value.ref o.a).reverse) :: (c1, o1) :: (nu, W.listOf ws.toArray kn) :: (R.map On.row ++ ((c1, o1) :: (nu, W.listOf ws.toArray kn) :: tl))) (sub_keep (sub_keep (sub_keep (an_cons (List.mem_append_right _ (.head _)) (an_cons (List.mem_append_right _ (.tail _ (.head _))) fun _ h => h)))))
    clear N
    k_steps
    unfold Hold
    rename News _ _ _ _ => N3
    rename Fr _ _ _ _ => F3
    rename ∀ p : Addr × Obj, p ∈ (_ : List (Addr × Obj)) → @LT.lt Nat _ p.1 _ => lt9
    obtain ⟨o, rfl, hox, N4⟩ := on_ex N3
    refine ⟨_, _, o.row :: (R.map On.row ++ ((c1, o1) :: (nu, W.listOf ws.toArray kn) :: tl)), rfl, F3, news_rows N4 ?sub, ?off, trivial, o :: R, rfl, ?pos, ?ys, rfl, ?nd⟩
    case sub => exact an_cons (.tail _ (.head _)) (an_cons (.tail _ (.tail _ (.head _))) (an_cons (.tail _ (.tail _ (.tail _ (.head _)))) (an_cons (.head _) fun p hp => .tail _ (.tail _ (.tail _ (.tail _ (.tail _ (.tail _ hp))))))))
    case off => exact ⟨⟨Ne.symm (Nat.ne_of_lt (lt9 _ (.head _))), Ne.symm (Nat.ne_of_lt (lt9 _ (.tail _ (.head _)))), Ne.symm (Nat.ne_of_lt (lt9 _ (.tail _ (.tail _ (.head _)))))⟩, off⟩
    case pos => exact List.forall_mem_cons.mpr ⟨hox ▸ mod13_pos, hR⟩
    case ys => rw [List.map_cons, List.reverse_cons]
    case nd => exact List.nodup_cons.mpr ⟨off_notin fun p hp => Nat.ne_of_lt (lt9 p (.tail _ (.tail _ (.tail _ (.tail _ (.tail _ hp)))))), hnd⟩)) only [↓Mine.go_eq]
end
end

section
-- part L15
open PySem PySem.W PyProof.Rows PySem.Spec in
theorem turn_L15 {p : Program} {w : World} {A : Around} {en : Env} {Q : Flow → Shared → Prop} {E : Value → Shared → Prop} {s : Shared} (h : Q .next s) : wpAny (model p w) A (execs [] en) Q E s := by
  w_top off
  walk1
  exact h
open PySem PySem.W PyProof.Rows PySem.Calls PyProof.V PySem.Spec

local macro_rules | `(tactic| walk_at "inl") => `(tactic| first | exact .head _ | (refine List.Mem.tail _ ?_; walk_at "inl") | (refine List.mem_append_right _ ?_; walk_at "inl"))
local macro_rules | `(tactic| walk_at "leaf9") => `(tactic| first | exact fun _ h => h | exact fun _ h => List.mem_append_left _ h | (refine sub_drop ?_; walk_at "leaf9") | (refine sub_mid ?_; walk_at "leaf9"))
local macro_rules | `(tactic| walk_at "sub9") => `(tactic| first | (refine an_cons (by walk_at "inl") ?_; walk_at "sub9") | ((with_reducible refine app_sub ?_ ?_); (focus walk_at "sub9"); walk_at "sub9") | walk_at "leaf9")
local macro_rules | `(tactic| walk_at "cnt9") => `(tactic| (simp only [List.map_append, List.map_cons, List.map_nil, List.cons_append, List.nil_append, cnt_app, cnt_cons, cnt_nil, Nat.zero_add]; omega))
local macro_rules | `(tactic| walk_at "exec For Name Name cons nil") => `(tactic| (k_here; refine hold_of ?_))
local macro_rules | `(tactic| walk_at "call type:list") => `(tactic| (k_here; refine hold_of ?_))
theorem ints_ex {us : List Value} {ks : List Int} (h : IntsAre us ks) : ∃ R : List (Int × Tok), us = R.map (fun x => Value.int x.1 x.2) ∧ R.map (·.1) = ks := by
  induction h with
  | nil => exact ⟨[], rfl, rfl⟩
  | cons x t _ ih =>
    obtain ⟨R, h1, h2⟩ := ih
    exact ⟨(x, t) :: R, by rw [h1]; rfl, by rw [List.map_cons, h2]⟩
theorem rangeKs_eq {n : Nat} (h : n ≤ 7) : rangeKs 0 n = (List.range n).map fun (j : Nat) => (j : Int) := by
  have : ∀ n : Fin 8, rangeKs 0 n.val = (List.range n.val).map fun (j : Nat) => (j : Int) := by decide +kernel
  exact this ⟨n, by omega⟩
local macro_rules | `(tactic| k_all) => `(tactic| assumption)
local macro_rules | `(tactic| walk_at "exec Return some") => `(tactic| (k_here; refine hold_of ?_))
local macro_rules | `(tactic| walk_at "sub8") => `(tactic| first | (refine sub_cnt fun p9 => ?_; simp only [cp_app, cp_cons, cp_nil, Nat.zero_add, Nat.add_zero]; omega) | walk_at "sub9")
section
variable {prog : Program} {w : World}
theorem law_rest {p : Program} {loose : List Str} {mean : ExcName → Option Value} {mg mb : Str → Option Value} {dp un : Nat} {gd : Option (List Code)} {a : Addr} {ccd : Value} {A₀ : Around} {base h₀ : Heap} {L c1 c2 c3 nu e ed q c cd tn td pq gq : Addr} {m : Str → Option Value} {s : Shared} {Q : Flow → Shared → Prop} {E : Value → Shared → Prop} {o1 o2 o3 : Obj} {ws : List Value} {nums : List Int} {n k9 np ng : Nat} {tm rt lt t1 t2 t3 t4 u1 u4 u5 r1 r2 r3 r4 r5 v1 v2 : Tok} {room lv : Int} {nq : Nat}
    (H : PgOk prog) (B : Below A₀ base [] h₀) (F : Fr h₀ L s.heap (fun z => if z = Str.ofString "many" then some (.int (n : Int) tm) else m z)) (XB : (Mine.kk.heap_1 w.params).In base) (TB : Top p loose mean mg mb base) (C : CodeHd base 979 975) (hdp : dp + 300 < recursionLimit) (hun : un + 2000 < cLine)
    (me : m (Str.ofString "env") = some (.ref e)) (mt : m (Str.ofString "tank") = some (.ref tn)) (mr : m (Str.ofString "room") = some (.int room rt)) (mlv : m (Str.ofString "level") = some (.int lv lt)) (h0 : 0 ≤ lv) (h1 : lv ≤ room)
    (N : News h₀ L s.heap [(tn, instObj 929 td), (td, tankO w e pq gq room lv r1 r2 r3 r4 r5 v1 v2), (pq, listO #[] np), (gq, listO #[] ng), (e, instObj 662 ed), (ed, envO w t1 t2 t3 t4 u1 0 q c .none), (q, qobj #[] nq), (c, cntO cd true 0 u4 u5), (cd, dictOf [] 0), (nu, W.listOf ws.toArray k9), (c3, o3), (c2, o2), (c1, o1), (975, tabObj #[])])
    (nd : [tn, td, pq, gq, e, ed, q, c, cd, nu, c3, c2, c1, 975].Nodup) (d1 : o1.data = .cell (some (.ref nu))) (d2 : o2.data = .cell none) (d3 : o3.data = .cell none) (hi : IntsAre ws nums) (hn : n ≤ 7) (hln : 2 * n + 2 ≤ nums.length) (hl2 : nums.length ≤ 63)
    (hE : PassesOwn (model prog w) (lawA w.params dp un gd c1 c2 c3 L a ccd) (lawE w.params c1 c2 c3 L a ccd) E)
    (ret : ∀ (m' : Str → Option Value) (ps : Array Value) (nw : List (Addr × Obj)) (h' : Heap) (tk' : Nat), Fr h₀ L h' m' → News h₀ L h' ((975, tabObj ps) :: nw) → Q (.ret (.bool true)) { s with heap := h', toks := tk' }) :
    wpAny (model prog w) (lawA w.params dp un gd c1 c2 c3 L a ccd) (execs ((lawB w.params).drop 6) (lawE w.params c1 c2 c3 L a ccd)) Q E s := by
  refine Mine.go_of ?_
  simp (disch := k_dflt (
  have X := XB.keeps B.stays
  have T := TB.keeps B.stays
  have hk := lawS_kind w.params
  (with_unfolding_all show wpAny _ _ (execs (_ :: _) _) _ _ _)
  k_steps
  unfold Hold
  refine' ones_st (tl := [(tn, instObj 929 td), (td, tankO w e pq gq room lv r1 r2 r3 r4 r5 v1 v2), (pq, listO #[] np), (gq, listO #[] ng), (e, instObj 662 ed), (ed, envO w t1 t2 t3 t4 u1 0 q c .none), (q, qobj #[] nq), (c, cntO cd true 0 u4 u5), (cd, dictOf [] 0), (c3, o3), (c2, o2), (975, tabObj #[])]) B F XB TB C hdp hun (news_rows N ?sub1) ?nd1 d1 hi hn hln hl2 ?ret1
  case sub1 => walk_at "sub8"
  case nd1 => exact nd_le nd fun _ => by walk_at "cnt9"
  case ret1 =>
    intro on R h1a tk1 hRl hRx F1 N1 nd1
    k_steps
    unfold Hold
    rename ∀ p : Addr × Obj, p ∈ (_ : List (Addr × Obj)) → @LT.lt Nat _ p.1 _ => lt1
    rename_i ord _ _ _ _ _ _ _ _ _ _ _ _
    refine kll_range (n := n) (by rfl) (by k_asm) (by assumption) (by assumption) (by first | exact small_one (by omega) (by omega) (by omega) (by omega) | decide) (by first | exact rangeSize_nat _ _ | rfl | fail "rs") (by omega) ?_
    intro rs us kr h2 tk2 F2 N2 lt2 hI2
    rw [rangeKs_eq hn] at hI2
    obtain ⟨R0, rfl, hR0⟩ := ints_ex hI2
    k_steps
    unfold Hold
    have nd2 := List.nodup_cons.mpr ⟨off_notin fun p hp => Nat.ne_of_lt (lt2 p hp), List.nodup_cons.mpr ⟨off_notin fun p hp => Nat.ne_of_lt (lt1 p hp), nd1⟩⟩
    rename Fr _ _ _ _ => F3
    rename News _ _ _ _ => N3
    refine' order_st (od := ord) (k1 := 0) (k2 := kr) (R0 := R0) (tl := (on, lsO R n) :: (R.map On.row ++ [(tn, instObj 929 td), (td, tankO w e pq gq room lv r1 r2 r3 r4 r5 v1 v2), (pq, listO #[] np), (gq, listO #[] ng), (e, instObj 662 ed), (ed, envO w t1 t2 t3 t4 u1 0 q c .none), (q, qobj #[] nq), (c, cntO cd true 0 u4 u5), (cd, dictOf [] 0), (c3, o3), (c2, o2), (975, tabObj #[])])) B F3 XB TB C hdp hun rfl rfl rfl (news_rows N3 ?sub3) ?nd3 d1 hi hn hln hl2 ?len3 hE ?ret3
    case sub3 => walk_at "sub8"
    case nd3 => exact nd_le nd2 fun _ => by walk_at "cnt9"
    case len3 =>
      have := congrArg List.length hR0
      rw [List.length_map, List.length_map, List.length_range] at this
      exact this
    case ret3 =>
      intro O kO kR m3 h4 tk4 hOp hm3 F4 N4
      rw [hR0] at hOp
      have me3 : m3 (Str.ofString "env") = some (.ref e) := (hm3 _ (by decide)).trans me
      have mt3 : m3 (Str.ofString "tank") = some (.ref tn) := (hm3 _ (by decide)).trans mt
      have mr3 : m3 (Str.ofString "room") = some (.int room rt) := (hm3 _ (by decide)).trans mr
      have mv3 : m3 (Str.ofString "level") = some (.int lv lt) := (hm3 _ (by decide)).trans mlv
      have mo3 := (hm3 (Str.ofString "order") (by decide)).trans rfl
      have mn3 : m3 (Str.ofString "ones") = some (.ref on) := (hm3 _ (by decide)).trans rfl
      have mm3 : m3 (Str.ofString "many") = some (.int (n : Int) tm) := (hm3 _ (by decide)).trans rfl
      have nd4 : ((((c2, o2) :: (c3, o3) :: (ord, lsI O kO) :: (on, lsO R n) :: (c1, o1) :: (nu, W.listOf ws.toArray k9) :: (R.map On.row ++ [(tn, instObj 929 td), (td, tankO w e pq gq room lv r1 r2 r3 r4 r5 v1 v2), (pq, listO #[] np), (gq, listO #[] ng), (e, instObj 662 ed), (ed, envO w t1 t2 t3 t4 u1 0 q c .none), (q, qobj #[] nq), (c, cntO cd true 0 u4 u5), (cd, dictOf [] 0), (975, tabObj #[])])).map (·.1))).Nodup := nd_le nd2 fun _ => by walk_at "cnt9"
      replace N4 := news_rows N4 (l' := (c2, o2) :: (c3, o3) :: (ord, lsI O kO) :: (on, lsO R n) :: (c1, o1) :: (nu, W.listOf ws.toArray k9) :: (R.map On.row ++ [(tn, instObj 929 td), (td, tankO w e pq gq room lv r1 r2 r3 r4 r5 v1 v2), (pq, listO #[] np), (gq, listO #[] ng), (e, instObj 662 ed), (ed, envO w t1 t2 t3 t4 u1 0 q c .none), (q, qobj #[] nq), (c, cntO cd true 0 u4 u5), (cd, dictOf [] 0), (975, tabObj #[])])) (by walk_at "sub8")
      generalize hW4 : ((ord, lsI O kO) :: (on, lsO R n) :: (c1, o1) :: (nu, W.listOf ws.toArray k9) :: (R.map On.row ++ [(tn, instObj 929 td), (td, tankO w e pq gq room lv r1 r2 r3 r4 r5 v1 v2), (pq, listO #[] np), (gq, listO #[] ng), (e, instObj 662 ed), (ed, envO w t1 t2 t3 t4 u1 0 q c .none), (q, qobj #[] nq), (c, cntO cd true 0 u4 u5), (cd, dictOf [] 0), (975, tabObj #[])])) = W4 at N4 nd4
      have oc2 : ∀ p ∈ W4, p.1 ≠ c2 := fun p hp e => by
        rw [List.map_cons, List.nodup_cons] at nd4
        exact nd4.1 (.tail _ (List.mem_map.mpr ⟨p, hp, e⟩))
      have oc3 : ∀ p ∈ W4, p.1 ≠ c3 := fun p hp e => by
        rw [List.map_cons, List.nodup_cons, List.map_cons, List.nodup_cons] at nd4
        exact nd4.2.1 (List.mem_map.mpr ⟨p, hp, e⟩)
      have oc23 : c2 ≠ c3 := fun e => by
        rw [List.map_cons, List.nodup_cons] at nd4
        exact nd4.1 (e ▸ .head _)
      k_steps
      unfold Hold
      rename_i ask h5 oa la1 loa hsa fsa hia fia tol h6 ot la2 lot hst fsb hit fit Dt h7 la3 h8 h9 o2' d2' h10 F5 N5
      have nd5 := List.nodup_cons.mpr ⟨off_notin fun p hp => Nat.ne_of_lt (la3 p hp), List.nodup_cons.mpr ⟨off_notin fun p hp => Nat.ne_of_lt (la2 p hp), List.nodup_cons.mpr ⟨off_notin fun p hp => Nat.ne_of_lt (la1 p hp), nd4⟩⟩⟩
      subst hW4
      rw [lsO_lsN] at N5 nd5
      let X0 : Fx := { w := w, e := e, ed := ed, q := q, c := c, cd := cd, tn := tn, td := td, pq := pq, gq := gq, ask := ask, tol := tol, room := room, t1 := t1, t2 := t2, t3 := t3, t4 := t4, r1 := r1, r2 := r2, r3 := r3, r4 := r4, r5 := r5, v1 := v1, u5 := u5, fb := true, c' := 0, oc := tabObj #[], tab := tabObj #[] }
      have hTr : ∀ o ∈ R.reverse, o.row ∈ R.map On.row := fun o ho => List.mem_map.mpr ⟨o, List.mem_reverse.mp ho, rfl⟩
      generalize hRR : R.map On.row = RR at N5 nd5 hTr
      let Dto : Obj := { cls := Value.type "tuple", data := Data.seq #[Value.ref ask, Value.ref tol] }
      let Z0 : List (Addr × Obj) := (c2, o2') :: (ord, lsI O kO) :: (on, lsN R.reverse n) :: (RR ++ [(c1, o1), (nu, W.listOf ws.toArray k9)])
      let TT : List (Addr × Obj) := (Dt, Dto) :: (c3, o3) :: (A6 X0 lv v2 np ng oa ot ++ Z0)
      refine' calls_st (X0 := X0) (qn0 := nq) (k0 := 0) (u40 := u4) (u1 := u1) (TT := TT) (O := O) (T := R.reverse) (o2 := o2') (od := ord) (on := on) B F5 XB TB C hdp hun mo3 mn3 mm3 me3 mt3 rfl (news_rows N5 ?sub5) ?nd5 ?a5 ?b5 ?c5 ?d5 d2' hOp ?e5 hn hE ?ret5
      case sub5 => (show ∀ p ∈ eR X0 u1 0 .none ++ (qR X0 #[] nq 0 u4 ++ ((975, tabObj #[]) :: ((Dt, Dto) :: (c3, o3) :: ([(tn, instObj 929 td), (td, tankO w e pq gq room lv r1 r2 r3 r4 r5 v1 v2), (pq, listO #[] np), (gq, listO #[] ng), (ask, oa), (tol, ot)] ++ ((c2, o2') :: (ord, lsI O kO) :: (on, lsN R.reverse n) :: (RR ++ [(c1, o1), (nu, W.listOf ws.toArray k9)])))))), _); simp only [List.cons_append, List.nil_append]; walk_at "sub8"
      case nd5 => exact nd_le nd5 fun _ => by (simp only [TT, Z0, X0, A6, List.map_append, List.map_cons, List.map_nil, List.cons_append, List.nil_append, cnt_app, cnt_cons, cnt_nil, Nat.zero_add]; omega)
      case a5 => exact .tail _ (.tail _ (List.mem_append_right _ (.tail _ (.head _))))
      case b5 => exact .tail _ (.tail _ (List.mem_append_right _ (.tail _ (.tail _ (.head _)))))
      case c5 => exact fun o ho => .tail _ (.tail _ (List.mem_append_right _ (.tail _ (.tail _ (.tail _ (List.mem_append_left _ (hTr o ho)))))))
      case d5 => exact .tail _ (.tail _ (List.mem_append_right _ (.head _)))
      case e5 => rw [List.length_reverse]; exact hRl
      case ret5 =>
        intro M ys qn k u4' tb cr c' oc nw m6 h11 tk11 D hm6 F6 N6
        have PS := D.ps hOp hn fun o ho => hRx o (List.mem_reverse.mp ho)
        have CM := D.cm hOp hn
        have hOl : O.length = n := by
          have := hOp.length_eq
          rw [List.length_map, List.length_map, List.length_range] at this
          exact this
        have ndn := D.nd
        have hrw := D.rows
        subst hrw
        obtain ⟨c8, oc8, hok, hoc, N7, nd7⟩ : ∃ (c8 : Addr) (oc8 : Obj), (∀ a ∈ M, PRow (X0.setC c8 oc8) a.p a.ph a.l) ∧ (0 < O.length → OcOk (X0.setC c8 oc8)) ∧ News h₀ L h11 ((c3, o3) :: (c8, oc8) :: (eR X0 u1 0 .none ++ (qR X0 ys qn k u4' ++ ((975, tb) :: (M.flatMap Pr.l ++ (A6 X0 lv v2 np ng oa ot ++ Z0)))))) ∧ (((c3, o3) :: (c8, oc8) :: (eR X0 u1 0 .none ++ (qR X0 ys qn k u4' ++ ((975, tb) :: (M.flatMap Pr.l ++ (A6 X0 lv v2 np ng oa ot ++ Z0)))))).map (·.1)).Nodup := by
          rcases D.tab with ⟨hn0, _, rfl⟩ | ⟨_, rfl, vs, qt, ho1, ho2⟩
          · refine ⟨Dt, Dto, fun a ha => ?_, fun h => by omega, news_rows N6 ?_, nd_le ndn fun _ => ?_⟩
            · have := List.length_pos_of_mem ha
              rw [D.len] at this
              omega
            · simp only [TT, A6, List.cons_append, List.nil_append]
              walk_at "sub8"
            · simp only [TT, A6, List.map_append, List.map_cons, List.map_nil, List.cons_append, List.nil_append, cnt_app, cnt_cons, cnt_nil, Nat.zero_add]
              omega
          · refine ⟨c', oc, fun a ha => (D.ok a ha).1, fun _ => ⟨vs, qt, ho1, ho2⟩, news_rows N6 ?_, nd_le ndn fun _ => ?_⟩
            · simp only [TT, A6, List.cons_append, List.nil_append]
              walk_at "sub8"
            · simp only [TT, A6, List.map_append, List.map_cons, List.map_nil, List.cons_append, List.nil_append, cnt_app, cnt_cons, cnt_nil, Nat.zero_add]
              omega
        clear N6
        generalize hW6 : ((c8, oc8) :: (eR X0 u1 0 .none ++ (qR X0 ys qn k u4' ++ ((975, tb) :: (M.flatMap Pr.l ++ (A6 X0 lv v2 np ng oa ot ++ Z0)))))) = W6 at N7 nd7
        have oc3 : ∀ p ∈ W6, p.1 ≠ c3 := fun p hp e => by
          rw [List.map_cons, List.nodup_cons] at nd7
          exact nd7.1 (List.mem_map.mpr ⟨p, hp, e⟩)
        k_steps
        unfold Hold
        rename_i puA h12 lb1 geA h13 lb2 duA h14 odA lb3 lod hsd fsd hid fid Dt2 h15 lb4 h16 h17 h18 h19 o3' F8 N8 d3'
        have nd8 := List.nodup_cons.mpr ⟨off_notin fun p hp => Nat.ne_of_lt (lb3 p hp), List.nodup_cons.mpr ⟨off_notin fun p hp => Nat.ne_of_lt (lb2 p hp), List.nodup_cons.mpr ⟨off_notin fun p hp => Nat.ne_of_lt (lb1 p hp), nd7⟩⟩⟩
        subst hW6
        have mv8 : (fun y => if y = Str.ofString "gets" then some (Value.ref geA) else if y = Str.ofString "puts" then some (Value.ref puA) else m6 y) (Str.ofString "level") = some (.int lv lt) := (hm6 (Str.ofString "level") (by decide)).trans mv3
        obtain ⟨nw8, J8, hs8⟩ := made_LJ (prog := prog) (mm := fun y => if y = Str.ofString "gets" then some (Value.ref geA) else if y = Str.ofString "puts" then some (Value.ref puA) else m6 y) (pu := puA) (ge := geA) (du := duA) (c3 := c3) (c8 := c8) (o3 := o3') (od := odA) (oa := oa) (ot := ot) (oc8 := oc8) (Z0 := Z0) (kP := 0) (kG := 0) (np := np) (ng := ng) (v2 := v2) D hok (nd_le nd8 fun _ => by (simp only [A6, List.map_append, List.map_cons, List.map_nil, List.cons_append, List.nil_append, cnt_app, cnt_cons, cnt_nil, Nat.zero_add]; omega)) hia hit hid mv8 h0 h1
        have hs9 : ∀ p ∈ (puA, lsT [] 0) :: (geA, lsT [] 0) :: (duA, odA) :: (c3, o3') :: (c8, oc8) :: (eR X0 u1 0 .none ++ (qR X0 ys qn k u4' ++ ((975, tb) :: (M.flatMap Pr.l ++ (A6 X0 lv v2 np ng oa ot ++ Z0))))), p ∈ (duA, odA) :: (geA, lsT [] 0) :: (puA, lsT [] 0) :: (c3, o3') :: (c8, oc8) :: (eR X0 u1 0 .none ++ (qR X0 ys qn k u4' ++ ((975, tb) :: (M.flatMap Pr.l ++ (A6 X0 lv v2 np ng oa ot ++ Z0))))) := by
          refine an_cons (.tail _ (.tail _ (.head _))) (an_cons (.tail _ (.head _)) (an_cons (.head _) fun _ h => .tail _ (.tail _ (.tail _ h))))
        refine' main_st (n := n) (o2 := o2') (c2 := c2) (Z0 := (975, tb) :: Z0) (on := on) (ord := ord) (O := O) (T := R.reverse) B F8 XB TB C hdp hun ?a9 ?b9 ?p9 ?q9 ?c9 ?d9 ?e9 ?f9 (news_rows N8 ?g9) J8 ?h9 ?i9 ?j9 ?k9 d2' d3' lot lod PS H hoc ?l9 CM hE ?ret9
        case p9 => rfl
        case q9 => rfl
        case a9 => exact (hm6 (Str.ofString "order") (by decide)).trans mo3
        case b9 => exact (hm6 (Str.ofString "ones") (by decide)).trans mn3
        case c9 => exact (hm6 (Str.ofString "env") (by decide)).trans me3
        case d9 => exact (hm6 (Str.ofString "tank") (by decide)).trans mt3
        case e9 => exact (hm6 (Str.ofString "told") (by decide)).trans rfl
        case f9 => exact (hm6 (Str.ofString "room") (by decide)).trans mr3
        case g9 =>
          refine fun z hz => ?_
          have h9 := hs8 z hz
          revert z
          exact fun z _ h9 => .tail _ (hs9 z h9)
        case h9 => exact .tail _ (.tail _ (.head _))
        case i9 => exact .tail _ (.tail _ (.tail _ (.head _)))
        case j9 => exact fun o ho => .tail _ (.tail _ (.tail _ (.tail _ (List.mem_append_left _ (hTr o ho)))))
        case k9 => exact .tail _ (.head _)
        case l9 => omega
        case ret9 =>
          intro m9 nw9 h20 tk20 J9 F9 N9
          obtain ⟨g, M', LL, Qp, Qg, os, orow, kA, kT, P1, G1, kP, kG, kD, od, Z1, lt9, R9, rfl, _, _, dd, D9, _, hz, _, hk5, _, _⟩ := J9
          rw [wR_app] at N9
          have hin9 : ∀ z ∈ (975, tb) :: Z0, z ∈ wR (X0.setC c8 oc8) g (Qp.map Wt.x) (Qg.map Wt.x) (M'.flatMap Pr.l ++ orow) ++ TZ puA geA duA c3 o3' P1 kP G1 kG od Z1 := fun z h => List.mem_append_right _ (.tail _ (.tail _ (.tail _ (.tail _ (hz z h)))))
          k_steps
          unfold Hold
          refine' ret_st (X := X0.setC c8 oc8) (c2 := c2) (c3 := c3) (o2 := o2') (o3 := o3') (od := od) B F9 XB TB C hdp hun ?m1 ?m2 R9 D9 PS dd N9 (fun z hz => List.mem_append_left _ hz) (hin9 _ (.tail _ (.head _))) d2' (List.mem_append_right _ (.tail _ (.tail _ (.tail _ (.head _))))) d3' (List.mem_append_right _ (.tail _ (.tail _ (.head _)))) loa lod ?ret8
          case m1 => exact (hk5 _ (by decide) (by decide) (by decide) (by decide) (by decide)).trans ((hm6 (Str.ofString "tank") (by decide)).trans mt3)
          case m2 => exact (hk5 _ (by decide) (by decide) (by decide) (by decide) (by decide)).trans ((hm6 (Str.ofString "room") (by decide)).trans mr3)
          case ret8 =>
            intro m' h' tk' F' N'
            obtain ⟨ps, htb⟩ : ∃ ps, tb = tabObj ps := by
              rcases D.tab with ⟨_, e, _⟩ | ⟨e, _⟩
              · exact ⟨_, e⟩
              · exact ⟨_, e⟩
            exact ret m' ps _ h' tk' F' (news_rows N' (an_cons (htb ▸ hin9 _ (.head _)) fun _ h => h)))) only [↓Mine.go_eq]
end
end

section
-- part L17
open PySem PySem.W PyProof.Rows PySem.Spec in
theorem turn_L17 {p : Program} {w : World} {A : Around} {en : Env} {Q : Flow → Shared → Prop} {E : Value → Shared → Prop} {s : Shared} (h : Q .next s) : wpAny (model p w) A (execs [] en) Q E s := by
  w_top off
  walk1
  exact h
open PySem PySem.W PyProof.Rows PySem.Calls PyProof.V PySem.Spec

local macro_rules | `(tactic| walk_at "execs cons") => `(tactic| (k_here; (with_reducible show wpAny _ _ (execs (Stmt.Assign _ (Expr.ListComp _ _ _ _) _ :: _) _) _ _ _); refine hold_of ?_))
theorem many_ex (q M : Nat) (h : q ≤ M) : ∃ N : Nat, (if ((q : Nat) : Int).fdiv 2 < 7 then ((q : Nat) : Int).fdiv 2 else 7) = (N : Int) ∧ N ≤ 7 ∧ 2 * N ≤ M := by
  have e : ((q : Nat) : Int).fdiv 2 = ((q / 2 : Nat) : Int) := by
    rw [Int.fdiv_eq_ediv_of_nonneg _ (by decide)]
    rfl
  rw [e]
  by_cases hq : q / 2 < 7
  · exact ⟨q / 2, by rw [if_pos (by omega)], by omega, by omega⟩
  · exact ⟨7, by rw [if_neg (by omega)]; rfl, by omega, by omega⟩
section
variable {prog : Program} {w : World}
theorem law_pre {p : Program} {loose : List Str} {mean : ExcName → Option Value} {mg mb : Str → Option Value} {dp un : Nat} {gd : Option (List Code)} {a : Addr} {ccd : Value} {A₀ : Around} {base h₀ : Heap} {L sc c1 c2 c3 : Addr} {m : Str → Option Value} {s : Shared} {Q : Flow → Shared → Prop} {E : Value → Shared → Prop} {o1 o2 o3 : Obj} {vs : List Value} {ns : List Int} (G : PgOk prog)
    (B : Below A₀ base [] h₀) (F : Fr h₀ L s.heap (fun z => if z = Str.ofString "script" then some (.ref sc) else m z)) (XB : (Mine.kk.heap_1 w.params).In base) (TB : Top p loose mean mg mb base) (C : CodeHd base 979 975) (hdp : dp + 300 < recursionLimit) (hun : un + 2000 < cLine)
    (nd : [c3, c2, c1, 975].Nodup) (N : News h₀ L s.heap [(c3, o3), (c2, o2), (c1, o1), (975, tabObj #[])]) (h1 : o1.data = .cell none) (h2 : o2.data = .cell none) (h3 : o3.data = .cell none) (hl : h₀.IsList sc vs.toArray) (hi : IntsAre vs ns) (hln : ns.length ≤ 63)
    (hE : PassesOwn (model prog w) (lawA w.params dp un gd c1 c2 c3 L a ccd) (lawE w.params c1 c2 c3 L a ccd) E)
    (ret : ∀ (m' : Str → Option Value) (ps : Array Value) (nw : List (Addr × Obj)) (h' : Heap) (tk' : Nat), Fr h₀ L h' m' → News h₀ L h' ((975, tabObj ps) :: nw) → Q (.ret (.bool true)) { s with heap := h', toks := tk' }) :
    wpAny (model prog w) (lawA w.params dp un gd c1 c2 c3 L a ccd) (execs (lawB w.params) (lawE w.params c1 c2 c3 L a ccd)) Q E s := by
  refine Mine.go_of ?_
  simp (disch := k_dflt (
  have X := XB.keeps B.stays
  have T := TB.keeps B.stays
  have hk := lawS_kind w.params
  have nd0 := nd
  walk_at "nd"
  k_steps
  unfold Hold
  rename News _ _ _ _ => N9
  rename Fr _ _ _ _ => F9
  rename IntsAre _ (_ ++ _) => inn
  replace N9 := news_rows N9 (sub_keep (sub_drop (sub_drop (sub_keep (sub_keep (sub_keep (sub_keep (fun _ h => h))))))))
  refine' env_c ?nd1 ?B1 ?F1 ?X1 ?T1 ?C1 ?hk1 ?dp1 ?un1 N9 ?ret1
  case nd1 =>
    simp only [List.map_cons, List.map_nil]
    first | (walk_at "newnd") | fail
  case B1 => k_asm
  case F1 => k_asm
  case X1 => k_asm
  case T1 => k_asm
  case C1 => k_asm
  case hk1 => exact lawS_kind _
  case dp1 => ktr_room
  case un1 => ktr_units
  rintro v9 rows9 h9 tk9 ⟨e, ed, q, c, cd, t1, t2, t3, t4, u1, u4, u5, n, rfl, rfl, ndr⟩ F8 N8
  clear N9 F9
  k_steps
  unfold Hold
  rename News _ _ _ _ => N9
  rename Fr _ _ _ _ => F9
  refine' tank_c G ?hr ?h0 ?h1 ndr ?B2 ?F2 ?X2 ?T2 ?C2 ?hk2 ?dp2 ?un2 N9 ?ret2
  case hr => exact room_pos
  case h0 => exact level_nonneg
  case h1 => exact level_le
  case B2 => k_asm
  case F2 => k_asm
  case X2 => k_asm
  case T2 => k_asm
  case C2 => k_asm
  case hk2 => exact lawS_kind _
  case dp2 => ktr_room
  case un2 => ktr_units
  rintro v7 rows7 h7 tk7 ⟨tn, td, pq, gq, r1, r2, r3, r4, r5, v1, v2, np, ng, rfl, rfl, ndt⟩ F7 N7
  clear N9 F9
  k_steps
  unfold Hold
  rename Fr _ _ _ _ => F5
  rename News _ _ _ _ => N5
  have hq : (List.take (min 16 ns.length - 2) (List.drop 2 ns)).length ≤ (List.take 16 ns).length := by
    rw [List.length_take, List.length_take, List.length_drop]
    omega
  obtain ⟨N, hN, hN7, hN2⟩ := many_ex _ _ hq
  rw [hN] at F5
  refine' law_rest (n := N) G B F5 XB TB C hdp hun rfl rfl rfl rfl level_nonneg level_le (news_rows N5 ?subR) ?ndR ?dR h2 h3 inn hN7 ?lnR ?l2R hE ret
  case subR => exact fun p hp => .tail _ hp
  case ndR => exact ndt
  case dR => assumption
  case lnR =>
    rw [List.length_append]
    show 2 * N + 2 ≤ _ + 2
    omega
  case l2R =>
    rw [List.length_append, List.length_take]
    show _ + 2 ≤ _
    omega)) only [↓Mine.go_eq]
end
end
end Mine
end
namespace Mine
def fin0.tw7782853791240081864 : Nat := 0
def fin0.tw14367297078882376155 : Nat := 0
def fin0.tw9968497836402686414 : Nat := 0
def fin0.tw14769769046503716402 : Nat := 0
def fin0.tw263289933627990560 : Nat := 0
def fin0.tw6047867619855469864 : Nat := 0
def fin0.tw8267929030739566604 : Nat := 0
def fin0.tw989128202645797715 : Nat := 0
def fin0.tw8164474828938663435 : Nat := 0
def fin0.tw16004082759375429973 : Nat := 0
def fin0.tw12201108631332486134 : Nat := 0
def fin0.tw14972780607082479777 : Nat := 0
def fin0.tw11459269200015573045 : Nat := 0
def fin0.tw16636272662850014736 : Nat := 0
def fin0.tw4751548433848981488 : Nat := 0
def fin0.tw5621535033825727539 : Nat := 0
def fin0.tw13962553571890989229 : Nat := 0
def fin0.tw11425412580027084406 : Nat := 0
def fin0.tw9114757694039031352 : Nat := 0
def fin0.tw12431607209764973518 : Nat := 0
def fin0.tw13534180653437210874 : Nat := 0
def fin0.tw12776699412015458305 : Nat := 0
def fin0.tw932804676879982229 : Nat := 0
def fin0.tw7918172374132260902 : Nat := 0
def fin0.tw3542603863930852872 : Nat := 0
def fin0.tw1234479918319161278 : Nat := 0
def fin0.tw59171386079304914 : Nat := 0
def fin0.tw9085447122644230666 : Nat := 0
def fin0.tw13949819113459485389 : Nat := 0
def fin0.tw9201680285581908041 : Nat := 0
def fin0.tw2563603164527405758 : Nat := 0
def fin0.tw17797533853377272317 : Nat := 0
def fin0.tw12627166836653308064 : Nat := 0
def fin0.tw14403583953127318773 : Nat := 0
def fin0.tw741018595531346301 : Nat := 0
def fin0.tw14222216052581280917 : Nat := 0
def fin0.tw515396578809297771 : Nat := 0
def fin0.tw4565796466645790769 : Nat := 0
def fin0.tw1799537978060436595 : Nat := 0
def fin0.tw10402552520727947260 : Nat := 0
def fin0.tw3332800004270862496 : Nat := 0
def fin0.tw2948931562806393680 : Nat := 0
def fin0.tw13210435630930220363 : Nat := 0
def fin0.tw17797734956498683083 : Nat := 0
def fin0.tw6917296184213426147 : Nat := 0
def fin0.tw6800078069457813031 : Nat := 0
def fin0.tw4043363123416826595 : Nat := 0
def fin0.tw18069879966610266432 : Nat := 0
def fin0.tw716276935195206870 : Nat := 0
def fin0.tw10473523378019009716 : Nat := 0
def fin0.tw5917171762237673694 : Nat := 0
def fin0.tw9995487328026292587 : Nat := 0
def fin0.tw11820961515994343274 : Nat := 0
def fin0.tw14243255715130299377 : Nat := 0
def fin0.tw8346002944660349325 : Nat := 0
def fin0.tw1761997849320519310 : Nat := 0
def fin0.tw5973506188755380438 : Nat := 0
def fin0.tw246669227879254861 : Nat := 0
def fin0.tw9259398569462248097 : Nat := 0
def fin0.tw15852572612871194974 : Nat := 0
def fin0.tw632840965300150218 : Nat := 0
def fin0.tw2000158778973203135 : Nat := 0
def fin0.tw11825998830161975278 : Nat := 0
def fin0.tw12591687053588437480 : Nat := 0
def fin0.tw4642218802304420127 : Nat := 0
def fin0.tw15463922907353898208 : Nat := 0
def fin0.tw2565928581956317006 : Nat := 0
def fin0.tw11357794891107554312 : Nat := 0
def fin0.tw508854615087684692 : Nat := 0
def fin0.tw1459401334077988374 : Nat := 0
def fin0.tw13574271583182128247 : Nat := 0
def fin0.tw10923419845327897697 : Nat := 0
def fin0.tw18137802479516644663 : Nat := 0
def fin0.tw9939700861336273668 : Nat := 0
def fin0.tw5671014723820538354 : Nat := 0
def fin0.tw18035715782664718850 : Nat := 0
def fin0.tw10108721565744142932 : Nat := 0
def fin0.tw6623072694857270744 : Nat := 0
def fin0.tw15123265267558068268 : Nat := 0
def fin0.tw1008858453559310000 : Nat := 0
def fin0.tw3643906265717732846 : Nat := 0
def fin0.tw12169550898948678695 : Nat := 0
def fin0.tw15359264131003302167 : Nat := 0
def fin0.tw13007870163269383555 : Nat := 0
def fin0.tw9379071728076165342 : Nat := 0
def fin0.tw1546368207622542692 : Nat := 0
def fin0.tw18097506801373179834 : Nat := 0
def fin0.tw15154199139897544468 : Nat := 0
def fin0.tw17415025744217963486 : Nat := 0
def fin0.tw12125705001132350875 : Nat := 0
def fin0.tw7324393567288127808 : Nat := 0
def fin0.tw10988740178076737805 : Nat := 0
def fin0.tw15204031373544142535 : Nat := 0
def fin0.tw5551364472244222447 : Nat := 0
def fin0.tw11966056197802515975 : Nat := 0
def fin0.tw16795356649952180557 : Nat := 0
def fin0.tw9932279448975231271 : Nat := 0
def fin0.tw4182766296299699302 : Nat := 0
def fin0.tw14490582843361205398 : Nat := 0
def fin0.tw15778450036464243684 : Nat := 0
def fin0.tw8810004781844778274 : Nat := 0
def fin0.tw3493840626956909322 : Nat := 0
def fin0.tw4401382075244213475 : Nat := 0
def fin0.tw11257281367019675906 : Nat := 0
def fin0.tw6715810844216592566 : Nat := 0
def fin0.tw8864934766371061291 : Nat := 0
def fin0.tw2760270585875732286 : Nat := 0
def fin0.tw8576299588966692737 : Nat := 0
def fin0.tw17464451979764918471 : Nat := 0
def fin0.tw11634324245035546371 : Nat := 0
def fin0.tw13289403920043461042 : Nat := 0
def fin0.tw14454131275661885292 : Nat := 0
def fin0.tw13250091654368158078 : Nat := 0
def fin0.tw10150098234381676222 : Nat := 0
def fin0.tw3830740655914315540 : Nat := 0
def fin0.tw11058368598961702330 : Nat := 0
def fin0.tw7722002683840462920 : Nat := 0
def fin0.tw14275323674941217306 : Nat := 0
def fin0.tw17352097010808486237 : Nat := 0
def fin0.tw4848165132937028131 : Nat := 0
def fin0.tw7437857026590510793 : Nat := 0
def fin0.tw16406571703364476665 : Nat := 0
def fin0.tw17526602818035817414 : Nat := 0
def fin0.tw11525066517337310211 : Nat := 0
def fin0.tw11028877210541545099 : Nat := 0
def fin0.tw6209780465749664391 : Nat := 0
def fin0.tw4439487602634182048 : Nat := 0
def fin0.tw16086804099224281573 : Nat := 0
def fin0.tw705129103695456034 : Nat := 0
def fin0.tw17479949903683916916 : Nat := 0
def fin0.tw7383602847865115333 : Nat := 0
def fin0.tw8567668598671978758 : Nat := 0
def fin0.tw15538806052227479855 : Nat := 0
def fin0.tw10029866041065695129 : Nat := 0
def fin0.tw1562272384260900500 : Nat := 0
def fin0.tw14390854267314188043 : Nat := 0
def fin0.tw17937652809547283776 : Nat := 0
def fin0.tw1389089517590910630 : Nat := 0
def fin0.tw5022432174448010294 : Nat := 0
def fin0.tw16801155135858504197 : Nat := 0
def fin0.tw13208262655667984747 : Nat := 0
def fin0.tw5246249636053363403 : Nat := 0
def fin0.tw15224454306719515856 : Nat := 0
def fin0.tw16416377659576949853 : Nat := 0
def fin0.tw5137470536342946884 : Nat := 0
def fin0.tw677569493880038947 : Nat := 0
def fin0.tw17304550282643388867 : Nat := 0
def fin0.tw1347326589851242705 : Nat := 0
def fin0.tw9807567811559778129 : Nat := 0
def fin0.tw14755693542676363434 : Nat := 0
def fin0.tw17351936481387456167 : Nat := 0
def fin0.tw13143582917812892976 : Nat := 0
def fin0.tw1337954761593888927 : Nat := 0
def fin0.tw6392584934504762549 : Nat := 0
def fin0.tw6207975392846655443 : Nat := 0
def fin0.tw6567842213537306789 : Nat := 0
def fin0.tw11278268682389857757 : Nat := 0
def fin0.tw5688708532439489534 : Nat := 0
def fin0.tw14569050519352944580 : Nat := 0
def fin0.tw1894508907797770712 : Nat := 0
def fin0.tw12563139521731607711 : Nat := 0
def fin0.tw8098132555871679137 : Nat := 0
def fin0.tw12854747068675975187 : Nat := 0
def fin0.tw17553097016330729187 : Nat := 0
def fin0.tw5637308404516826938 : Nat := 0
def fin0.tw6686295007319921038 : Nat := 0
def fin0.tw15387727752500984017 : Nat := 0
def fin0.tw1668409222754521131 : Nat := 0
def fin0.tw11236354238657906297 : Nat := 0
def fin0.tw14822518125546716852 : Nat := 0
def fin0.tw10353737523792443010 : Nat := 0
def fin0.tw10866921141596601071 : Nat := 0
def fin0.tw6035988197027828148 : Nat := 0
def fin0.tw4882857794463955788 : Nat := 0
def fin0.tw14266805696991789698 : Nat := 0
def fin0.tw4232494237307644559 : Nat := 0
def fin0.tw5047472136461258433 : Nat := 0
def fin0.tw12353968352741966423 : Nat := 0
def fin0.tw11160147217454166506 : Nat := 0
def fin0.tw5893885813857237581 : Nat := 0
def fin0.tw17438626136035388570 : Nat := 0
def fin0.tw2469146811132998231 : Nat := 0
def fin0.tw17502967311679996245 : Nat := 0
def fin0.tw8383097696742423322 : Nat := 0
def fin0.tw7580765827844001027 : Nat := 0
def fin0.tw6344671381643749898 : Nat := 0
def fin0.tw3696642880638685009 : Nat := 0
def fin0.tw18308831281445402680 : Nat := 0
def fin0.tw13537406638545531084 : Nat := 0
def fin0.tw11239647463960977750 : Nat := 0
def fin0.tw3110011679237953330 : Nat := 0
def fin0.tw3675224044274692375 : Nat := 0
def fin0.tw14165443062269714869 : Nat := 0
def fin0.tw15083636234698712475 : Nat := 0
def fin0.tw4851653365236522269 : Nat := 0
def fin0.tw503239837300738081 : Nat := 0
def fin0.tw8983312510763072899 : Nat := 0
def fin0.tw6481790235674527604 : Nat := 0
def fin0.tw12712187948942435036 : Nat := 0
def fin0.tw16018013236716479119 : Nat := 0
def fin0.tw1801886630081513972 : Nat := 0
def fin0.tw15853642854092415729 : Nat := 0
def fin0.tw5861707789202112720 : Nat := 0
def fin0.tw8477909733614390902 : Nat := 0
def fin0.tw14867331694995074051 : Nat := 0
def fin0.tw3660165542187197818 : Nat := 0
def fin0.tw1693247782641767301 : Nat := 0
def fin0.tw15546502199583259009 : Nat := 0
def fin0.tw15198278916536363262 : Nat := 0
def fin0.tw10992372892356310820 : Nat := 0
def fin0.tw1112214776416578976 : Nat := 0
def fin0.tw385701482266125727 : Nat := 0
def fin0.tw6685538967226514595 : Nat := 0
def fin0.tw11297519872858683957 : Nat := 0
def fin0.tw3957663069937170882 : Nat := 0
def fin0.tw18344364695410111847 : Nat := 0
def fin0.tw17774756052520892202 : Nat := 0
def fin0.tw72903120192469909 : Nat := 0
def fin0.tw4685602416761587125 : Nat := 0
def fin0.tw17587938713417170944 : Nat := 0
def fin0.tw13087267448374329969 : Nat := 0
def fin0.tw687915213326201295 : Nat := 0
def fin0.tw14381584720669934837 : Nat := 0
def fin0.tw15299794514589427266 : Nat := 0
def fin0.tw12747147642754531006 : Nat := 0
def fin0.tw8505567846491670606 : Nat := 0
def fin0.tw15188626151434885014 : Nat := 0
def fin0.tw2404526272031379253 : Nat := 0
def fin0.tw7009019899430410840 : Nat := 0
def fin0.tw18357940281160236047 : Nat := 0
def fin0.tw9092874367986834957 : Nat := 0
def fin0.tw13613080500551818660 : Nat := 0
def fin0.tw10296129884127759834 : Nat := 0
def fin0.tw9540835384866577338 : Nat := 0
def fin0.tw9070725877268129172 : Nat := 0
def fin0.tw16099663876387974244 : Nat := 0
def fin0.tw12612403148834436274 : Nat := 0
def fin0.tw13414228956381708949 : Nat := 0
def fin0.tw12948239275101552946 : Nat := 0
def fin0.tw14565169963588891197 : Nat := 0
def fin0.tw1328183496093998406 : Nat := 0
def fin0.tw10834790049744936989 : Nat := 0
def fin0.tw9065642227992969764 : Nat := 0
def fin0.tw2009431933979846823 : Nat := 0
def fin0.tw13483282091311548849 : Nat := 0
def fin0.tw2131944567197467144 : Nat := 0
def fin0.tw14518615081022546374 : Nat := 0
def fin0.tw9376883001178240038 : Nat := 0
def fin0.tw10492908836049302667 : Nat := 0
def fin0.tw4882481210648290732 : Nat := 0
def fin0.tw1902833096911357143 : Nat := 0
def fin0.tw13852841675493962219 : Nat := 0
def fin0.tw14965049903727978642 : Nat := 0
def fin0.tw1005082421353206009 : Nat := 0
def fin0.tw15643617000092566005 : Nat := 0
def fin0.tw3799454079219255588 : Nat := 0
def fin0.tw16767813283957777924 : Nat := 0
def fin0.tw3332825144975661504 : Nat := 0
def fin0.tw17237426671672682539 : Nat := 0
def fin0.tw15576057285648567517 : Nat := 0
def fin0.tw10497800199801459234 : Nat := 0
def fin0.tw12938370367016715603 : Nat := 0
def fin0.tw13044228307531571873 : Nat := 0
def fin0.tw9990832954614112610 : Nat := 0
def fin0.tw6998661033361144538 : Nat := 0
def fin0.tw9875955458648747795 : Nat := 0
def fin0.tw9463579566304702037 : Nat := 0
def fin0.tw4892146580662186228 : Nat := 0
def fin0.tw8328236128321734721 : Nat := 0
def fin0.tw3113581624879830852 : Nat := 0
def fin0.tw11577479334058310310 : Nat := 0
def fin0.tw17888973764469219372 : Nat := 0
def fin0.tw7037703228663473730 : Nat := 0
def fin0.tw17678664019957519402 : Nat := 0
def fin0.tw6897375502493020006 : Nat := 0
def fin0.tw8857285846245081704 : Nat := 0
def fin0.tw14915272614687419195 : Nat := 0
def fin0.tw17274351927696347451 : Nat := 0
def fin0.tw16031674796041790241 : Nat := 0
def fin0.tw1393365856659241187 : Nat := 0
def fin0.tw17124958999345926876 : Nat := 0
def fin0.tw17427683942966286368 : Nat := 0
def fin0.tw7733871784820766818 : Nat := 0
def fin0.tw16784715474790155153 : Nat := 0
def fin0.tw16957831379272057759 : Nat := 0
def fin0.tw3480563057968573728 : Nat := 0
def fin0.tw16083923844800506118 : Nat := 0
def fin0.tw3737006768337655560 : Nat := 0
def fin0.tw3337194940342869746 : Nat := 0
def fin0.tw4911050178337084377 : Nat := 0
def fin0.tw5829446513644317604 : Nat := 0
def fin0.tw1557225175530950662 : Nat := 0
def fin0.tw17838728977429449842 : Nat := 0
def fin0.tw9672018351411874862 : Nat := 0
def fin0.tw15130228645527204160 : Nat := 0
def fin0.tw5753889221546082421 : Nat := 0
def fin0.tw12827132574854137373 : Nat := 0
def fin0.tw12339949732086949087 : Nat := 0
def fin0.tw12082622537723847418 : Nat := 0
def fin0.tw6248261262127202996 : Nat := 0
def fin0.tw4609853228674274453 : Nat := 0
def fin0.tw10995696326673929583 : Nat := 0
def fin0.tw5980160255835549833 : Nat := 0
def fin0.tw6699635497545604488 : Nat := 0
def fin0.tw3416286579343265572 : Nat := 0
def fin0.tw2007601310350182329 : Nat := 0
def fin0.tw11754878736207559470 : Nat := 0
def fin0.tw12332353558958012426 : Nat := 0
def fin0.tw15755304468885689785 : Nat := 0
def fin0.tw11367887245347915067 : Nat := 0
def fin0.tw7643011404668783258 : Nat := 0
def fin0.tw17593577918903929516 : Nat := 0
def fin0.tw16550220922564800246 : Nat := 0
def fin0.tw17396222917483024916 : Nat := 0
def fin0.tw11527567801120364827 : Nat := 0
def fin0.tw5415424464527726503 : Nat := 0
def fin0.tw10921687933035056399 : Nat := 0
def fin0.tw9029038395302037512 : Nat := 0
def fin0.tw2447347730385274950 : Nat := 0
def fin0.tw9196881370126702941 : Nat := 0
def fin0.tw1991405316924339622 : Nat := 0
def fin0.tw2953737890444914230 : Nat := 0
def fin0.tw9814857607327389785 : Nat := 0
def fin0.tw2009308122516705565 : Nat := 0
def fin0.tw6056356383825783639 : Nat := 0
def fin0.tw5900588868349826228 : Nat := 0
def fin0.tw802314276234591505 : Nat := 0
def fin0.tw14685147796434777514 : Nat := 0
def fin0.tw18058984878579275305 : Nat := 0
def fin0.tw6291926092492609782 : Nat := 0
def fin0.tw206856857061782957 : Nat := 0
def fin0.tw3270605929381362473 : Nat := 0
def fin0.tw6350459708825596694 : Nat := 0
def fin0.tw11248682325161984879 : Nat := 0
def fin0.tw2062296903708235322 : Nat := 0
def fin0.tw17862553425930735364 : Nat := 0
def fin0.tw11705286923349335066 : Nat := 0
def fin0.tw1384133598925610871 : Nat := 0
def fin0.tw4864353077794518342 : Nat := 0
def fin0.tw14854039680347156105 : Nat := 0
def fin0.tw2131389165752969498 : Nat := 0
def fin0.tw15784259638395251714 : Nat := 0
def fin0.tw2845552932579851194 : Nat := 0
def fin0.tw14152155424588440500 : Nat := 0
def fin0.tw289395272308548129 : Nat := 0
def fin0.tw5060021302408453095 : Nat := 0
def fin0.tw16237085356019826050 : Nat := 0
def fin0.tw4535080714598357441 : Nat := 0
def fin0.tw16414545971645003240 : Nat := 0
def fin0.tw9511160075151198251 : Nat := 0
def fin0.tw13660278250953215619 : Nat := 0
def fin0.tw2003108837085733535 : Nat := 0
def fin0.tw15546850815448593211 : Nat := 0
def fin0.tw11239690016731670750 : Nat := 0
def fin0.tw8792721794827264090 : Nat := 0
def fin0.tw2172943307504205776 : Nat := 0
def fin0.tw12945545861302992219 : Nat := 0
def fin0.tw9949000278558248818 : Nat := 0
def fin0.tw931960336481888732 : Nat := 0
def fin0.tw15377989224762724923 : Nat := 0
def fin0.tw7210047458002389929 : Nat := 0
def fin0.tw7590589978815409245 : Nat := 0
def fin0.tw9019113204526108411 : Nat := 0
def fin0.tw12725020132444191569 : Nat := 0
def fin0.tw2964954651342357599 : Nat := 0
def fin0.tw3125212948906416436 : Nat := 0
def fin0.tw4715650896571045021 : Nat := 0
def fin0.tw11719551138511069332 : Nat := 0
def fin0.tw1378387391313307208 : Nat := 0
def fin0.tw11946330986920326324 : Nat := 0
def fin0.tw8012367514389925759 : Nat := 0
def fin0.tw16919919006228635672 : Nat := 0
def fin0.tw4782704509570766431 : Nat := 0
def fin0.tw11547258797548258702 : Nat := 0
def fin0.tw12982006428506528361 : Nat := 0
def fin0.tw7378355915951582428 : Nat := 0
def fin0.tw10120484295804611997 : Nat := 0
def fin0.tw4543575232158506449 : Nat := 0
def fin0.tw18364592505407640392 : Nat := 0
def fin0.tw18295850553217600099 : Nat := 0
def fin0.tw10384652704364201173 : Nat := 0
def fin0.tw13493084704451990766 : Nat := 0
def fin0.tw328463558170898585 : Nat := 0
def fin0.tw2646572096640333285 : Nat := 0
def fin0.tw11898814532513890141 : Nat := 0
def fin0.tw13153564577124311378 : Nat := 0
def fin0.tw7682328111710839240 : Nat := 0
def fin0.tw8157973370659875939 : Nat := 0
def fin0.tw7331794074407429752 : Nat := 0
def fin0.tw14679064899571508543 : Nat := 0
def fin0.tw7213065535402171237 : Nat := 0
def fin0.tw4411029084070213994 : Nat := 0
def fin0.tw6298309937588828341 : Nat := 0
def fin0.tw4355228732614598061 : Nat := 0
def fin0.tw5889143343056866785 : Nat := 0
def fin0.tw12057533687319266662 : Nat := 0
def fin0.tw4286442621627311918 : Nat := 0
def fin0.tw4304830570039300855 : Nat := 0
def fin0.tw17935843354099712335 : Nat := 0
def fin0.tw9835286215206399173 : Nat := 0
def fin0.tw5424716584389738438 : Nat := 0
def fin0.tw7478823074671153982 : Nat := 0
def fin0.tw12933698196228833140 : Nat := 0
def fin0.tw10785326166229827183 : Nat := 0
def fin0.tw15800656162505126291 : Nat := 0
def fin0.tw8628505338844405356 : Nat := 0
def fin0.tw13414751795899929189 : Nat := 0
def fin0.tw2004374041248573619 : Nat := 0
def fin0.tw3594929042148291422 : Nat := 0
def fin0.tw7405565339303202351 : Nat := 0
def fin0.tw4636463659687354702 : Nat := 0
def fin0.tw16587167681661159526 : Nat := 0
def fin0.tw1637764767407414686 : Nat := 0
def fin0.tw234934542770372357 : Nat := 0
def fin0.tw5272844801551085700 : Nat := 0
def fin0.tw10113906851385082860 : Nat := 0
def fin0.tw331311922094808091 : Nat := 0
def fin0.tw3518431907019063600 : Nat := 0
def fin0.tw3959919445101943714 : Nat := 0
def fin0.tw14170257536227423884 : Nat := 0
def fin0.tw14202265554041097899 : Nat := 0
def fin0.tw9755629109682730949 : Nat := 0
def fin0.tw7137168107860162502 : Nat := 0
def fin0.tw14201971537957444196 : Nat := 0
def fin0.tw3570888108083782331 : Nat := 0
def fin0.tw11896792864463615218 : Nat := 0
def fin0.tw4854387669269514018 : Nat := 0
def fin0.tw13202605353543473626 : Nat := 0
def fin0.tw12401901889526828698 : Nat := 0
def fin0.tw17243078456232349052 : Nat := 0
def fin0.tw831036070870038732 : Nat := 0
def fin0.tw15391726576037965362 : Nat := 0
def fin0.tw15828166143736409842 : Nat := 0
def fin0.tw5455818302501766845 : Nat := 0
def fin0.tw6602520117540055291 : Nat := 0
def fin0.tw10520916801959011538 : Nat := 0
def fin0.tw4730194261776057655 : Nat := 0
def fin0.tw8769110507250802940 : Nat := 0
def fin0.tw5095454012523351473 : Nat := 0
def fin0.tw8998227790256467552 : Nat := 0
def fin0.tw7882098996491051148 : Nat := 0
def fin0.tw4061584531191635232 : Nat := 0
def fin0.tw15666469224354128406 : Nat := 0
def fin0.tw3231685761163542568 : Nat := 0
def fin0.tw13751902988793725677 : Nat := 0
def fin0.tw3197136489456443177 : Nat := 0
def fin0.tw10114085513967639170 : Nat := 0
def fin0.tw371847259305037984 : Nat := 0
def fin0.tw10901296273458165086 : Nat := 0
def fin0.tw15248693866857963400 : Nat := 0
def fin0.tw18135796818122372168 : Nat := 0
def fin0.tw8513795274313898165 : Nat := 0
def fin0.tw11183747897279040995 : Nat := 0
def fin0.tw9580089327930753746 : Nat := 0
def fin0.tw17298095435021174134 : Nat := 0
def fin0.tw10863898235940450231 : Nat := 0
def fin0.tw18330405699718306765 : Nat := 0
def fin0.tw12417224451031024243 : Nat := 0
def fin0.tw11953092202240868554 : Nat := 0
def fin0.tw5161765176572703360 : Nat := 0
def fin0.tw11491710720249693779 : Nat := 0
def fin0.tw10321193625295884851 : Nat := 0
def fin0.tw480505782349317593 : Nat := 0
def fin0.tw8884590602440820071 : Nat := 0
def fin0.tw5904571450105543852 : Nat := 0
def fin0.tw18031422829136338337 : Nat := 0
def fin0.tw8800215485913348726 : Nat := 0
def fin0.tw8206696973917056101 : Nat := 0
def fin0.tw15912653482587445904 : Nat := 0
def fin0.tw1807467741514441049 : Nat := 0
def fin0.tw7033016915836853158 : Nat := 0
def fin0.tw13359367976852437665 : Nat := 0
def fin0.tw17241970706138946615 : Nat := 0
def fin0.tw1572907421310166393 : Nat := 0
def fin0.tw16790468585178701648 : Nat := 0
def fin0.tw13120728753102420678 : Nat := 0
def fin0.tw9057748545382676699 : Nat := 0
def fin0.tw10776082443308008088 : Nat := 0
def fin0.tw7748059513482224091 : Nat := 0
def fin0.tw3516508822617492201 : Nat := 0
def fin0.tw11861801270751624903 : Nat := 0
def fin0.tw4201701667189332137 : Nat := 0
def fin0.tw748842194522078326 : Nat := 0
def fin0.tw6470078606771314383 : Nat := 0
def fin0.tw10248500416744935665 : Nat := 0
def fin0.tw303673559558890476 : Nat := 0
def fin0.tw6214380474474902753 : Nat := 0
def fin0.tw17818387768043340142 : Nat := 0
def fin0.tw17947849409904723231 : Nat := 0
def fin0.tw4629215598541404829 : Nat := 0
def fin0.tw4068574049313156778 : Nat := 0
def fin0.tw1228579827060143638 : Nat := 0
def fin0.tw13108447403313680598 : Nat := 0
def fin0.tw4413353723100058684 : Nat := 0
def fin0.tw9829095348275079281 : Nat := 0
def fin0.tw2473472067350729773 : Nat := 0
def fin0.tw2365882591182811124 : Nat := 0
def fin0.tw5760309572425607237 : Nat := 0
def fin0.tw11050991297714141075 : Nat := 0
def fin0.tw13546361088021459067 : Nat := 0
def fin0.tw11678002472851275121 : Nat := 0
def fin0.tw15949629735686682237 : Nat := 0
def fin0.tw9391853156875453712 : Nat := 0
def fin0.tw15190797937224467050 : Nat := 0
def fin0.tw16782104310495602968 : Nat := 0
def fin0.tw8345275608337588832 : Nat := 0
def fin0.tw7338023798677133842 : Nat := 0
def fin0.tw10602324115004383975 : Nat := 0
def fin0.tw1020732844457939928 : Nat := 0
def fin0.tw4324305541831335197 : Nat := 0
def fin0.tw15387377741910834310 : Nat := 0
def fin0.tw10591819175960179971 : Nat := 0
def fin0.tw10721083565636592448 : Nat := 0
def fin0.tw11012133031883839125 : Nat := 0
def fin0.tw8111048892580906322 : Nat := 0
def fin0.tw4198523191181948767 : Nat := 0
def fin0.tw11011620631103511308 : Nat := 0
def fin0.tw10444688779113415825 : Nat := 0
def fin0.tw10618074914856527326 : Nat := 0
def fin0.tw12012885633558255775 : Nat := 0
def fin0.tw3083862269048201972 : Nat := 0
def fin0.tw7682140274039224878 : Nat := 0
def fin0.tw6337627093613825852 : Nat := 0
def fin0.tw11282430254471860436 : Nat := 0
def fin0.tw8530707865363128294 : Nat := 0
def fin0.tw15617241008474802324 : Nat := 0
def fin0.tw11569419401438659093 : Nat := 0
def fin0.tw4763269371269560071 : Nat := 0
def fin0.tw12634365440293791355 : Nat := 0
def fin0.tw8602063508695124744 : Nat := 0
def fin0.tw12525469203971313138 : Nat := 0
def fin0.tw9531205350313926271 : Nat := 0
def fin0.tw5728698702959214375 : Nat := 0
def fin0.tw8681563067724037125 : Nat := 0
def fin0.tw1170521588766115954 : Nat := 0
def fin0.tw1590952377619339422 : Nat := 0
def fin0.tw6845502063426881744 : Nat := 0
def fin0.tw2715743751889927323 : Nat := 0
def fin0.tw16812000890017170564 : Nat := 0
def fin0.tw9770264975573687469 : Nat := 0
def fin0.tw16276231889782169059 : Nat := 0
def fin0.tw8770295426257303531 : Nat := 0
def fin0.tw2615725848561824507 : Nat := 0
def fin0.tw17888233615626785633 : Nat := 0
def fin0.tw6802725466080223606 : Nat := 0
def fin0.tw18411230518011538447 : Nat := 0
def fin0.tw495128459081179679 : Nat := 0
def fin0.tw943716715956239945 : Nat := 0
def fin0.tw1919986840183063557 : Nat := 0
def fin0.tw16956924950141564874 : Nat := 0
def fin0.tw2306564796461117462 : Nat := 0
def fin0.tw734787958221842752 : Nat := 0
def fin0.tw10447494569711153728 : Nat := 0
def fin0.tw16115741205520468626 : Nat := 0
def fin0.tw6820780868853814717 : Nat := 0
def fin0.tw1372847466732030673 : Nat := 0
def fin0.tw4027804936395056901 : Nat := 0
def fin0.tw13558210098809578752 : Nat := 0
def fin0.tw1538669624781519542 : Nat := 0
def fin0.tw9042836830059360321 : Nat := 0
def fin0.tw17760993225400693553 : Nat := 0
def fin0.tw4374835585219773227 : Nat := 0
def fin0.tw14974097653545058736 : Nat := 0
def fin0.tw17707166920541356356 : Nat := 0
def fin0.tw17481346855598148655 : Nat := 0
def fin0.tw2363350376040455893 : Nat := 0
def fin0.tw5373541736121457976 : Nat := 0
def fin0.tw12629004911928795544 : Nat := 0
def fin0.tw14146290174317464261 : Nat := 0
def fin0.tw3553905303380326932 : Nat := 0
def fin0.tw9928178222119250237 : Nat := 0
def fin0.tw2114860189397586144 : Nat := 0
def fin0.tw6860876337154935427 : Nat := 0
def fin0.tw11108541144360216934 : Nat := 0
def fin0.tw7021149611694721980 : Nat := 0
def fin0.tw16272811664079887230 : Nat := 0
def fin0.tw4198117270206065324 : Nat := 0
def fin0.tw15276903018107045063 : Nat := 0
def fin0.tw11873130189460786071 : Nat := 0
def fin0.tw11384909844162345364 : Nat := 0
def fin0.tw4596927159669386851 : Nat := 0
def fin0.tw11230880312099246714 : Nat := 0
def fin0.tw13614904915722868902 : Nat := 0
def fin0.tw17638846812024763172 : Nat := 0
def fin0.tw16127006215790055373 : Nat := 0
def fin0.tw5501893628730166400 : Nat := 0
def fin0.tw5122570350836030927 : Nat := 0
def fin0.tw14843686090213428247 : Nat := 0
def fin0.tw16325402397645385523 : Nat := 0
def fin0.tw4774321125693810045 : Nat := 0
def fin0.tw9846539101521996562 : Nat := 0
def fin0.tw8993938493676964190 : Nat := 0
def fin0.tw5208676125602537475 : Nat := 0
def fin0.tw4040226327467277894 : Nat := 0
def fin0.tw14720526448378265263 : Nat := 0
def fin0.tw5131716896835623901 : Nat := 0
def fin0.tw18154138808348462138 : Nat := 0
def fin0.tw13851534153660637004 : Nat := 0
def fin0.tw12781313204199110460 : Nat := 0
def fin0.tw15919156159878964246 : Nat := 0
def fin0.tw7968551205423833495 : Nat := 0
def fin0.tw7278678826832017462 : Nat := 0
def fin0.tw9768398898781625660 : Nat := 0
def fin0.tw4204053952690414810 : Nat := 0
def fin0.tw13635373862063122277 : Nat := 0
def fin0.tw3741018558954807939 : Nat := 0
def fin0.tw15958450768906619938 : Nat := 0
def fin0.tw8265659427056675422 : Nat := 0
def fin0.tw10913040095050782711 : Nat := 0
def fin0.tw16605016588282615384 : Nat := 0
def fin0.tw28494487383914827 : Nat := 0
def fin0.tw2020058349328835956 : Nat := 0
def fin0.tw6436725055793283146 : Nat := 0
def fin0.tw13906209073027121720 : Nat := 0
def fin0.tw7280321164186503361 : Nat := 0
def fin0.tw1981142057609775664 : Nat := 0
def fin0.tw436239040924825418 : Nat := 0
def fin0.tw15666556980101696111 : Nat := 0
def fin0.tw16443033303295345867 : Nat := 0
def fin0.tw3922596929451439087 : Nat := 0
def fin0.tw5861803763078898607 : Nat := 0
def fin0.tw1607359778028912606 : Nat := 0
def fin0.tw6567351127287974844 : Nat := 0
def fin0.tw13278966966618579186 : Nat := 0
def fin0.tw671025725485971749 : Nat := 0
def fin0.tw16561387868684437042 : Nat := 0
def fin0.tw3619524929709101672 : Nat := 0
def fin0.tw18391155935228115036 : Nat := 0
def fin0.tw1793680489414716721 : Nat := 0
def fin0.tw3162988352852043876 : Nat := 0
def fin0.tw455226871261296585 : Nat := 0
def fin0.tw2514861476960466537 : Nat := 0
def fin0.tw8135999041878611129 : Nat := 0
def fin0.tw10037720933117378140 : Nat := 0
def fin0.tw9433945819292489016 : Nat := 0
def fin0.tw3516820218940937382 : Nat := 0
def fin0.tw11003437412577474218 : Nat := 0
def fin0.tw9869512896089096556 : Nat := 0
def fin0.tw14375858485480607666 : Nat := 0
def fin0.tw7915419460485410719 : Nat := 0
def fin0.tw17062484770954316263 : Nat := 0
def fin0.tw10644633653884718407 : Nat := 0
def fin0.tw14198448802132242373 : Nat := 0
def fin0.tw4963137050434358267 : Nat := 0
def fin0.tw1030427936638975415 : Nat := 0
def fin0.tw13737884489161096914 : Nat := 0
def fin0.tw8702433032709119884 : Nat := 0
def fin0.tw17073442414120915339 : Nat := 0
def fin0.tw17147100792893218133 : Nat := 0
def fin0.tw4600053049455845579 : Nat := 0
def fin0.tw4396311847973886750 : Nat := 0
def fin0.tw2094759583737248971 : Nat := 0
def fin0.tw8244936437637232530 : Nat := 0
def fin0.tw6912889734785712464 : Nat := 0
def fin0.tw15139305840266156368 : Nat := 0
def fin0.tw1824186868024154408 : Nat := 0
def fin0.tw2365598951017070614 : Nat := 0
def fin0.tw16331554596083815013 : Nat := 0
def fin0.tw3732167509210168092 : Nat := 0
def fin0.tw2754729405561717065 : Nat := 0
def fin0.tw14689962459322763143 : Nat := 0
def fin0.tw10721374075511243963 : Nat := 0
def fin0.tw4021866365300460119 : Nat := 0
def fin0.tw13133741867116811492 : Nat := 0
def fin0.tw6736718584261344691 : Nat := 0
def fin0.tw651070877937976690 : Nat := 0
def fin0.tw5284899049770301971 : Nat := 0
def fin0.tw5833776737349006830 : Nat := 0
def fin0.tw17480215690961820552 : Nat := 0
def fin0.tw3366945345360527483 : Nat := 0
def fin0.tw3820812874288717432 : Nat := 0
def fin0.tw5048856489562250464 : Nat := 0
def fin0.tw18373073792115843741 : Nat := 0
def fin0.tw11250206590638371777 : Nat := 0
def fin0.tw13414134228678803789 : Nat := 0
def fin0.tw13659317175855388907 : Nat := 0
def fin0.tw12234747510244227511 : Nat := 0
def fin0.tw16731645388422200541 : Nat := 0
def fin0.tw7155975145970720633 : Nat := 0
def fin0.tw14622455948156490178 : Nat := 0
def fin0.tw14694688367385368838 : Nat := 0
def fin0.tw17775791322684197796 : Nat := 0
def fin0.tw5806904728121802022 : Nat := 0
def fin0.tw3585818806002788521 : Nat := 0
def fin0.tw3060411220161446130 : Nat := 0
def fin0.tw4927592320038939186 : Nat := 0
def fin0.tw9639937323277152434 : Nat := 0
def fin0.tw15290473183258774105 : Nat := 0
def fin0.tw10767604201866457026 : Nat := 0
def fin0.tw7994797637083098196 : Nat := 0
def fin0.tw13927255344943891570 : Nat := 0
def fin0.tw5403631299640628831 : Nat := 0
def fin0.tw17802065838868030979 : Nat := 0
def fin0.tw2562923034203191718 : Nat := 0
def fin0.tw7766086017694776522 : Nat := 0
def fin0.tw14539770665415437779 : Nat := 0
def fin0.tw6776857373961461255 : Nat := 0
def fin0.tw26134320772795966 : Nat := 0
def fin0.tw11994575986484705769 : Nat := 0
def fin0.tw11133414224523935184 : Nat := 0
def fin0.tw9373156094520592099 : Nat := 0
def fin0.tw6873583933182992610 : Nat := 0
def fin0.tw6900102129268198347 : Nat := 0
def fin0.tw3944622132429513111 : Nat := 0
def fin0.tw1379647693624443064 : Nat := 0
def fin0.tw7068093067380802205 : Nat := 0
def fin0.tw2691447131764034568 : Nat := 0
def fin0.tw2477904596222973074 : Nat := 0
def fin0.tw18254182257101154620 : Nat := 0
def fin0.tw10066114333043385185 : Nat := 0
def fin0.tw12291003892322946698 : Nat := 0
def fin0.tw10731064137696000226 : Nat := 0
def fin0.tw6109892713157184234 : Nat := 0
def fin0.tw7846762230639242974 : Nat := 0
def fin0.tw15701797515824217674 : Nat := 0
def fin0.tw13212484864201001264 : Nat := 0
def fin0.tw3176823270566489979 : Nat := 0
def fin0.tw16431421315131912879 : Nat := 0
def fin0.tw6826750379519172251 : Nat := 0
def fin0.tw6600253871031309994 : Nat := 0
def fin0.tw15393229524598600557 : Nat := 0
def fin0.tw3908225870834379431 : Nat := 0
def fin0.tw2512374364683317655 : Nat := 0
def fin0.tw7799224022576691580 : Nat := 0
def fin0.tw16397600742980456287 : Nat := 0
def fin0.tw16370027607808035560 : Nat := 0
def fin0.tw9490730077522194144 : Nat := 0
def fin0.tw12906396195491452372 : Nat := 0
def fin0.tw1498904001340856895 : Nat := 0
def fin0.tw18066973335045326795 : Nat := 0
def fin0.tw2141585279389381560 : Nat := 0
def fin0.tw11701744394855879140 : Nat := 0
def fin0.tw17500454118634108535 : Nat := 0
def fin0.tw5184210010277179194 : Nat := 0
def fin0.tw5129542253466960231 : Nat := 0
def fin0.tw1606522781979214879 : Nat := 0
def fin0.tw15400386629497831086 : Nat := 0
def fin0.tw7779358234832003848 : Nat := 0
def fin0.tw4119218157255179802 : Nat := 0
def fin0.tw4631262865548259779 : Nat := 0
def fin0.tw16180447628552648461 : Nat := 0
def fin0.tw2864063593793082149 : Nat := 0
def fin0.tw5323188754124861763 : Nat := 0
def fin0.tw1548882229939455049 : Nat := 0
def fin0.tw7652190701560437932 : Nat := 0
def fin0.tw17159775638472827658 : Nat := 0
def fin0.tw10376879144778605278 : Nat := 0
def fin0.tw11739663969554428608 : Nat := 0
def fin0.tw7040657554587132378 : Nat := 0
def fin0.tw14834388237984625782 : Nat := 0
def fin0.tw15202388556175750299 : Nat := 0
def fin0.tw3718857149463873768 : Nat := 0
def fin0.tw13652035953707216163 : Nat := 0
def fin0.tw2215196672258749067 : Nat := 0
def fin0.tw8602264150632403920 : Nat := 0
def fin0.tw16960276959775096947 : Nat := 0
def fin0.tw11371779068240914634 : Nat := 0
def fin0.tw13612867726763274133 : Nat := 0
def fin0.tw8717858307332271353 : Nat := 0
def fin0.tw11761783363533454726 : Nat := 0
def fin0.tw16869788424166881166 : Nat := 0
def fin0.tw14547437427839808660 : Nat := 0
def fin0.tw14161639412413215588 : Nat := 0
def fin0.tw17797115151236824469 : Nat := 0
def fin0.tw10950806334736096025 : Nat := 0
def fin0.tw12931001339626642624 : Nat := 0
def fin0.tw15048058756693507586 : Nat := 0
def fin0.tw10270114783254131269 : Nat := 0
def fin0.tw11042091492466369129 : Nat := 0
def fin0.tw18414463054721624813 : Nat := 0
def fin0.tw12457404524120416536 : Nat := 0
def fin0.tw17452355681580642429 : Nat := 0
def fin0.tw7461226128529397166 : Nat := 0
def fin0.tw3265346925332311075 : Nat := 0
def fin0.tw7538485151195171130 : Nat := 0
def fin0.tw879331741549907865 : Nat := 0
def fin0.tw14952560413770442240 : Nat := 0
def fin0.tw5419753797946329805 : Nat := 0
def fin0.tw12192868276118031591 : Nat := 0
def fin0.tw15968175392794480330 : Nat := 0
def fin0.tw4062807518657481017 : Nat := 0
def fin0.tw12445225312917837718 : Nat := 0
def fin0.tw13440616945223444687 : Nat := 0
def fin0.tw16822612339392221130 : Nat := 0
def fin0.tw13470194624600099348 : Nat := 0
def fin0.tw6189765042506286653 : Nat := 0
def fin0.tw5004105663482390416 : Nat := 0
def fin0.tw17817784119796082099 : Nat := 0
def fin0.tw14768032080971381948 : Nat := 0
def fin0.tw10801782302616015807 : Nat := 0
def fin0.tw17281879600866117378 : Nat := 0
def fin0.tw4299595869085267033 : Nat := 0
def fin0.tw15842190768098354805 : Nat := 0
def fin0.tw13210000012512082162 : Nat := 0
def fin0.tw6996584316665414704 : Nat := 0
def fin0.tw12436319882516799629 : Nat := 0
def fin0.tw16390675909895890737 : Nat := 0
def fin0.tw11571758148927305028 : Nat := 0
def fin0.tw1782982982168870244 : Nat := 0
def fin0.tw8873311058542888407 : Nat := 0
def fin0.tw7962800198453762518 : Nat := 0
def fin0.tw9792515409307542109 : Nat := 0
def fin0.tw15044324718123615773 : Nat := 0
def fin0.tw3008003178381533324 : Nat := 0
def fin0.tw15555365092026677663 : Nat := 0
def fin0.tw488513250898516850 : Nat := 0
def fin0.tw10499715667789683743 : Nat := 0
def fin0.tw16849065090814721657 : Nat := 0
def fin0.tw8608046166890646057 : Nat := 0
def fin0.tw10128901787671631795 : Nat := 0
def fin0.tw10703100181107440340 : Nat := 0
def fin0.tw12163938194074546280 : Nat := 0
def fin0.tw16172917577187031124 : Nat := 0
def fin0.tw6214188540488966333 : Nat := 0
def fin0.tw3770764029452721799 : Nat := 0
def fin0.tw15867572739915761342 : Nat := 0
def fin0.tw9941271556818407134 : Nat := 0
def fin0.tw17601189110448126315 : Nat := 0
def fin0.tw17175313918527636838 : Nat := 0
def fin0.tw2302390121510579953 : Nat := 0
def fin0.tw13069300277216969932 : Nat := 0
def fin0.tw7915154977043521276 : Nat := 0
def fin0.tw9562342166947275404 : Nat := 0
def fin0.tw5510414504796400488 : Nat := 0
def fin0.tw11579680645842987771 : Nat := 0
def fin0.tw3374617949513176842 : Nat := 0
def fin0.tw15061379609708409920 : Nat := 0
def fin0.tw7467599922689290903 : Nat := 0
def fin0.tw13569147290142149058 : Nat := 0
def fin0.tw17528802674472618806 : Nat := 0
def fin0.tw6489074272318763895 : Nat := 0
def fin0.tw18070917177879699313 : Nat := 0
def fin0.tw15210770538050732032 : Nat := 0
def fin0.tw10241880648042412113 : Nat := 0
def fin0.tw11608560132104285304 : Nat := 0
def fin0.tw15616664775391873501 : Nat := 0
def fin0.tw1559253145245704975 : Nat := 0
def fin0.tw17855384440576655681 : Nat := 0
def fin0.tw5325834578938509570 : Nat := 0
def fin0.tw12257624437273330086 : Nat := 0
def fin0.tw17496546766890260434 : Nat := 0
def fin0.tw15468891766581136319 : Nat := 0
def fin0.tw3599840599690631482 : Nat := 0
def fin0.tw2576787833472569510 : Nat := 0
def fin0.tw12954190415987143388 : Nat := 0
def fin0.tw7411292915676343125 : Nat := 0
def fin0.tw10293250378804917830 : Nat := 0
def fin0.tw8243197725427162660 : Nat := 0
def fin0.tw9118997147861610458 : Nat := 0
def fin0.tw9929614494519103325 : Nat := 0
def fin0.tw8152875187190830645 : Nat := 0
def fin0.tw13147537959811698225 : Nat := 0
def fin0.tw3506947093154524826 : Nat := 0
def fin0.tw14610552313070066380 : Nat := 0
def fin0.tw8064098437163832319 : Nat := 0
def fin0.tw5787363077701712882 : Nat := 0
def fin0.tw14184091605983411866 : Nat := 0
def fin0.tw15347306734754940101 : Nat := 0
def fin0.tw16160050598748938663 : Nat := 0
def fin0.tw15044737221113967321 : Nat := 0
def fin0.tw17627493139188911309 : Nat := 0
def fin0.tw12149550743476515854 : Nat := 0
def fin0.tw11507172954068067335 : Nat := 0
def fin0.tw3259527907382304496 : Nat := 0
def fin0.tw12157568004689020864 : Nat := 0
def fin0.tw4849837345345873991 : Nat := 0
def fin0.tw2176094926800494576 : Nat := 0
def fin0.tw3815802477331548579 : Nat := 0
def fin0.tw1182634328671825292 : Nat := 0
def fin0.tw1389641716500457422 : Nat := 0
def fin0.tw10505251502819291546 : Nat := 0
def fin0.tw298461070136730066 : Nat := 0
def fin0.tw1926277097374222959 : Nat := 0
def fin0.tw14183575906994652282 : Nat := 0
def fin0.tw18271381345879242380 : Nat := 0
def fin0.tw1154479813718211167 : Nat := 0
def fin0.tw11018346871524647768 : Nat := 0
def fin0.tw4242765856984911621 : Nat := 0
def fin0.tw1140885933030806830 : Nat := 0
def fin0.tw2120497207227552687 : Nat := 0
def fin0.tw3192237293789611634 : Nat := 0
def fin0.tw14622471961857917921 : Nat := 0
def fin0.tw10567957995448672610 : Nat := 0
def fin0.tw11480396695779019336 : Nat := 0
def fin0.tw7236301461436153623 : Nat := 0
def fin0.tw17862345445416492773 : Nat := 0
def fin0.tw8583201328869310917 : Nat := 0
def fin0.tw2382288934627655165 : Nat := 0
def fin0.tw6327703153718492871 : Nat := 0
def fin0.tw10414598432687178571 : Nat := 0
def fin0.tw3341870789656891487 : Nat := 0
def fin0.tw2931003419409409494 : Nat := 0
def fin0.tw7141704790223437164 : Nat := 0
def fin0.tw11897610241704710243 : Nat := 0
def fin0.tw190838972124886468 : Nat := 0
def fin0.tw12050720795852252530 : Nat := 0
def fin0.tw7301404403804485935 : Nat := 0
def fin0.tw14244839437953922669 : Nat := 0
def fin0.tw3187656008700102039 : Nat := 0
def fin0.tw4408495112773585486 : Nat := 0
def fin0.tw6274886781408863428 : Nat := 0
def fin0.tw2523454752933530716 : Nat := 0
def fin0.tw5337429878115067332 : Nat := 0
def fin0.tw14307471472537434856 : Nat := 0
def fin0.tw10792151530010538269 : Nat := 0
def fin0.tw10333750088489571767 : Nat := 0
def fin0.tw13151919573606928343 : Nat := 0
def fin0.tw403335293030596006 : Nat := 0
def fin0.tw10852335105695678271 : Nat := 0
def fin0.tw7577787283268432142 : Nat := 0
def fin0.tw15905060584034798376 : Nat := 0
def fin0.tw9711398385843842397 : Nat := 0
def fin0.tw15066444947465416613 : Nat := 0
def fin0.tw8517184577458574439 : Nat := 0
def fin0.tw2717279181604073046 : Nat := 0
def fin0.tw15347090377752923193 : Nat := 0
def fin0.tw17566397629865375600 : Nat := 0
def fin0.tw10167025407021426192 : Nat := 0
def fin0.tw7356429441440707766 : Nat := 0
def fin0.tw404390850817167910 : Nat := 0
def fin0.tw7330577316265528315 : Nat := 0
def fin0.tw15945211770956003621 : Nat := 0
def fin0.tw6416764772892947155 : Nat := 0
def fin0.tw2627416141345255603 : Nat := 0
def fin0.tw15950081017285979637 : Nat := 0
def fin0.tw6150186401607814826 : Nat := 0
def fin0.tw9415630674661027682 : Nat := 0
def fin0.tw3106154784913582365 : Nat := 0
def fin0.tw1636735367045379807 : Nat := 0
def fin0.tw5991702594504249772 : Nat := 0
def fin0.tw1526108734177391822 : Nat := 0
def fin0.tw5205958415153254228 : Nat := 0
def fin0.tw17744524609482918252 : Nat := 0
def fin0.tw5369232671884707870 : Nat := 0
def fin0.tw6340718920224157801 : Nat := 0
def fin0.tw3738523269214684630 : Nat := 0
def fin0.tw11467639250997474266 : Nat := 0
def fin0.tw1154487576879665231 : Nat := 0
def fin0.tw12760842481792902177 : Nat := 0
def fin0.tw16013608055562609272 : Nat := 0
def fin0.tw15003155833612659448 : Nat := 0
def fin0.tw14386992102748336605 : Nat := 0
def fin0.tw2505257918346809437 : Nat := 0
def fin0.tw3936648643865487456 : Nat := 0
def fin0.tw131434551978230859 : Nat := 0
def fin0.tw8699601197190442305 : Nat := 0
def fin0.tw4319801777836406064 : Nat := 0
def fin0.tw4127827339972764385 : Nat := 0
def fin0.tw1601136138807049390 : Nat := 0
def fin0.tw8737149510217443140 : Nat := 0
def fin0.tw11378110718868509627 : Nat := 0
def fin0.tw8835255980931657406 : Nat := 0
def fin0.tw18314081909847428171 : Nat := 0
def fin0.tw16597705750172955785 : Nat := 0
def fin0.tw3999149275696692158 : Nat := 0
def fin0.tw3797586741690118009 : Nat := 0
def fin0.tw18180907166984324398 : Nat := 0
def fin0.tw8483355741201118732 : Nat := 0
def fin0.tw4934678545460286711 : Nat := 0
def fin0.tw16767505644219707405 : Nat := 0
def fin0.tw8869113165751759608 : Nat := 0
def fin0.tw2879637364206790463 : Nat := 0
def fin0.tw9192885686446376484 : Nat := 0
def fin0.tw10272780782277582835 : Nat := 0
def fin0.tw1440582819229959622 : Nat := 0
def fin0.tw16207792832205372609 : Nat := 0
def fin0.tw13135812517109001057 : Nat := 0
def fin0.tw18222838078283579788 : Nat := 0
def fin0.tw6527972309674541344 : Nat := 0
def fin0.tw11736838645121639571 : Nat := 0
def fin0.tw12178183277865099037 : Nat := 0
def fin0.tw17610175776442179144 : Nat := 0
def fin0.tw12068211521685329138 : Nat := 0
def fin0.tw13157791539917601675 : Nat := 0
def fin0.tw13662229697682533417 : Nat := 0
def fin0.tw12095452986737332369 : Nat := 0
def fin0.tw13629798883385691103 : Nat := 0
def fin0.tw3459014136866157935 : Nat := 0
def fin0.tw16047671204902996136 : Nat := 0
def fin0.tw3784455849454481227 : Nat := 0
def fin0.tw13652533233648364841 : Nat := 0
def fin0.tw11953789313455069782 : Nat := 0
def fin0.tw16330094737485907717 : Nat := 0
def fin0.tw6138259803201188188 : Nat := 0
def fin0.tw12934252464286440725 : Nat := 0
def fin0.tw16917618839880556162 : Nat := 0
def fin0.tw9453043491955404426 : Nat := 0
def fin0.tw17300375688104036764 : Nat := 0
def fin0.tw16983695935994320442 : Nat := 0
def fin0.tw14635458502626191691 : Nat := 0
def fin0.tw4932206669529671655 : Nat := 0
def fin0.tw15053003072526822721 : Nat := 0
def fin0.tw6928167646957941473 : Nat := 0
def fin0.tw8363612889968451913 : Nat := 0
def fin0.tw4790995647603312319 : Nat := 0
def fin0.tw11890465640941806068 : Nat := 0
def fin0.tw14945499460156611840 : Nat := 0
def fin0.tw9045514207400704456 : Nat := 0
def fin0.tw8342292550639203773 : Nat := 0
def fin0.tw14531046873001078631 : Nat := 0
def fin0.tw5958670441552468980 : Nat := 0
def fin0.tw13843409651890027399 : Nat := 0
def fin0.tw7292889069296969209 : Nat := 0
def fin0.tw11950401794208246208 : Nat := 0
def fin0.tw9311983108544331158 : Nat := 0
def fin0.tw432414311134449265 : Nat := 0
def fin0.tw18022869847027702263 : Nat := 0
def fin0.tw7783963919842043823 : Nat := 0
def fin0.tw17563506455143695142 : Nat := 0
def fin0.tw2127066611195289431 : Nat := 0
def fin0.tw7144361534888875730 : Nat := 0
def fin0.tw3601106518967513217 : Nat := 0
def fin0.tw6421692164997077420 : Nat := 0
def fin0.tw7548334507403601667 : Nat := 0
def fin0.tw12641663261957618121 : Nat := 0
def fin0.tw5265093224624681903 : Nat := 0
def fin0.tw8909845765096553650 : Nat := 0
def fin0.tw14646533131858681252 : Nat := 0
def fin0.tw9463912858300148624 : Nat := 0
def fin0.tw5213523945439737943 : Nat := 0
def fin0.tw2163659628714851993 : Nat := 0
def fin0.tw9671461342520117046 : Nat := 0
def fin0.tw1530566601263421401 : Nat := 0
def fin0.tw13978240720306254025 : Nat := 0
def fin0.tw8696368974510395914 : Nat := 0
def fin0.tw909796990896539913 : Nat := 0
def fin0.tw4479159815060201915 : Nat := 0
def fin0.tw10866871115258218622 : Nat := 0
def fin0.tw14859998318728952049 : Nat := 0
def fin0.tw10487217157757211037 : Nat := 0
def fin0.tw11662807543114442023 : Nat := 0
def fin0.tw12586455532562563582 : Nat := 0
def fin0.tw6428887988003582481 : Nat := 0
def fin0.tw5053592280467606482 : Nat := 0
def fin0.tw9447360737891600529 : Nat := 0
def fin0.tw6218454479809384867 : Nat := 0
def fin0.tw9071913532002403287 : Nat := 0
def fin0.tw8656574444937311313 : Nat := 0
def fin0.tw9615399562333365087 : Nat := 0
def fin0.tw8209840754753254714 : Nat := 0
def fin0.tw498112449475001156 : Nat := 0
def fin0.tw15936222127412600433 : Nat := 0
def fin0.tw12909342340256747803 : Nat := 0
def fin0.tw16508417705808800339 : Nat := 0
def fin0.tw18244157347828970862 : Nat := 0
def fin0.tw1219176982963400898 : Nat := 0
def fin0.tw18085053417219250922 : Nat := 0
def fin0.tw13753002205198871568 : Nat := 0
def fin0.tw12217597934503339944 : Nat := 0
def fin0.tw10814424918339286042 : Nat := 0
def fin0.tw10565628636937027844 : Nat := 0
def fin0.tw12464823181464235660 : Nat := 0
def fin0.tw7342709289226399796 : Nat := 0
def fin0.tw4134711040906939766 : Nat := 0
def fin0.tw8096029131748965234 : Nat := 0
def fin0.tw15306973408270764466 : Nat := 0
def fin0.tw17505384503686992478 : Nat := 0
def fin0.tw16594342597212891052 : Nat := 0
def fin0.tw7754995444089898360 : Nat := 0
def fin0.tw3147930128680123492 : Nat := 0
def fin0.tw12945271723025901154 : Nat := 0
def fin0.tw15186197329230650911 : Nat := 0
def fin0.tw16018360157623957491 : Nat := 0
def fin0.tw17880522385632600523 : Nat := 0
def fin0.tw7227796230475492716 : Nat := 0
def fin0.tw135006175643245880 : Nat := 0
def fin0.tw11724516133913184155 : Nat := 0
def fin0.tw2164906546169689969 : Nat := 0
def fin0.tw4023983849234662628 : Nat := 0
def fin0.tw7723061058119726475 : Nat := 0
def fin0.tw11048884605447043967 : Nat := 0
def fin0.tw13029184102498224888 : Nat := 0
def fin0.tw3184511825663573397 : Nat := 0
def fin0.tw4253277553705115184 : Nat := 0
def fin0.tw9395184064652937495 : Nat := 0
def fin0.tw10488517813134506325 : Nat := 0
def fin0.tw13747783359472819877 : Nat := 0
def fin0.tw9340889746671568673 : Nat := 0
def fin0.tw1018970281187925542 : Nat := 0
def fin0.tw4736628569333134677 : Nat := 0
def fin0.tw18101528661421408687 : Nat := 0
def fin0.tw10857187117425651639 : Nat := 0
def fin0.tw4888281802258422260 : Nat := 0
def fin0.tw4691855687526147308 : Nat := 0
def fin0.tw18082042268124538883 : Nat := 0
def fin0.tw4293050202129195453 : Nat := 0
def fin0.tw15322109511645173324 : Nat := 0
def fin0.tw13026877399415951783 : Nat := 0
def fin0.tw15524340749463278071 : Nat := 0
def fin0.tw2227292585068383482 : Nat := 0
def fin0.tw957368921863609136 : Nat := 0
def fin0.tw8252217714100242919 : Nat := 0
def fin0.tw3237913078262957466 : Nat := 0
def fin0.tw953816066262569986 : Nat := 0
def fin0.tw13889766523957012149 : Nat := 0
def fin0.tw16298295604684564445 : Nat := 0
def fin0.tw13994040659618149524 : Nat := 0
def fin0.tw18143204179128573957 : Nat := 0
def fin0.tw2627352807957194471 : Nat := 0
def fin0.tw14034395020649646805 : Nat := 0
def fin0.tw9929028906307472656 : Nat := 0
def fin0.tw9832278405234381564 : Nat := 0
def fin0.tw3045314788619564708 : Nat := 0
def fin0.tw4365371647250212698 : Nat := 0
def fin0.tw16376001921480638452 : Nat := 0
def fin0.tw6359902347758312627 : Nat := 0
def fin0.tw964933976234920017 : Nat := 0
def fin0.tw18173901329841640756 : Nat := 0
def fin0.tw5258180869480558744 : Nat := 0
def fin0.tw3247930063950451849 : Nat := 0
def fin0.tw492291382412105811 : Nat := 0
def fin0.tw17078334154404515958 : Nat := 0
def fin0.tw14972524228044030941 : Nat := 0
def fin0.tw9933344524967494867 : Nat := 0
def fin0.tw14655406389451688842 : Nat := 0
def fin0.tw168781043240382831 : Nat := 0
def fin0.tw13104886289134925570 : Nat := 0
def fin0.tw3534402055602984869 : Nat := 0
def fin0.tw14402796447626101669 : Nat := 0
def fin0.tw6369018541807564250 : Nat := 0
def fin0.tw4753906554407571398 : Nat := 0
def fin0.tw5259107488043788499 : Nat := 0
def fin0.tw9867425538951959828 : Nat := 0
def fin0.tw197460062257013832 : Nat := 0
def fin0.tw8368884030120916976 : Nat := 0
def fin0.tw6874226302407259832 : Nat := 0
def fin0.tw13608939576000832356 : Nat := 0
def fin0.tw10400488160560744079 : Nat := 0
def fin0.tw667980864503741084 : Nat := 0
def fin0.tw6994737821295143321 : Nat := 0
def fin0.tw7332888659844655708 : Nat := 0
def fin0.tw9017862268119642571 : Nat := 0
def fin0.tw15589428086863330904 : Nat := 0
def fin0.tw9678821374330677202 : Nat := 0
def fin0.tw8829628707617305605 : Nat := 0
def fin0.tw1568602073636696216 : Nat := 0
def fin0.tw8534423941746737255 : Nat := 0
def fin0.tw17284297334272661960 : Nat := 0
def fin0.tw4612047377488119133 : Nat := 0
def fin0.tw7646773394290731933 : Nat := 0
def fin0.tw11159008402016999498 : Nat := 0
def fin0.tw3769879164326513531 : Nat := 0
def fin0.tw3304286278078539490 : Nat := 0
def fin0.tw5623294204624033467 : Nat := 0
def fin0.tw11433689206953053090 : Nat := 0
def fin0.tw15362927497945896794 : Nat := 0
def fin0.tw1899923189993129633 : Nat := 0
def fin0.tw7238268691123589136 : Nat := 0
def fin0.tw3039573449309901282 : Nat := 0
def fin0.tw11551001119634619725 : Nat := 0
def fin0.tw2606318419972643774 : Nat := 0
def fin0.tw8097249187358408615 : Nat := 0
def fin0.tw5569384881955667045 : Nat := 0
def fin0.tw9654528394883393239 : Nat := 0
def fin0.tw14627027797316686055 : Nat := 0
def fin0.tw14394495188306548354 : Nat := 0
def fin0.tw11913710913836805017 : Nat := 0
def fin0.tw11538058578938865938 : Nat := 0
def fin0.tw13379588997084000386 : Nat := 0
def fin0.tw3724366607545987365 : Nat := 0
def fin0.tw3492225104863344375 : Nat := 0
def fin0.tw6777974215160720040 : Nat := 0
def fin0.tw15101544172161108866 : Nat := 0
def fin0.tw8357595950883371578 : Nat := 0
def fin0.tw12224305104404077311 : Nat := 0
def fin0.tw1408360245469581172 : Nat := 0
def fin0.tw10508793923854209725 : Nat := 0
def fin0.tw8931134706441682850 : Nat := 0
def fin0.tw6871103135349758849 : Nat := 0
def fin0.tw17009224344325122175 : Nat := 0
def fin0.tw12923031201617408647 : Nat := 0
def fin0.tw4416294636154813962 : Nat := 0
def fin0.tw6963973651278349063 : Nat := 0
def fin0.tw13679339522113125827 : Nat := 0
def fin0.tw2778058573514267244 : Nat := 0
def fin0.tw14206481308401407949 : Nat := 0
def fin0.tw6434245986286233471 : Nat := 0
def fin0.tw6967520427597597475 : Nat := 0
def fin0.tw14861803415371650687 : Nat := 0
def fin0.tw9613507399902370055 : Nat := 0
def fin0.tw3846204104344430624 : Nat := 0
def fin0.tw3833243715004205105 : Nat := 0
def fin0.tw13387461531684481683 : Nat := 0
def fin0.tw18111390191615408497 : Nat := 0
def fin0.tw11954825238232798279 : Nat := 0
def fin0.tw5685796116856793224 : Nat := 0
def fin0.tw6442683268917833401 : Nat := 0
def fin0.tw12529674333054696943 : Nat := 0
def fin0.tw5481682555792725385 : Nat := 0
def fin0.tw7731007523775331523 : Nat := 0
def fin0.tw10275865672476915951 : Nat := 0
def fin0.tw12046320961144318548 : Nat := 0
def fin0.tw10583296211358044175 : Nat := 0
def fin0.tw6039107921581920876 : Nat := 0
def fin0.tw16963447378693853303 : Nat := 0
def fin0.tw16167906071668959703 : Nat := 0
def fin0.tw11115262910366327351 : Nat := 0
def fin0.tw6761038972714978985 : Nat := 0
def fin0.tw4899361744416362072 : Nat := 0
def fin0.tw16516589217647905045 : Nat := 0
def fin0.tw13625248552349513225 : Nat := 0
def fin0.tw8205303085504735077 : Nat := 0
def fin0.tw9139778763307970940 : Nat := 0
def fin0.tw3178781486592177306 : Nat := 0
def fin0.tw11444399355515980657 : Nat := 0
def fin0.tw9355547682003399170 : Nat := 0
def fin0.tw16388797076364065901 : Nat := 0
def fin0.tw15031944088454068420 : Nat := 0
def fin0.tw13004773935908491532 : Nat := 0
def fin0.tw18211128084925330976 : Nat := 0
def fin0.tw16972242023303227219 : Nat := 0
def fin0.tw16308912248267631169 : Nat := 0
def fin0.tw3875197033498884190 : Nat := 0
def fin0.tw9808163193463761058 : Nat := 0
def fin0.tw1184540872871679506 : Nat := 0
def fin0.tw1657589083518470054 : Nat := 0
def fin0.tw10960960116296981845 : Nat := 0
def fin0.tw2250173788610174173 : Nat := 0
def fin0.tw17379947087408284185 : Nat := 0
def fin0.tw10696481607992178152 : Nat := 0
def fin0.tw11565774765851289329 : Nat := 0
def fin0.tw5626632764598808729 : Nat := 0
def fin0.tw6085291024616800270 : Nat := 0
def fin0.tw5866901497468467588 : Nat := 0
def fin0.tw11723631079179824405 : Nat := 0
def fin0.tw5204017774198165233 : Nat := 0
def fin0.tw13109670005335505958 : Nat := 0
def fin0.tw18312633986496985356 : Nat := 0
def fin0.tw497700270614309012 : Nat := 0
def fin0.tw16580944716160837395 : Nat := 0
def fin0.tw11452818557153170074 : Nat := 0
def fin0.tw6021716405918041552 : Nat := 0
def fin0.tw10946702293338381342 : Nat := 0
def fin0.tw9014054154267955570 : Nat := 0
def fin0.tw5894610119056552997 : Nat := 0
def fin0.tw16195604580563499824 : Nat := 0
def fin0.tw8917365438123543634 : Nat := 0
def fin0.tw2865483108574089823 : Nat := 0
def fin0.tw18399241946572242393 : Nat := 0
def fin0.tw4085255305201600665 : Nat := 0
def fin0.tw9465635173390789068 : Nat := 0
def fin0.tw15010379916586018831 : Nat := 0
def fin0.tw14387155473226153136 : Nat := 0
def fin0.tw2477564699457872826 : Nat := 0
def fin0.tw13958396005231161517 : Nat := 0
def fin0.tw14531092948679492247 : Nat := 0
def fin0.tw12052266633092992845 : Nat := 0
def fin0.tw2438497484575686451 : Nat := 0
def fin0.tw17907012211236876612 : Nat := 0
def fin0.tw13781680949320386168 : Nat := 0
def fin0.tw13210337545777017972 : Nat := 0
def fin0.tw8130501736758349177 : Nat := 0
def fin0.tw6708329468727824176 : Nat := 0
def fin0.tw16094358526619505051 : Nat := 0
def fin0.tw15042724557596595019 : Nat := 0
def fin0.tw3694044376243760088 : Nat := 0
def fin0.tw329208471957151534 : Nat := 0
def fin0.tw711807019435264521 : Nat := 0
def fin0.tw5601422711726979296 : Nat := 0
def fin0.tw949548174677120750 : Nat := 0
def fin0.tw6724083119084054725 : Nat := 0
def fin0.tw6924746711541328317 : Nat := 0
def fin0.tw1775885002278159793 : Nat := 0
def fin0.tw7017039010060877752 : Nat := 0
def fin0.tw12818953145849114525 : Nat := 0
def fin0.tw15268979036077679584 : Nat := 0
def fin0.tw13647831837114549432 : Nat := 0
def fin0.tw6322317530304359325 : Nat := 0
def fin0.tw10974291375918795078 : Nat := 0
def fin0.tw10311622010772188240 : Nat := 0
def fin0.tw15326470910688777111 : Nat := 0
def fin0.tw7425868458763263680 : Nat := 0
def fin0.tw10007201156825500105 : Nat := 0
def fin0.tw18261956862146731679 : Nat := 0
def fin0.tw15481281690890342043 : Nat := 0
def fin0.tw16033868350029729363 : Nat := 0
def fin0.tw5127607613325039939 : Nat := 0
def fin0.tw7566825152130018178 : Nat := 0
def fin0.tw900928581049688509 : Nat := 0
def fin0.tw17569445744956543853 : Nat := 0
def fin0.tw4544552892542078263 : Nat := 0
def fin0.tw14689733481406631947 : Nat := 0
def fin0.tw8557405278562042028 : Nat := 0
def fin0.tw4666587984486060046 : Nat := 0
def fin0.tw1673811771080839025 : Nat := 0
def fin0.tw1468449279056968092 : Nat := 0
def fin0.tw6563591634304382450 : Nat := 0
def fin0.tw14090284624843534012 : Nat := 0
def fin0.tw3431101803815060072 : Nat := 0
def fin0.tw1932685377532487782 : Nat := 0
def fin0.tw12752446680062783763 : Nat := 0
end Mine
open PySem PySem.W PyProof.Rows PySem.Calls PyProof.V PySem.Spec
namespace Mine
theorem pg_ok : PgOk PySem.Challenge.rw_bp0023_01.row.prog := ⟨by kernel_rfl, by kernel_rfl⟩
theorem post_ok (args : List WData) : PySem.Challenge.rw_bp0023_01.row.claim.post args (.bool true) args = true := by
  first | kernel_rfl | (with_unfolding_all rfl) | wrow_post | (simp [OpenRow.claim, OpenLaw.row, WTm.holds, WTm.value, WShape.has])
theorem dep_ok : callerA.depth + 1 + 300 < recursionLimit := by decide +kernel
theorem unt_ok : callerA.units + 3 + 2000 < cLine := by decide +kernel
theorem nd4 {a b c d : Addr} (h1 : a ≠ b) (h2 : a ≠ c) (h3 : a ≠ d) (h4 : b ≠ c) (h5 : b ≠ d) (h6 : c ≠ d) : [a, b, c, d].Nodup := by simp [h1, h2, h3, h4, h5, h6]
noncomputable def hk : Hook := kHook Mine.kk.heap_1 [nat_lit 2, nat_lit 3, nat_lit 43, nat_lit 45, nat_lit 46, nat_lit 48, nat_lit 49, nat_lit 57, nat_lit 58, nat_lit 59, nat_lit 60, nat_lit 61, nat_lit 64, nat_lit 65, nat_lit 73, nat_lit 75, nat_lit 76, nat_lit 78, nat_lit 79, nat_lit 80, nat_lit 82, nat_lit 83, nat_lit 85, nat_lit 86, nat_lit 87, nat_lit 89, nat_lit 90, nat_lit 92, nat_lit 93, nat_lit 94, nat_lit 96, nat_lit 97, nat_lit 99, nat_lit 100, nat_lit 101, nat_lit 102, nat_lit 104, nat_lit 105, nat_lit 107, nat_lit 108, nat_lit 109, nat_lit 110, nat_lit 112, nat_lit 113, nat_lit 115, nat_lit 116, nat_lit 117, nat_lit 118, nat_lit 120, nat_lit 121, nat_lit 123, nat_lit 124, nat_lit 127, nat_lit 129, nat_lit 130, nat_lit 132, nat_lit 133, nat_lit 134, nat_lit 135, nat_lit 137, nat_lit 138, nat_lit 140, nat_lit 141, nat_lit 142, nat_lit 143, nat_lit 145, nat_lit 146, nat_lit 148, nat_lit 149, nat_lit 150, nat_lit 151, nat_lit 153, nat_lit 154, nat_lit 156, nat_lit 157, nat_lit 158, nat_lit 160, nat_lit 161, nat_lit 163, nat_lit 164, nat_lit 165, nat_lit 167, nat_lit 168, nat_lit 170, nat_lit 171, nat_lit 172, nat_lit 174, nat_lit 175, nat_lit 177, nat_lit 178, nat_lit 179, nat_lit 180, nat_lit 181, nat_lit 182, nat_lit 183, nat_lit 186, nat_lit 193, nat_lit 194, nat_lit 196, nat_lit 197, nat_lit 199, nat_lit 200, nat_lit 201, nat_lit 203, nat_lit 204, nat_lit 206, nat_lit 207, nat_lit 208, nat_lit 209, nat_lit 210, nat_lit 213, nat_lit 220, nat_lit 222, nat_lit 223, nat_lit 225, nat_lit 226, nat_lit 227, nat_lit 228, nat_lit 229, nat_lit 232, nat_lit 239, nat_lit 241, nat_lit 242, nat_lit 244, nat_lit 245, nat_lit 246, nat_lit 248, nat_lit 249, nat_lit 251, nat_lit 252, nat_lit 253, nat_lit 255, nat_lit 256, nat_lit 258, nat_lit 259, nat_lit 260, nat_lit 261, nat_lit 263, nat_lit 264, nat_lit 266, nat_lit 267, nat_lit 268, nat_lit 269, nat_lit 271, nat_lit 272, nat_lit 274, nat_lit 275, nat_lit 276, nat_lit 277, nat_lit 278, nat_lit 280, nat_lit 281, nat_lit 283, nat_lit 284, nat_lit 285, nat_lit 287, nat_lit 288, nat_lit 290, nat_lit 291, nat_lit 292, nat_lit 294, nat_lit 295, nat_lit 297, nat_lit 298, nat_lit 299, nat_lit 300, nat_lit 301, nat_lit 311, nat_lit 313, nat_lit 314, nat_lit 316, nat_lit 317, nat_lit 318, nat_lit 320, nat_lit 321, nat_lit 323, nat_lit 324, nat_lit 325, nat_lit 327, nat_lit 328, nat_lit 330, nat_lit 331, nat_lit 332, nat_lit 334, nat_lit 335, nat_lit 337, nat_lit 338, nat_lit 339, nat_lit 341, nat_lit 342, nat_lit 344, nat_lit 345, nat_lit 346, nat_lit 348, nat_lit 349, nat_lit 351, nat_lit 352, nat_lit 353, nat_lit 355, nat_lit 356, nat_lit 358, nat_lit 359, nat_lit 360, nat_lit 362, nat_lit 363, nat_lit 365, nat_lit 366, nat_lit 367, nat_lit 369, nat_lit 370, nat_lit 372, nat_lit 373, nat_lit 374, nat_lit 377, nat_lit 378, nat_lit 379, nat_lit 380, nat_lit 381, nat_lit 382, nat_lit 383, nat_lit 386, nat_lit 389, nat_lit 394, nat_lit 395, nat_lit 397, nat_lit 398, nat_lit 400, nat_lit 401, nat_lit 402, nat_lit 404, nat_lit 405, nat_lit 407, nat_lit 408, nat_lit 409, nat_lit 411, nat_lit 412, nat_lit 414, nat_lit 415, nat_lit 416, nat_lit 418, nat_lit 419, nat_lit 421, nat_lit 422, nat_lit 423, nat_lit 426, nat_lit 427, nat_lit 428, nat_lit 430, nat_lit 431, nat_lit 433, nat_lit 434, nat_lit 435, nat_lit 437, nat_lit 438, nat_lit 440, nat_lit 441, nat_lit 442, nat_lit 444, nat_lit 445, nat_lit 447, nat_lit 448, nat_lit 449, nat_lit 450, nat_lit 451, nat_lit 452, nat_lit 454, nat_lit 455, nat_lit 457, nat_lit 458, nat_lit 459, nat_lit 460, nat_lit 461, nat_lit 462, nat_lit 463, nat_lit 464, nat_lit 467, nat_lit 474, nat_lit 475, nat_lit 476, nat_lit 477, nat_lit 480, nat_lit 487, nat_lit 489, nat_lit 490, nat_lit 492, nat_lit 493, nat_lit 494, nat_lit 495, nat_lit 496, nat_lit 497, nat_lit 498, nat_lit 499, nat_lit 500, nat_lit 503, nat_lit 505, nat_lit 506, nat_lit 508, nat_lit 509, nat_lit 510, nat_lit 512, nat_lit 513, nat_lit 515, nat_lit 516, nat_lit 524, nat_lit 525, nat_lit 526, nat_lit 528, nat_lit 529, nat_lit 531, nat_lit 532, nat_lit 533, nat_lit 535, nat_lit 536, nat_lit 538, nat_lit 539, nat_lit 540, nat_lit 542, nat_lit 543, nat_lit 545, nat_lit 546, nat_lit 547, nat_lit 549, nat_lit 550, nat_lit 552, nat_lit 553, nat_lit 554, nat_lit 556, nat_lit 557, nat_lit 558, nat_lit 559, nat_lit 560, nat_lit 570, nat_lit 571, nat_lit 573, nat_lit 574, nat_lit 576, nat_lit 577, nat_lit 578, nat_lit 580, nat_lit 581, nat_lit 583, nat_lit 584, nat_lit 585, nat_lit 586, nat_lit 588, nat_lit 589, nat_lit 591, nat_lit 592, nat_lit 593, nat_lit 594, nat_lit 596, nat_lit 597, nat_lit 599, nat_lit 600, nat_lit 601, nat_lit 602, nat_lit 604, nat_lit 605, nat_lit 607, nat_lit 608, nat_lit 609, nat_lit 611, nat_lit 612, nat_lit 614, nat_lit 615, nat_lit 616, nat_lit 618, nat_lit 619, nat_lit 621, nat_lit 622, nat_lit 623, nat_lit 625, nat_lit 626, nat_lit 628, nat_lit 629, nat_lit 630, nat_lit 631, nat_lit 633, nat_lit 634, nat_lit 636, nat_lit 637, nat_lit 638, nat_lit 640, nat_lit 641, nat_lit 643, nat_lit 644, nat_lit 645, nat_lit 647, nat_lit 648, nat_lit 650, nat_lit 651, nat_lit 652, nat_lit 653, nat_lit 655, nat_lit 656, nat_lit 658, nat_lit 659, nat_lit 660, nat_lit 661, nat_lit 662, nat_lit 663, nat_lit 664, nat_lit 667, nat_lit 670, nat_lit 675, nat_lit 676, nat_lit 678, nat_lit 679, nat_lit 681, nat_lit 682, nat_lit 683, nat_lit 685, nat_lit 686, nat_lit 688, nat_lit 689, nat_lit 690, nat_lit 692, nat_lit 693, nat_lit 695, nat_lit 696, nat_lit 697, nat_lit 700, nat_lit 701, nat_lit 702, nat_lit 703, nat_lit 704, nat_lit 707, nat_lit 710, nat_lit 715, nat_lit 716, nat_lit 718, nat_lit 719, nat_lit 721, nat_lit 722, nat_lit 723, nat_lit 725, nat_lit 726, nat_lit 728, nat_lit 729, nat_lit 730, nat_lit 732, nat_lit 733, nat_lit 735, nat_lit 736, nat_lit 737, nat_lit 740, nat_lit 741, nat_lit 742, nat_lit 743, nat_lit 744, nat_lit 754, nat_lit 756, nat_lit 757, nat_lit 759, nat_lit 760, nat_lit 761, nat_lit 763, nat_lit 764, nat_lit 766, nat_lit 767, nat_lit 768, nat_lit 770, nat_lit 771, nat_lit 773, nat_lit 774, nat_lit 775, nat_lit 777, nat_lit 778, nat_lit 780, nat_lit 781, nat_lit 782, nat_lit 783, nat_lit 785, nat_lit 786, nat_lit 788, nat_lit 789, nat_lit 790, nat_lit 792, nat_lit 793, nat_lit 795, nat_lit 796, nat_lit 797, nat_lit 799, nat_lit 800, nat_lit 802, nat_lit 803, nat_lit 804, nat_lit 806, nat_lit 807, nat_lit 809, nat_lit 810, nat_lit 811, nat_lit 813, nat_lit 814, nat_lit 816, nat_lit 817, nat_lit 818, nat_lit 820, nat_lit 821, nat_lit 823, nat_lit 824, nat_lit 825, nat_lit 826, nat_lit 827, nat_lit 828, nat_lit 829, nat_lit 832, nat_lit 835, nat_lit 840, nat_lit 841, nat_lit 843, nat_lit 844, nat_lit 846, nat_lit 847, nat_lit 848, nat_lit 849, nat_lit 850, nat_lit 853, nat_lit 856, nat_lit 861, nat_lit 862, nat_lit 864, nat_lit 865, nat_lit 867, nat_lit 868, nat_lit 869, nat_lit 870, nat_lit 871, nat_lit 874, nat_lit 877, nat_lit 882, nat_lit 883, nat_lit 884, nat_lit 886, nat_lit 887, nat_lit 889, nat_lit 890, nat_lit 891, nat_lit 893, nat_lit 894, nat_lit 896, nat_lit 897, nat_lit 898, nat_lit 899, nat_lit 901, nat_lit 902, nat_lit 904, nat_lit 905, nat_lit 906, nat_lit 908, nat_lit 909, nat_lit 911, nat_lit 912, nat_lit 913, nat_lit 915, nat_lit 916, nat_lit 918, nat_lit 919, nat_lit 920, nat_lit 922, nat_lit 923, nat_lit 925, nat_lit 926, nat_lit 927, nat_lit 928, nat_lit 929, nat_lit 939, nat_lit 941, nat_lit 942, nat_lit 944, nat_lit 945, nat_lit 946, nat_lit 948, nat_lit 949, nat_lit 951, nat_lit 952, nat_lit 953, nat_lit 955, nat_lit 956, nat_lit 958, nat_lit 959, nat_lit 960, nat_lit 961, nat_lit 962, nat_lit 963, nat_lit 964, nat_lit 967, nat_lit 969, nat_lit 970, nat_lit 972, nat_lit 973, nat_lit 974, nat_lit 976, nat_lit 977, nat_lit 979, nat_lit 980, nat_lit 981, nat_lit 984, nat_lit 985] (fun _ => by kernel_rfl)
set_option Elab.async true in
theorem fin0 : PySem.Challenge.rw_bp0023_01.Holds := by
  w_on
  o_law
  o_head Mine.hk
  (case hw => w_witness2)
  w_top off
  k_go0
  (all_goals try k_fold)
  rename Below _ _ _ _ => K9
  rename Fr _ _ _ _ => F9
  rename News _ _ _ _ => N9
  rename CodeHd _ _ _ => C9
  rename Heap.IsList _ _ _ => hl9
  rename Frag.In _ _ => X9
  rename Top _ _ _ _ _ _ => T9
  rename IntsAre _ _ => I9
  rename CellsAre _ _ _ => CA
  rename PySem.Shared.gens _ = _ => hg9
  rename_i hh tk9 oc3 oc2 oc1 dd3 dd2 dd1 l0
  clear CA
  refine' law_pre (dp := callerA.depth + 1) (un := callerA.units + 3) (gd := callerA.guards) pg_ok K9 ?F X9 T9 C9 dep_ok unt_ok ?nd N9 ?h1 ?h2 ?h3 hl9 I9 ?hln ?hE ?ret
  case F => exact F9
  case nd =>
    have n1 : ∀ x : Nat, x + 1 + 1 + 1 ≠ x + 1 + 1 ∧ x + 1 + 1 + 1 ≠ x + 1 ∧ x + 1 + 1 ≠ x + 1 := fun x => by omega
    have n2 : ∀ x : Nat, 975 < x → x + 1 + 1 + 1 ≠ 975 ∧ x + 1 + 1 ≠ 975 ∧ x + 1 ≠ 975 := fun x h => by omega
    exact nd4 (n1 _).1 (n1 _).2.1 (n2 _ l0).1 (n1 _).2.2 (n2 _ l0).2.1 (n2 _ l0).2.2
  case h1 => exact dd1
  case h2 => exact dd2
  case h3 => exact dd3
  case hln => omega
  case hE => passes_own
  case ret =>
    intro m' tb nw h' tk' F8 N8
    refine ⟨?good, GrownAt.of N8 (.head _), True.intro⟩
    case good =>
      refine goodW_bool F8 hg9 ?ra ?po
      case ra => exact fun _ => rfl
      case po => exact post_ok _
end Mine

set_option maxRecDepth 100000 in
set_option maxHeartbeats 0 in
theorem PySem.Challenge.cw_bp0023_01_holds : PySem.Challenge.rw_bp0023_01.Holds :=
  Mine.fin0
