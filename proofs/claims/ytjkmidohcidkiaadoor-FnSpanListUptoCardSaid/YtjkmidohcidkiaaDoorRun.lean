/- Plain: a text's parts between its commas; and the law of a list of durations that goes by steps: what the implementation may hold behind each step, what the reference wants, and that the two agree. No program in sight. -/
import Derived.Test.YtjkmidohcidkiaaDoorSteps
import Derived.Test.YtjkmidohcidkiaaDoorLead
namespace Go.Proofs.YtjkmidohcidkiaaDoor.Li
open Go.Proofs.YtjkmidohcidkiaaDoor.Sp

def commas : List UInt8 → List UInt8 → List (List UInt8)
  | cur, [] => [cur]
  | cur, b :: r => if b = 44 then cur :: commas [] r else commas (cur ++ [b]) r
theorem commas_skip (a : List UInt8) : ∀ (cur r : List UInt8), (44 : UInt8) ∉ a → commas cur (a ++ r) = commas (cur ++ a) r := by
  induction a with
  | nil => intro cur r _; simp
  | cons b a ih =>
    intro cur r h
    have hb : ¬ b = 44 := fun e => h (by simp [e])
    rw [List.cons_append, commas, if_neg hb, ih _ _ (fun e => h (List.mem_cons_of_mem _ e))]
    simp
theorem commas_none (a cur : List UInt8) (h : (44 : UInt8) ∉ a) : commas cur a = [cur ++ a] := by
  have := commas_skip a cur [] h
  rw [List.append_nil] at this
  rw [this, commas]
theorem commas_len (l : List UInt8) : ∀ cur, (commas cur l).length ≤ l.length + 1 := by
  induction l with
  | nil => intro cur; simp [commas]
  | cons b l ih =>
    intro cur
    rw [commas]
    split
    · have := ih []; simp; omega
    · have := ih (cur ++ [b]); simp; omega
theorem commas_small (l : List UInt8) : ∀ cur, ∀ x ∈ commas cur l, x.length ≤ cur.length + l.length := by
  induction l with
  | nil => intro cur x hx; simp [commas] at hx; subst hx; simp
  | cons b l ih =>
    intro cur x hx
    rw [commas] at hx
    split at hx
    · rcases List.mem_cons.1 hx with rfl | hx
      · omega
      · have := ih [] x hx; simp at this ⊢; omega
    · have := ih _ x hx; simp at this ⊢; omega

/-- The step of a cut text at a place. -/
theorem commas_at (l : List UInt8) (f k : Nat) (hf : f ≤ k) (hk : k < l.length) :
    commas ((l.take k).drop f) (l.drop k) = if l[k] = 44 then (l.take k).drop f :: commas [] (l.drop (k + 1)) else commas ((l.take (k + 1)).drop f) (l.drop (k + 1)) := by
  rw [List.drop_eq_getElem_cons hk, commas]
  split
  · rfl
  · congr 1
    rw [List.take_succ_eq_append_getElem hk, List.drop_append_of_le_length (by rw [List.length_take]; omega)]

end Go.Proofs.YtjkmidohcidkiaaDoor.Li

namespace Go.Proofs.YtjkmidohcidkiaaDoor.Li
open Go.Proofs.YtjkmidohcidkiaaDoor.Sp

inductive EachR where
  | fits (vs : List Int)
  | bad (code : Int)
def eachR : List (List UInt8) → EachR
  | [] => .fits []
  | t :: r => match spanR t with
    | .fit v => match eachR r with
      | .fits vs => .fits (v :: vs)
      | .bad c => .bad c
    | .wrong => .bad 2
    | .opn => .bad 0

/-- What the implementation may make of some texts: values, or an error. -/
def ImplOut (l : List (List UInt8)) (vs : List Int) (err : Bool) : Prop :=
  (err = false ∧ vs.length = l.length ∧ ∀ (i : Nat) (t : List UInt8) (v : Int), l[i]? = some t → vs[i]? = some v → spanR t = .fit v ∨ spanR t = .opn) ∨
  (err = true ∧ ∃ (i : Nat) (t : List UInt8), l[i]? = some t ∧ NoFit (spanR t) ∧ ∀ (j : Nat) (u : List UInt8), j < i → l[j]? = some u → (∃ v, spanR u = .fit v) ∨ spanR u = .opn)

theorem eachR_fits (l : List (List UInt8)) : ∀ ws, eachR l = .fits ws → ws.length = l.length ∧ ∀ (i : Nat) (t : List UInt8), l[i]? = some t → ∃ v, ws[i]? = some v ∧ spanR t = .fit v := by
  induction l with
  | nil => intro ws h; cases h; exact ⟨rfl, fun i t ht => by simp at ht⟩
  | cons t r ih =>
    intro ws h
    rw [eachR] at h
    split at h
    · rename_i v hv
      split at h
      · rename_i vs hvs
        cases h
        obtain ⟨h1, h2⟩ := ih vs hvs
        refine ⟨by simp [h1], fun i u hu => ?_⟩
        cases i with
        | zero => simp at hu; subst hu; exact ⟨v, rfl, hv⟩
        | succ i => simpa using h2 i u (by simpa using hu)
      · cases h
    · cases h
    · cases h
theorem eachR_bad (l : List (List UInt8)) : ∀ c, eachR l = .bad c → ∃ (i : Nat) (t : List UInt8), l[i]? = some t ∧ ((c = 2 ∧ spanR t = .wrong) ∨ (c = 0 ∧ spanR t = .opn)) ∧ ∀ (j : Nat) (u : List UInt8), j < i → l[j]? = some u → ∃ v, spanR u = .fit v := by
  induction l with
  | nil => intro c h; cases h
  | cons t r ih =>
    intro c h
    rw [eachR] at h
    split at h
    · rename_i v hv
      split at h
      · cases h
      · rename_i c' hc
        cases h
        obtain ⟨i, u, h1, h2, h3⟩ := ih c hc
        refine ⟨i + 1, u, by simpa using h1, h2, fun j x hj hx => ?_⟩
        cases j with
        | zero => simp at hx; subst hx; exact ⟨v, hv⟩
        | succ j => exact h3 j x (by omega) (by simpa using hx)
    · rename_i hv
      cases h
      exact ⟨0, t, rfl, .inl ⟨rfl, hv⟩, fun j u hj => by omega⟩
    · rename_i hv
      cases h
      exact ⟨0, t, rfl, .inr ⟨rfl, hv⟩, fun j u hj => by omega⟩

theorem impl_fits {l : List (List UInt8)} {vs ws : List Int} {err : Bool} (h : eachR l = .fits ws) (hi : ImplOut l vs err) : err = false ∧ vs = ws := by
  obtain ⟨h1, h2⟩ := eachR_fits l ws h
  rcases hi with ⟨he, hl, hv⟩ | ⟨_, i, t, ht, hno, _⟩
  · refine ⟨he, List.ext_getElem? fun i => ?_⟩
    rcases Nat.lt_or_ge i l.length with hlt | hge
    · obtain ⟨v, hw, hs⟩ := h2 i l[i] (List.getElem?_eq_getElem hlt)
      have hv' := hv i l[i] _ (List.getElem?_eq_getElem hlt) (List.getElem?_eq_getElem (show i < vs.length by omega))
      rw [hs] at hv'
      rcases hv' with e | e
      · injection e with e
        rw [hw, List.getElem?_eq_getElem (show i < vs.length by omega), e]
      · cases e
    · rw [List.getElem?_eq_none (by omega), List.getElem?_eq_none (by omega)]
  · obtain ⟨v, _, hs⟩ := h2 i t ht
    exact absurd hs (hno v)
theorem impl_wrong {l : List (List UInt8)} {vs : List Int} {err : Bool} (h : eachR l = .bad 2) (hi : ImplOut l vs err) : err = true := by
  obtain ⟨i, t, ht, hc, _⟩ := eachR_bad l 2 h
  have hw : spanR t = .wrong := by
    rcases hc with ⟨_, h⟩ | ⟨h, _⟩
    · exact h
    · exact absurd h (by decide)
  rcases hi with ⟨_, hl, hv⟩ | ⟨he, _⟩
  · have hlt : i < l.length := (List.getElem?_eq_some_iff.1 ht).1
    have := hv i t _ ht (List.getElem?_eq_getElem (show i < vs.length by omega))
    rw [hw] at this
    rcases this with e | e <;> cases e
  · exact he

structure StepV where
  op : Int
  text : ByteArray
  texts : List ByteArray
def told (x : StepV) : Prop := 0 ≤ x.op ∧ x.op ≤ 2
instance (x : StepV) : Decidable (told x) := inferInstanceAs (Decidable (_ ∧ _))
def partsOf (x : StepV) : List (List UInt8) := if x.op = 0 then commas [] (bl x.text) else if x.op = 1 then [bl x.text] else x.texts.map bl
/-- The list behind a step that took values. -/
def into (x : StepV) (it : List Int) (ch : Bool) (vs : List Int) : List Int := if x.op = 2 ∨ (x.op = 0 ∧ ch = false) then vs else it ++ vs
def IStep (x : StepV) (it : List Int) (ch : Bool) (err : Bool) (it' : List Int) (ch' : Bool) : Prop :=
  ∃ vs, ImplOut (partsOf x) vs err ∧ ((err = true ∧ it' = it ∧ ch' = ch) ∨ (err = false ∧ it' = into x it ch vs ∧ ch' = (ch || decide (x.op = 0))))
def WStep (x : StepV) (it : List Int) (ch : Bool) (err : Bool) (it' : List Int) (ch' : Bool) : Prop :=
  (∃ vs, eachR (partsOf x) = .fits vs ∧ err = false ∧ it' = into x it ch vs ∧ ch' = (ch || decide (x.op = 0))) ∨ (eachR (partsOf x) = .bad 2 ∧ err = true ∧ it' = it ∧ ch' = ch)

inductive IRun (S : StepV → List Int → Bool → Bool → List Int → Bool → Prop) (df : List Int) (l : List StepV) : Nat → List Int → Bool → List (Bool × List Int) → Prop where
  | nil : IRun S df l 0 df false []
  | skip {k it ch R x} (h : IRun S df l k it ch R) (hx : l[k]? = some x) (hn : ¬ told x) : IRun S df l (k + 1) it ch R
  | step {k it ch R x e it' ch'} (h : IRun S df l k it ch R) (hx : l[k]? = some x) (ht : told x) (hs : S x it ch e it' ch') : IRun S df l (k + 1) it' ch' (R ++ [(e, it')])

theorem step_agree {x : StepV} {it : List Int} {ch e1 e2 : Bool} {i1 i2 : List Int} {c1 c2 : Bool} (h1 : IStep x it ch e1 i1 c1) (h2 : WStep x it ch e2 i2 c2) : e1 = e2 ∧ i1 = i2 ∧ c1 = c2 := by
  obtain ⟨vs, hi, h⟩ := h1
  rcases h2 with ⟨ws, hw, rfl, rfl, rfl⟩ | ⟨hw, rfl, rfl, rfl⟩
  · obtain ⟨rfl, rfl⟩ := impl_fits hw hi
    rcases h with ⟨h, _⟩ | ⟨_, rfl, rfl⟩
    · cases h
    · exact ⟨rfl, rfl, rfl⟩
  · obtain rfl := impl_wrong hw hi
    rcases h with ⟨_, rfl, rfl⟩ | ⟨h, _⟩
    · exact ⟨rfl, rfl, rfl⟩
    · cases h

theorem run_agree {df : List Int} {l : List StepV} {k : Nat} {i2 : List Int} {c2 : Bool} {R2 : List (Bool × List Int)} (h2 : IRun WStep df l k i2 c2 R2) :
    ∀ {i1 c1 R1}, IRun IStep df l k i1 c1 R1 → i1 = i2 ∧ c1 = c2 ∧ R1 = R2 := by
  induction h2 with
  | nil => intro i1 c1 R1 h1; cases h1; exact ⟨rfl, rfl, rfl⟩
  | skip h hx hn ih =>
    intro i1 c1 R1 h1
    cases h1 with
    | skip h' hx' hn' => exact ih h'
    | step h' hx' ht' hs' =>
      rw [hx] at hx'; cases hx'
      exact absurd ht' hn
  | step h hx ht hs ih =>
    intro i1 c1 R1 h1
    cases h1 with
    | skip h' hx' hn' =>
      rw [hx] at hx'; cases hx'
      exact absurd ht hn'
    | step h' hx' ht' hs' =>
      rw [hx] at hx'; cases hx'
      obtain ⟨rfl, rfl, rfl⟩ := ih h'
      obtain ⟨rfl, rfl, rfl⟩ := step_agree hs' hs
      exact ⟨rfl, rfl, rfl⟩

theorem run_pre {S : StepV → List Int → Bool → Bool → List Int → Bool → Prop} {df : List Int} {l : List StepV} {n : Nat} {it : List Int} {ch : Bool} {R : List (Bool × List Int)} (h : IRun S df l n it ch R) :
    ∀ k, k ≤ n → ∃ it' ch' R', IRun S df l k it' ch' R' ∧ R' <+: R := by
  induction h with
  | nil => intro k hk; obtain rfl : k = 0 := by omega
           exact ⟨_, _, _, .nil, List.prefix_refl _⟩
  | @skip n it ch R x h hx hn ih =>
    intro k hk
    by_cases e : k = n + 1
    · subst e; exact ⟨_, _, _, .skip h hx hn, List.prefix_refl _⟩
    · exact ih k (by omega)
  | @step n it ch R x e it' ch' h hx ht hs ih =>
    intro k hk
    by_cases e : k = n + 1
    · subst e; exact ⟨_, _, _, .step h hx ht hs, List.prefix_refl _⟩
    · obtain ⟨a, b, c, h1, h2⟩ := ih k (by omega)
      exact ⟨a, b, c, h1, h2.trans (List.prefix_append _ _)⟩

def cnt (l : List StepV) (k : Nat) : Nat := ((l.take k).filter (fun x => decide (told x))).length
theorem cnt_skip {l : List StepV} {k : Nat} {x : StepV} (hx : l[k]? = some x) (hn : ¬ told x) : cnt l (k + 1) = cnt l k := by
  obtain ⟨hk, rfl⟩ := List.getElem?_eq_some_iff.1 hx
  rw [cnt, cnt, List.take_succ_eq_append_getElem hk, List.filter_append]
  simp [hn]
theorem cnt_step {l : List StepV} {k : Nat} {x : StepV} (hx : l[k]? = some x) (ht : told x) : cnt l (k + 1) = cnt l k + 1 := by
  obtain ⟨hk, rfl⟩ := List.getElem?_eq_some_iff.1 hx
  rw [cnt, cnt, List.take_succ_eq_append_getElem hk, List.filter_append]
  simp [ht]
theorem cnt_le (l : List StepV) (k : Nat) : cnt l k ≤ k := by
  unfold cnt
  refine Nat.le_trans (List.length_filter_le _ _) ?_
  rw [List.length_take]; omega
theorem run_len {S : StepV → List Int → Bool → Bool → List Int → Bool → Prop} {df : List Int} {l : List StepV} {n : Nat} {it : List Int} {ch : Bool} {R : List (Bool × List Int)} (h : IRun S df l n it ch R) : R.length = cnt l n := by
  induction h with
  | nil => rfl
  | skip h hx hn ih => rw [cnt_skip hx hn]; exact ih
  | step h hx ht hs ih => rw [cnt_step hx ht, List.length_append, ih]; rfl

/-- How long a list can become. -/
def cost (x : StepV) : Nat := x.text.size + 1 + x.texts.length
def room (df : List Int) (l : List StepV) (k : Nat) : Nat := df.length + ((l.take k).map cost).sum
theorem room_step {df : List Int} {l : List StepV} {k : Nat} {x : StepV} (hx : l[k]? = some x) : room df l (k + 1) = room df l k + cost x := by
  obtain ⟨hk, rfl⟩ := List.getElem?_eq_some_iff.1 hx
  rw [room, room, List.take_succ_eq_append_getElem hk, List.map_append, List.sum_append]
  simp; omega
theorem parts_cost (x : StepV) : (partsOf x).length ≤ cost x := by
  unfold partsOf cost
  split
  · have := commas_len (bl x.text) []; rw [bl_len] at this; omega
  · split
    · simp
      omega
    · simp
theorem room_le {df : List Int} {l : List StepV} : ∀ {k : Nat}, k ≤ l.length → room df l k ≤ room df l l.length := by
  intro k hk
  obtain ⟨d, hd⟩ := Nat.le.dest hk
  induction d generalizing k with
  | zero => obtain rfl : k = l.length := by omega
            exact Nat.le_refl _
  | succ d ih =>
    have hlt : k < l.length := by omega
    have := room_step (df := df) (List.getElem?_eq_getElem hlt)
    have := ih (k := k + 1) (by omega) (by omega)
    omega
theorem into_len {x : StepV} {it vs : List Int} {ch : Bool} {m : Nat} (h : it.length ≤ m) (hv : vs.length ≤ cost x) : (into x it ch vs).length ≤ m + cost x := by
  unfold into
  split
  · omega
  · rw [List.length_append]; omega
theorem istep_len {x : StepV} {it it' : List Int} {ch e ch' : Bool} {m : Nat} (h : IStep x it ch e it' ch') (hl : it.length ≤ m) : it'.length ≤ m + cost x := by
  obtain ⟨vs, hi, ⟨_, rfl, _⟩ | ⟨rfl, rfl, _⟩⟩ := h
  · omega
  · rcases hi with ⟨_, hv, _⟩ | ⟨h, _⟩
    · exact into_len hl (by have := parts_cost x; omega)
    · cases h
theorem wstep_len {x : StepV} {it it' : List Int} {ch e ch' : Bool} {m : Nat} (h : WStep x it ch e it' ch') (hl : it.length ≤ m) : it'.length ≤ m + cost x := by
  rcases h with ⟨vs, hv, _, rfl, _⟩ | ⟨_, _, rfl, _⟩
  · exact into_len hl (by rw [(eachR_fits _ _ hv).1]; exact parts_cost x)
  · omega
theorem run_room {S : StepV → List Int → Bool → Bool → List Int → Bool → Prop} (hS : ∀ {x it ch e it' ch' m}, S x it ch e it' ch' → it.length ≤ m → it'.length ≤ m + cost x) {df : List Int} {l : List StepV} {n : Nat} {it : List Int} {ch : Bool} {R : List (Bool × List Int)} (h : IRun S df l n it ch R) : it.length ≤ room df l n := by
  induction h with
  | nil => simp [room]
  | skip h hx hn ih => rw [room_step hx]; omega
  | step h hx ht hs ih => rw [room_step hx]; exact hS hs ih
end Go.Proofs.YtjkmidohcidkiaaDoor.Li
