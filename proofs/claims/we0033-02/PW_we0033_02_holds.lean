import PyProof.Rows.All
import Wide.All
import OpenK.AllK
import Wide.FinOn
import Open.Head
import Lean
import PySem.Challenge.RW_we0033_02
set_option maxRecDepth 1000000
set_option maxHeartbeats 0
set_option linter.all false
set_option Elab.async false
set_option genSizeOf false
set_option genSizeOfSpec false
set_option genInjectivity false
section
namespace Mine
open PySem PySem.W PySem.W.X
set_option genInjectivity true in
inductive V where
  | n (a : Nat)
  | c (c : Code)
  | o (o : Obj)
  | v (v : Value)
noncomputable abbrev Cells := List (Nat × Obj)
noncomputable def gt : Cells → Nat → Option (Nat × Obj)
  | [], _ => none
  | x :: _, 0 => some x
  | _ :: r, i + 1 => gt r i
noncomputable def st : Cells → Nat → Obj → Cells
  | [], _, _ => []
  | x :: r, 0, o => (x.1, o) :: r
  | x :: r, i + 1, o => x :: st r i o
theorem gt_mem : ∀ {l : Cells} {i : Nat} {x : Nat × Obj}, gt l i = some x → x ∈ l
  | [], _, _, h => by simp [gt] at h
  | y :: r, 0, x, h => by simp only [gt, Option.some.injEq] at h; subst h; exact .head _
  | y :: r, i + 1, x, h => .tail _ (gt_mem (l := r) (i := i) h)
theorem st_keys : ∀ (l : Cells) (i : Nat) (o : Obj), (st l i o).map (·.1) = l.map (·.1)
  | [], _, _ => rfl
  | _ :: _, 0, _ => rfl
  | _ :: r, i + 1, o => by simp only [st, List.map_cons, st_keys r i o]
theorem st_mem : ∀ {l : Cells} {i : Nat} {o : Obj} {y : Nat × Obj}, (l.map (·.1)).Nodup → gt l i = some y → ∀ {x}, x ∈ st l i o → (x.1 = y.1 ∧ x.2 = o) ∨ (x ∈ l ∧ x.1 ≠ y.1)
  | [], _, _, _, _, h, _, _ => by simp [gt] at h
  | z :: r, 0, o, y, hn, h, x, hx => by
    simp only [gt, Option.some.injEq] at h
    subst h
    simp only [st, List.mem_cons] at hx
    simp only [List.map_cons, List.nodup_cons] at hn
    rcases hx with rfl | hx
    · exact .inl ⟨rfl, rfl⟩
    · exact .inr ⟨.tail _ hx, fun e => hn.1 (e ▸ List.mem_map_of_mem hx)⟩
  | z :: r, i + 1, o, y, hn, h, x, hx => by
    simp only [gt] at h
    simp only [st, List.mem_cons] at hx
    simp only [List.map_cons, List.nodup_cons] at hn
    rcases hx with rfl | hx
    · exact .inr ⟨.head _, fun e => hn.1 (e ▸ List.mem_map_of_mem (gt_mem h))⟩
    · rcases st_mem hn.2 h hx with q | ⟨q, q'⟩
      · exact .inl q
      · exact .inr ⟨.tail _ q, q'⟩
structure SS where
  T : Cells
  b : Nat
  j : Nat
  tb : Nat
  ti : Nat
structure KF where
  Γ : Ctx
  p : Pos
  k : Result → Sem Fin
structure Out where
  r : Result
  S : SS
  hs : List Nat
  ω : Nat → Nat
  acc : List (V × V)
  cs : List Prop
noncomputable abbrev Rule := Ctx → Code → SS → List Nat → (Nat → Nat) → List (V × V) → List Prop → Option Out
structure Fixed where
  den : Code → Sem Fin
  quiet : Code → Bool
  prog : Program
  par : Params
  kt : KT
  rules : Nat → Rule
noncomputable def alive (o : Obj) : Bool := match o.data with
  | .freed => false
  | _ => true
noncomputable def ev (F : Fixed) : Nat → Ctx → Pos → Sem Fin → List KF → SS → List Nat → (Nat → Nat) → List (V × V) → List Prop → Option Out
  | 0, _, _, _, _, _, _, _, _, _ => none
  | n + 1, Γ, p, t, κ, S, hs, ω, acc, cs => match t with
    | .pure f => match f with
      | .done f => match κ with
        | [] => some ⟨.ok f, S, hs, ω, acc, cs⟩
        | K :: κ => ev F n K.Γ K.p (K.k (.ok f)) κ S hs ω acc cs
      | .again c => match F.quiet c with
        | false => none
        | true => match hs with
          | [] => none
          | h :: hs => match h with
            | 0 => ev F n (Γ.goto c) p (F.den c) κ S hs ω acc cs
            | r + 1 => match F.rules r (Γ.goto c) c S hs ω acc cs with
              | none => none
              | some o => match κ with
                | [] => some o
                | K :: κ => ev F n K.Γ K.p (K.k o.r) κ o.S o.hs o.ω o.acc o.cs
    | .raise e => match κ with
      | [] => some ⟨.error e, S, hs, ω, acc, cs⟩
      | K :: κ => ev F n K.Γ K.p (K.k (.error e)) κ S hs ω acc cs
    | .rule _ k => ev F n Γ p (k ()) κ S hs ω acc cs
    | .at q k => ev F n Γ q (k ()) κ S hs ω acc cs
    | .point _ k => ev F n Γ p (k ()) κ S hs ω acc cs
    | .ask k => ev F n Γ p (k ⟨F.prog, F.par⟩) κ S hs ω acc cs
    | .handled own k => ev F n Γ p (k (if own then Γ.own else Γ.handled)) κ S hs ω acc cs
    | .stack k => ev F n Γ p (k ((Γ.code, p) :: Γ.below)) κ S hs ω acc cs
    | .fresh k => ev F n Γ p (k (S.tb + S.ti)) κ ⟨S.T, S.b, S.j, S.tb, S.ti + 1⟩ hs ω acc cs
    | .load a _ k => match hs with
      | [] => none
      | h :: hs => match h with
        | 0 => match F.kt.get a with
          | some o => ev F n Γ p (k o) κ S hs ω acc cs
          | none => none
        | i + 1 => match gt S.T i with
          | some x => ev F n Γ p (k x.2) κ S hs ω ((.n a, .n x.1) :: acc) cs
          | none => none
    | .loadIfAlive a k => match hs with
      | [] => none
      | h :: hs => match h with
        | 0 => match F.kt.get a with
          | some o => ev F n Γ p (k (some o)) κ S hs ω acc cs
          | none => none
        | i + 1 => match gt S.T i with
          | some x => ev F n Γ p (k (some x.2)) κ S hs ω ((.n a, .n x.1) :: acc) cs
          | none => none
    | .update a _ f k => match hs with
      | [] => none
      | h :: hs => match h with
        | 0 => none
        | i + 1 => match gt S.T i with
          | some x => match alive (f x.2) with
            | true => ev F n Γ p (k ()) κ ⟨st S.T i (f x.2), S.b, S.j, S.tb, S.ti⟩ hs ω ((.n a, .n x.1) :: acc) cs
            | false => none
          | none => none
    | .alloc o k => match alive o with
      | true => ev F n Γ p (k (S.b + S.j)) κ ⟨(S.b + S.j, o) :: S.T, S.b, S.j + 1, S.tb, S.ti⟩ hs ω acc cs
      | false => none
    | .call c h _ _ k => match hs with
      | [] => none
      | h' :: hs => match h' with
        | 0 => ev F n (Γ.enter c h p) p (F.den c) (⟨Γ, p, k⟩ :: κ) S hs ω acc cs
        | r + 1 => match F.rules r (Γ.enter c h p) c S hs ω acc cs with
          | none => none
          | some o => ev F n Γ p (k o.r) κ o.S o.hs o.ω o.acc o.cs
    | .unsupported _ => none
    | .finish _ => none
    | .register .. => none
    | .choose .. => none
    | .os .. => none
    | .newGen .. => none
    | .genState .. => none
    | .resume .. => none
    | .yield .. => none
    | .fork .. => none
    | .thread _ => none
    | .await .. => none
structure World0 where
  M : Model
  kt : KT
  P0 : Nat
  h0 : Heap
  X : List Nat
  G : Array GenState
  D : Drawn
  O : OsState
structure Rep (E : World0) (S : SS) (s : Shared) : Prop where
  size : s.heap.objs.size = S.b + S.j
  toks : s.toks = S.tb + S.ti
  cell : ∀ x ∈ S.T, s.heap.get? x.1 = some x.2
  nodup : (S.T.map (·.1)).Nodup
  own : ∀ x ∈ S.T, E.P0 ≤ x.1 ∧ (x.1 ∈ E.X ∨ E.h0.get? x.1 = none)
  known : ∀ i o, E.kt.get i = some o → i < E.P0 ∧ s.heap.get? i = some o
  keep : ∀ b o, E.h0.get? b = some o → b ∉ E.X → s.heap.get? b = some o
  low : E.P0 ≤ S.b + S.j
  old : E.h0.objs.size ≤ S.b + S.j
  gens : s.gens = E.G
  drawn : s.drawn = E.D
  os : s.os = E.O
theorem alive_free {o : Obj} (h : alive o = true) : o.isFreed = false := by
  unfold alive at h
  unfold Obj.isFreed
  split <;> simp_all
noncomputable def mix (x ω : Nat → Nat) : Nat → Nat := fun i => if i < 16 then x i else ω (i - 16)
noncomputable def shift (ω : Nat → Nat) : Nat → Nat := fun i => ω (i + 16)
theorem shift_mix (x ω : Nat → Nat) : shift (mix x ω) = ω := by
  funext i
  unfold shift mix
  rw [if_neg (by omega)]
  congr 1
noncomputable def Sub {α : Type} (a b : List α) : Prop := ∀ x ∈ a, x ∈ b
noncomputable def Holds (o : Out) : Prop := (∀ q ∈ o.acc, q.1 = q.2) ∧ ∀ q ∈ o.cs, q
structure Valid (E : World0) (ru : Rule) : Prop where
  grow : ∀ {Γ c S hs ω acc cs o}, ru Γ c S hs ω acc cs = some o → Sub acc o.acc ∧ ∀ q ∈ cs, q ∈ o.cs
  says : ∀ {Γ : Ctx} {c S hs acc cs p s}, Γ.code = c → Rep E S s → (∀ ω, ∃ o, ru Γ c S hs ω acc cs = some o ∧ Holds o) →
    wpCode E.M Γ (fun r s' => ∃ (x : Nat → Nat) (o : Out), (∀ ω, ru Γ c S hs (mix x ω) acc cs = some ⟨o.r, o.S, o.hs, ω, o.acc, o.cs⟩) ∧ o.r = r ∧ Rep E o.S s') p s
noncomputable def wpK (M : Model) (R : Result → Shared → Prop) : List KF → Result → Shared → Prop
  | [], r, s => R r s
  | K :: κ, r, s => Sem.wp M K.Γ (K.k r) (Sem.finPost M K.Γ (wpK M R κ)) (fun e _ s' => wpK M R κ (.error e) s') K.p s
section
variable {E : World0} {F : Fixed}
theorem ev_grow (hv : ∀ r, Valid E (F.rules r)) : ∀ (n : Nat) (Γ : Ctx) (p : Pos) (t : Sem Fin) (κ : List KF) (S : SS) (hs : List Nat) (ω : Nat → Nat) (acc : List (V × V)) (cs : List Prop) (o : Out),
    ev F n Γ p t κ S hs ω acc cs = some o → Sub acc o.acc ∧ ∀ q ∈ cs, q ∈ o.cs := by
  intro n
  induction n with
  | zero => intro Γ p t κ S hs ω acc cs o h; simp [ev] at h
  | succ n ih =>
    intro Γ p t κ S hs ω acc cs o h
    cases t with
    | pure f =>
      cases f with
      | done f =>
        cases κ with
        | nil => simp only [ev, Option.some.injEq] at h; subst h; exact ⟨fun _ q => q, fun _ q => q⟩
        | cons K κ => exact ih _ _ _ _ _ _ _ _ _ _ h
      | again c =>
        simp only [ev] at h
        split at h
        · cases h
        · split at h
          · cases h
          · split at h
            · exact ih _ _ _ _ _ _ _ _ _ _ h
            · split at h
              · cases h
              · rename_i o' e
                obtain ⟨g1, g2⟩ := (hv _).grow e
                split at h
                · cases h; exact ⟨g1, g2⟩
                · obtain ⟨g3, g4⟩ := ih _ _ _ _ _ _ _ _ _ _ h
                  exact ⟨fun x q => g3 x (g1 x q), fun x q => g4 x (g2 x q)⟩
    | raise e =>
      cases κ with
      | nil => simp only [ev, Option.some.injEq] at h; subst h; exact ⟨fun _ q => q, fun _ q => q⟩
      | cons K κ => exact ih _ _ _ _ _ _ _ _ _ _ h
    | rule _ k => exact ih _ _ _ _ _ _ _ _ _ _ h
    | «at» _ k => exact ih _ _ _ _ _ _ _ _ _ _ h
    | point _ k => exact ih _ _ _ _ _ _ _ _ _ _ h
    | ask k => exact ih _ _ _ _ _ _ _ _ _ _ h
    | handled own k => exact ih _ _ _ _ _ _ _ _ _ _ h
    | stack k => exact ih _ _ _ _ _ _ _ _ _ _ h
    | fresh k => exact ih _ _ _ _ _ _ _ _ _ _ h
    | load a q k =>
      simp only [ev] at h
      split at h
      · cases h
      · split at h
        · split at h
          · exact ih _ _ _ _ _ _ _ _ _ _ h
          · cases h
        · split at h
          · obtain ⟨g3, g4⟩ := ih _ _ _ _ _ _ _ _ _ _ h
            exact ⟨fun x q => g3 x (.tail _ q), g4⟩
          · cases h
    | loadIfAlive a k =>
      simp only [ev] at h
      split at h
      · cases h
      · split at h
        · split at h
          · exact ih _ _ _ _ _ _ _ _ _ _ h
          · cases h
        · split at h
          · obtain ⟨g3, g4⟩ := ih _ _ _ _ _ _ _ _ _ _ h
            exact ⟨fun x q => g3 x (.tail _ q), g4⟩
          · cases h
    | update a q f k =>
      simp only [ev] at h
      split at h
      · cases h
      · split at h
        · cases h
        · split at h
          · split at h
            · obtain ⟨g3, g4⟩ := ih _ _ _ _ _ _ _ _ _ _ h
              exact ⟨fun x q => g3 x (.tail _ q), g4⟩
            · cases h
          · cases h
    | alloc o' k =>
      simp only [ev] at h
      split at h
      · exact ih _ _ _ _ _ _ _ _ _ _ h
      · cases h
    | call c hd g l k =>
      simp only [ev] at h
      split at h
      · cases h
      · split at h
        · exact ih _ _ _ _ _ _ _ _ _ _ h
        · split at h
          · cases h
          · rename_i o' e
            obtain ⟨g1, g2⟩ := (hv _).grow e
            obtain ⟨g3, g4⟩ := ih _ _ _ _ _ _ _ _ _ _ h
            exact ⟨fun x q => g3 x (g1 x q), fun x q => g4 x (g2 x q)⟩
    | unsupported => simp [ev] at h
    | finish => simp [ev] at h
    | register => simp [ev] at h
    | choose => simp [ev] at h
    | os => simp [ev] at h
    | newGen => simp [ev] at h
    | genState => simp [ev] at h
    | resume => simp [ev] at h
    | yield => simp [ev] at h
    | fork => simp [ev] at h
    | thread => simp [ev] at h
    | await => simp [ev] at h
theorem Rep.fresh {S : SS} {s : Shared} (D : Rep E S s) : Rep E ⟨S.T, S.b, S.j, S.tb, S.ti + 1⟩ { s with toks := s.toks + 1 } :=
  ⟨D.size, by show s.toks + 1 = S.tb + (S.ti + 1); rw [D.toks]; omega, D.cell, D.nodup, D.own, D.known, D.keep, D.low, D.old, D.gens, D.drawn, D.os⟩
theorem Rep.alloc {S : SS} {s : Shared} (D : Rep E S s) {o : Obj} (ha : alive o = true) : Rep E ⟨(S.b + S.j, o) :: S.T, S.b, S.j + 1, S.tb, S.ti⟩ { s with heap := s.heap.push o } := by
  have hf := alive_free ha
  refine ⟨?_, D.toks, ?_, ?_, ?_, ?_, ?_, ?_, ?_, D.gens, D.drawn, D.os⟩
  · show (s.heap.push o).objs.size = S.b + (S.j + 1)
    have := Heap.size_push s.heap o
    rw [this, D.size]; omega
  · intro x hx
    simp only [List.mem_cons] at hx
    rcases hx with rfl | hx
    · show (s.heap.push o).get? (S.b + S.j) = some o
      rw [← D.size]; exact Heap.get?_push_size _ hf
    · exact Heap.get?_push_of_some _ (D.cell x hx)
  · simp only [List.map_cons, List.nodup_cons]
    refine ⟨fun hm => ?_, D.nodup⟩
    obtain ⟨y, hy, e⟩ := List.mem_map.mp hm
    have := Heap.lt_size (D.cell y hy)
    rw [D.size, e] at this
    exact absurd this (Nat.lt_irrefl _)
  · intro x hx
    simp only [List.mem_cons] at hx
    rcases hx with rfl | hx
    · refine ⟨D.low, .inr ?_⟩
      cases q : E.h0.get? (S.b + S.j) with
      | none => rfl
      | some o' => exact absurd (Heap.lt_size q) (Nat.not_lt.mpr D.old)
    · exact D.own x hx
  · intro i o' e
    exact ⟨(D.known i o' e).1, Heap.get?_push_of_some _ (D.known i o' e).2⟩
  · intro b o' e hb
    exact Heap.get?_push_of_some _ (D.keep b o' e hb)
  · show E.P0 ≤ S.b + (S.j + 1); have := D.low; omega
  · show E.h0.objs.size ≤ S.b + (S.j + 1); have := D.old; omega
theorem Rep.update {S : SS} {s : Shared} (D : Rep E S s) {i : Nat} {x : Nat × Obj} {f : Obj → Obj} (hi : gt S.T i = some x) (ha : alive (f x.2) = true) :
    Rep E ⟨st S.T i (f x.2), S.b, S.j, S.tb, S.ti⟩ { s with heap := s.heap.update x.1 f } := by
  have hf := alive_free ha
  have hm := gt_mem hi
  have hx := D.cell x hm
  have ge : (s.heap.update x.1 f).get? x.1 = some (f x.2) := by first | exact Heap.get?_update_self f hx hf | exact Heap.get?_update_self _ hx hf
  have ne : ∀ b, b ≠ x.1 → (s.heap.update x.1 f).get? b = s.heap.get? b := fun b hb => Heap.get?_update_ne _ _ _ _ hb
  refine ⟨?_, D.toks, ?_, ?_, ?_, ?_, ?_, D.low, D.old, D.gens, D.drawn, D.os⟩
  · show (s.heap.update x.1 f).objs.size = _
    rw [← D.size]
    exact Heap.size_update ..
  · intro y hy
    rcases st_mem D.nodup hi hy with ⟨e1, e2⟩ | ⟨hy, hn⟩
    · rw [e1, e2]; exact ge
    · exact (ne _ hn).trans (D.cell y hy)
  · show ((st S.T i (f x.2)).map (·.1)).Nodup
    rw [st_keys]; exact D.nodup
  · intro y hy
    rcases st_mem D.nodup hi hy with ⟨e1, e2⟩ | ⟨hy, _⟩
    · rw [e1]; exact D.own x hm
    · exact D.own y hy
  · intro b o e
    refine ⟨(D.known b o e).1, (ne b ?_).trans (D.known b o e).2⟩
    intro q
    have h1 := (D.known b o e).1
    have h2 := (D.own x hm).1
    omega
  · intro b o e hb
    refine (ne b ?_).trans (D.keep b o e hb)
    intro q
    rcases (D.own x hm).2 with h | h
    · exact hb (q ▸ h)
    · rw [← q, e] at h; cases h
theorem ev_sound (hv : ∀ r, Valid E (F.rules r)) (hden : ∀ c, E.M.den c = F.den c) (hq : ∀ c, F.quiet c = true → c.quiet = true) (hprog : F.prog = E.M.prog) (hpar : F.par = E.M.w.params) (hkt : F.kt = E.kt)
    {R : Result → Shared → Prop} {Fn : Out → Prop} (hR : ∀ o s, Fn o → Rep E o.S s → R o.r s) :
    ∀ (n : Nat) (Γ : Ctx) (p : Pos) (t : Sem Fin) (κ : List KF) (S : SS) (hs : List Nat) (acc : List (V × V)) (cs : List Prop),
      (∀ ω, ∃ o, ev F n Γ p t κ S hs ω acc cs = some o ∧ Holds o ∧ Fn o) → ∀ s, Rep E S s →
      Sem.wp E.M Γ t (Sem.finPost E.M Γ (wpK E.M R κ)) (fun e _ s' => wpK E.M R κ (.error e) s') p s := by
  intro n
  induction n with
  | zero =>
    intro Γ p t κ S hs acc cs h s _
    obtain ⟨o, e, _⟩ := h fun _ => 0
    simp [ev] at e
  | succ n ih =>
    intro Γ p t κ S hs acc cs h s D
    have h0 := h fun _ => 0
    -- a code's rule
    have hrule : ∀ (r : Nat) (Γ' : Ctx) (c : Code) (hs : List Nat) (κ' : List KF) (p' : Pos) (Q : Result → Shared → Prop) (cont : Out → Option Out),
        Γ'.code = c → (∀ ω, ∃ o, (match F.rules r Γ' c S hs ω acc cs with | none => none | some o => cont o) = some o ∧ Holds o ∧ Fn o) →
        (∀ o o', cont o = some o' → Sub o.acc o'.acc ∧ ∀ q ∈ o.cs, q ∈ o'.cs) →
        (∀ (o : Out) s', (∀ ω, ∃ o', cont ⟨o.r, o.S, o.hs, ω, o.acc, o.cs⟩ = some o' ∧ Holds o' ∧ Fn o') → Rep E o.S s' → Q o.r s') →
        wpCode E.M Γ' Q p' s := by
      intro r Γ' c hs κ' p' Q cont hc hh hg hQ
      have hsay := (hv r).says (p := p') hc D (hs := hs) (acc := acc) (cs := cs) (fun ω => by
        obtain ⟨o', e, ⟨ha, hc'⟩, _⟩ := hh ω
        split at e
        · cases e
        · rename_i o eo
          obtain ⟨g1, g2⟩ := hg o o' e
          exact ⟨o, eo, fun q hq => ha q (g1 q hq), fun q hq => hc' q (g2 q hq)⟩)
      refine wpCode_mono ?_ hsay
      rintro r' s' ⟨x, o, hx, rfl, D'⟩
      refine hQ o s' (fun ω => ?_) D'
      obtain ⟨o', e, hH, hF⟩ := hh (mix x ω)
      rw [hx ω] at e
      exact ⟨o', e, hH, hF⟩
    cases t with
    | pure f =>
      cases f with
      | done f =>
        rw [Sem.wp_pure]
        show wpK E.M R κ (.ok f) s
        cases κ with
        | nil =>
          obtain ⟨o, e, hH, hF⟩ := h0
          simp only [ev, Option.some.injEq] at e
          subst e
          exact hR _ s hF D
        | cons K κ => exact ih _ _ _ _ _ _ _ _ h s D
      | again c =>
        rw [Sem.wp_pure]
        show c.quiet = true ∧ wpCode E.M (Γ.goto c) (wpK E.M R κ) p s
        cases hqc : F.quiet c with
        | false => obtain ⟨o, e, _⟩ := h0; simp [ev, hqc] at e
        | true =>
          refine ⟨hq c hqc, ?_⟩
          cases hs with
          | nil => obtain ⟨o, e, _⟩ := h0; simp [ev, hqc] at e
          | cons b hs =>
            cases b with
            | zero =>
              rw [wpCode_iff_wp]
              show Sem.wp E.M (Γ.goto c) (E.M.den c) (Sem.finPost E.M (Γ.goto c) (wpK E.M R κ)) (fun e _ s' => wpK E.M R κ (.error e) s') p s
              rw [hden]
              refine ih _ _ _ _ _ hs acc cs (fun ω => ?_) s D
              obtain ⟨o, e, z⟩ := h ω
              simp only [ev, hqc] at e
              exact ⟨o, e, z⟩
            | succ r =>
              refine hrule r (Γ.goto c) c hs κ p _ (fun o => match (generalizing := false) κ with | [] => some o | K :: κ => ev F n K.Γ K.p (K.k o.r) κ o.S o.hs o.ω o.acc o.cs) rfl (fun ω => ?_) (fun o o' e => ?_) (fun o s' ho D' => ?_)
              · obtain ⟨o, e, z⟩ := h ω
                simp only [ev, hqc] at e
                exact ⟨o, e, z⟩
              · cases κ with
                | nil => simp only [Option.some.injEq] at e; subst e; exact ⟨fun _ q => q, fun _ q => q⟩
                | cons K κ => exact ev_grow hv _ _ _ _ _ _ _ _ _ _ _ e
              · cases κ with
                | nil =>
                  obtain ⟨o', e, hH, hF⟩ := ho fun _ => 0
                  simp only [Option.some.injEq] at e
                  subst e
                  have z := hR _ s' hF D'
                  exact z
                | cons K κ => exact ih _ _ _ _ _ _ _ _ ho s' D'
    | raise e =>
      rw [Sem.wp_raise]
      cases κ with
      | nil =>
        obtain ⟨o, e, hH, hF⟩ := h0
        simp only [ev, Option.some.injEq] at e
        subst e
        exact hR _ s hF D
      | cons K κ => exact ih _ _ _ _ _ _ _ _ h s D
    | rule _ k => rw [Sem.wp_rule]; exact ih _ _ _ _ _ _ _ _ h s D
    | «at» _ k => rw [Sem.wp_at]; exact ih _ _ _ _ _ _ _ _ h s D
    | point _ k => rw [Sem.wp_point]; exact ih _ _ _ _ _ _ _ _ h s D
    | ask k =>
      rw [Sem.wp_ask, ← hprog, ← hpar]; exact ih _ _ _ _ _ _ _ _ h s D
    | handled own k => rw [Sem.wp_handled]; exact ih _ _ _ _ _ _ _ _ h s D
    | stack k => rw [Sem.wp_stack]; exact ih _ _ _ _ _ _ _ _ h s D
    | fresh k =>
      rw [Sem.wp_fresh, D.toks]
      have D' := D.fresh
      rw [D.toks] at D'
      exact ih _ _ _ _ _ _ _ _ h _ D'
    | load a q k =>
      rw [Sem.wp_load]
      cases hs with
      | nil => obtain ⟨o, e, _⟩ := h0; simp [ev] at e
      | cons b hs =>
        cases b with
        | zero =>
          cases hk : F.kt.get a with
          | none => obtain ⟨o, e, _⟩ := h0; simp [ev, hk] at e
          | some ob =>
            refine ⟨ob, (D.known a ob (hkt ▸ hk)).2, ih _ _ _ _ _ hs acc cs (fun ω => ?_) s D⟩
            obtain ⟨o, e, z⟩ := h ω
            simp only [ev, hk] at e
            exact ⟨o, e, z⟩
        | succ i =>
          cases hi : gt S.T i with
          | none => obtain ⟨o, e, _⟩ := h0; simp [ev, hi] at e
          | some x =>
            have hg : ∀ ω, ∃ o, ev F n Γ p (k x.2) κ S hs ω ((.n a, .n x.1) :: acc) cs = some o ∧ Holds o ∧ Fn o := fun ω => by
              obtain ⟨o, e, z⟩ := h ω
              simp only [ev, hi] at e
              exact ⟨o, e, z⟩
            obtain ⟨o, e, hH, _⟩ := hg fun _ => 0
            have ea := hH.1 _ ((ev_grow hv _ _ _ _ _ _ _ _ _ _ _ e).1 _ (.head _))
            simp only [V.n.injEq] at ea
            exact ⟨x.2, ea ▸ D.cell x (gt_mem hi), ih _ _ _ _ _ hs _ cs hg s D⟩
    | loadIfAlive a k =>
      rw [Sem.wp_loadIfAlive]
      cases hs with
      | nil => obtain ⟨o, e, _⟩ := h0; simp [ev] at e
      | cons b hs =>
        cases b with
        | zero =>
          cases hk : F.kt.get a with
          | none => obtain ⟨o, e, _⟩ := h0; simp [ev, hk] at e
          | some ob =>
            rw [(D.known a ob (hkt ▸ hk)).2]
            refine ih _ _ _ _ _ hs acc cs (fun ω => ?_) s D
            obtain ⟨o, e, z⟩ := h ω
            simp only [ev, hk] at e
            exact ⟨o, e, z⟩
        | succ i =>
          cases hi : gt S.T i with
          | none => obtain ⟨o, e, _⟩ := h0; simp [ev, hi] at e
          | some x =>
            have hg : ∀ ω, ∃ o, ev F n Γ p (k (some x.2)) κ S hs ω ((.n a, .n x.1) :: acc) cs = some o ∧ Holds o ∧ Fn o := fun ω => by
              obtain ⟨o, e, z⟩ := h ω
              simp only [ev, hi] at e
              exact ⟨o, e, z⟩
            obtain ⟨o, e, hH, _⟩ := hg fun _ => 0
            have ea := hH.1 _ ((ev_grow hv _ _ _ _ _ _ _ _ _ _ _ e).1 _ (.head _))
            simp only [V.n.injEq] at ea
            rw [ea, D.cell x (gt_mem hi)]
            exact ih _ _ _ _ _ hs _ cs hg s D
    | update a q f k =>
      rw [Sem.wp_update]
      cases hs with
      | nil => obtain ⟨o, e, _⟩ := h0; simp [ev] at e
      | cons b hs =>
        cases b with
        | zero => obtain ⟨o, e, _⟩ := h0; simp [ev] at e
        | succ i =>
          cases hi : gt S.T i with
          | none => obtain ⟨o, e, _⟩ := h0; simp [ev, hi] at e
          | some x =>
            cases ha : alive (f x.2) with
            | false => obtain ⟨o, e, _⟩ := h0; simp [ev, hi, ha] at e
            | true =>
              have hg : ∀ ω, ∃ o, ev F n Γ p (k ()) κ ⟨st S.T i (f x.2), S.b, S.j, S.tb, S.ti⟩ hs ω ((.n a, .n x.1) :: acc) cs = some o ∧ Holds o ∧ Fn o := fun ω => by
                obtain ⟨o, e, z⟩ := h ω
                simp only [ev, hi, ha] at e
                exact ⟨o, e, z⟩
              obtain ⟨o, e, hH, _⟩ := hg fun _ => 0
              have ea := hH.1 _ ((ev_grow hv _ _ _ _ _ _ _ _ _ _ _ e).1 _ (.head _))
              simp only [V.n.injEq] at ea
              rw [ea]
              refine ⟨by rw [D.cell x (gt_mem hi)]; rfl, ?_⟩
              rw [← ea]
              have D' := D.update hi ha
              rw [← ea] at D'
              exact ih _ _ _ _ _ hs _ cs hg _ D'
    | alloc o' k =>
      rw [Sem.wp_alloc]
      cases ha : alive o' with
      | false => obtain ⟨o, e, _⟩ := h0; simp [ev, ha] at e
      | true =>
        rw [D.size]
        refine ih _ _ _ _ _ hs acc cs (fun ω => ?_) _ (D.alloc ha)
        obtain ⟨o, e, z⟩ := h ω
        simp only [ev, ha] at e
        exact ⟨o, e, z⟩
    | call c hd g l k =>
      rw [Sem.wp_call]
      cases hs with
      | nil => obtain ⟨o, e, _⟩ := h0; simp [ev] at e
      | cons b hs =>
        cases b with
        | zero =>
          rw [wpCode_iff_wp]
          show Sem.wp E.M (Γ.enter c hd p) (E.M.den c) (Sem.finPost E.M (Γ.enter c hd p) (wpK E.M R (⟨Γ, p, k⟩ :: κ))) (fun e _ s' => wpK E.M R (⟨Γ, p, k⟩ :: κ) (.error e) s') p s
          rw [hden]
          refine ih _ _ _ _ _ hs acc cs (fun ω => ?_) s D
          obtain ⟨o, e, z⟩ := h ω
          simp only [ev] at e
          exact ⟨o, e, z⟩
        | succ r =>
          refine hrule r (Γ.enter c hd p) c hs κ p _ (fun o => ev F n Γ p (k o.r) κ o.S o.hs o.ω o.acc o.cs) rfl (fun ω => ?_) (fun o o' e => ev_grow hv _ _ _ _ _ _ _ _ _ _ _ e) (fun o s' ho D' => ih _ _ _ _ _ _ _ _ ho s' D')
          obtain ⟨o, e, z⟩ := h ω
          simp only [ev] at e
          exact ⟨o, e, z⟩
    | unsupported => obtain ⟨o, e, _⟩ := h0; simp [ev] at e
    | finish => obtain ⟨o, e, _⟩ := h0; simp [ev] at e
    | register => obtain ⟨o, e, _⟩ := h0; simp [ev] at e
    | choose => obtain ⟨o, e, _⟩ := h0; simp [ev] at e
    | os => obtain ⟨o, e, _⟩ := h0; simp [ev] at e
    | newGen => obtain ⟨o, e, _⟩ := h0; simp [ev] at e
    | genState => obtain ⟨o, e, _⟩ := h0; simp [ev] at e
    | resume => obtain ⟨o, e, _⟩ := h0; simp [ev] at e
    | yield => obtain ⟨o, e, _⟩ := h0; simp [ev] at e
    | fork => obtain ⟨o, e, _⟩ := h0; simp [ev] at e
    | thread => obtain ⟨o, e, _⟩ := h0; simp [ev] at e
    | await => obtain ⟨o, e, _⟩ := h0; simp [ev] at e
end
end Mine
end
section
namespace Mine
open PySem PySem.W PySem.W.X
noncomputable def denF : Code → Sem Fin := PySem.W.Fast.tw11892475500146522536 PySem.W.Fast.tw14364793385576792824
theorem denF_eq (c : Code) : denote table c = denF c := by
  unfold denF
  rw [table_eq_tree, ← PySem.W.Fast.te11892475500146522536, ← PySem.W.Fast.te14364793385576792824]
noncomputable def noRule : Nat → Rule := fun _ _ _ _ _ _ _ _ => none
theorem noRule_valid (E : World0) (r : Nat) : Valid E (noRule r) :=
  ⟨fun h => by simp [noRule] at h, fun _ _ h => by obtain ⟨o, e, _⟩ := h fun _ => 0; simp [noRule] at e⟩
noncomputable abbrev Tell := Bool × List V × Result × List (Option (Nat × Obj)) × Nat × Nat × List Prop
noncomputable def tellD (b : Bool) : Tell := (b, [], .ok .next, [], 0, 0, [])
noncomputable def tellL (idx : List Nat) (o : Out) : Tell := (true, o.acc.map (·.1), o.r, idx.map (gt o.S.T), o.S.b + o.S.j, o.S.tb + o.S.ti, o.cs)
noncomputable def tellR (r : Result) (T : Cells) (n t : Nat) (cs : List Prop) (o : Out) : Tell := (true, o.acc.map (·.2), r, T.map some, n, t, cs)
noncomputable abbrev Checks (x : Option Out) (idx : List Nat) (r : Result) (T : Cells) (n t : Nat) (cs : List Prop) : Prop :=
  x.elim (tellD false) (tellL idx) = x.elim (tellD true) (tellR r T n t cs)
theorem pairs_of : ∀ {l : List (V × V)}, l.map (·.1) = l.map (·.2) → ∀ q ∈ l, q.1 = q.2
  | [], _, _, h => nomatch h
  | x :: l, e, q, hq => by
    simp only [List.map_cons, List.cons.injEq] at e
    rcases List.mem_cons.mp hq with rfl | hq
    · exact e.1
    · exact pairs_of e.2 q hq
theorem checks_out {x : Option Out} {idx : List Nat} {r : Result} {T : Cells} {n t : Nat} {cs : List Prop} (h : Checks x idx r T n t cs) (hc : ∀ q ∈ cs, q) :
    ∃ o, x = some o ∧ Holds o ∧ o.r = r ∧ idx.map (gt o.S.T) = T.map some ∧ o.S.b + o.S.j = n ∧ o.S.tb + o.S.ti = t := by
  cases x with
  | none => simp [Checks, tellD] at h
  | some o =>
    have h' : tellL idx o = tellR r T n t cs o := h
    unfold tellL tellR at h'
    have h1 := congrArg (fun x => x.2.1) h'
    have h2 := congrArg (fun x => x.2.2.1) h'
    have h3 := congrArg (fun x => x.2.2.2.1) h'
    have h4 := congrArg (fun x => x.2.2.2.2.1) h'
    have h5 := congrArg (fun x => x.2.2.2.2.2.1) h'
    have h6 : o.cs = cs := congrArg (fun x => x.2.2.2.2.2.2) h'
    exact ⟨o, rfl, ⟨pairs_of h1, h6 ▸ hc⟩, h2, h3, h4, h5⟩
theorem gt_inj : ∀ {l : Cells} {i j : Nat} {x y : Nat × Obj}, (l.map (·.1)).Nodup → gt l i = some x → gt l j = some y → x.1 = y.1 → i = j
  | [], _, _, _, _, _, h, _, _ => by simp [gt] at h
  | z :: l, 0, 0, _, _, _, _, _, _ => rfl
  | z :: l, 0, j + 1, x, y, hn, hi, hj, e => by
    simp only [gt, Option.some.injEq] at hi hj
    simp only [List.map_cons, List.nodup_cons] at hn
    exact absurd (by rw [hi, e]; exact List.mem_map_of_mem (gt_mem hj)) hn.1
  | z :: l, i + 1, 0, x, y, hn, hi, hj, e => by
    simp only [gt, Option.some.injEq] at hi hj
    simp only [List.map_cons, List.nodup_cons] at hn
    exact absurd (by rw [hj, ← e]; exact List.mem_map_of_mem (gt_mem hi)) hn.1
  | z :: l, i + 1, j + 1, x, y, hn, hi, hj, e => by
    simp only [gt] at hi hj
    simp only [List.map_cons, List.nodup_cons] at hn
    rw [gt_inj hn.2 hi hj e]
theorem sub_cells {l : Cells} (hn : (l.map (·.1)).Nodup) : ∀ {idx : List Nat} {T : Cells}, idx.Nodup → idx.map (gt l) = T.map some → (∀ x ∈ T, x ∈ l) ∧ (T.map (·.1)).Nodup ∧ ∀ x ∈ T, ∃ i ∈ idx, gt l i = some x
  | [], [], _, _ => ⟨fun _ h => (nomatch h), List.nodup_nil, fun _ h => (nomatch h)⟩
  | [], _ :: _, _, e => by simp at e
  | _ :: _, [], _, e => by simp at e
  | i :: idx, x :: T, hi, e => by
    simp only [List.map_cons, List.cons.injEq] at e
    simp only [List.nodup_cons] at hi
    obtain ⟨h1, h2, h3⟩ := sub_cells hn hi.2 e.2
    refine ⟨fun y hy => ?_, ?_, fun y hy => ?_⟩
    · rcases List.mem_cons.mp hy with rfl | hy
      · exact gt_mem e.1
      · exact h1 y hy
    · simp only [List.map_cons, List.nodup_cons]
      refine ⟨fun hm => ?_, h2⟩
      obtain ⟨y, hy, ey⟩ := List.mem_map.mp hm
      obtain ⟨j, hj, gj⟩ := h3 y hy
      exact hi.1 (gt_inj hn gj e.1 ey ▸ hj)
    · rcases List.mem_cons.mp hy with rfl | hy
      · exact ⟨i, .head _, e.1⟩
      · obtain ⟨j, hj, gj⟩ := h3 y hy
        exact ⟨j, .tail _ hj, gj⟩
theorem Rep.sub {E : World0} {S : SS} {s : Shared} (D : Rep E S s) {idx : List Nat} {T : Cells} {n t : Nat} (hi : idx.Nodup) (e : idx.map (gt S.T) = T.map some) (hn : S.b + S.j = n) (ht : S.tb + S.ti = t) : Rep E ⟨T, n, 0, t, 0⟩ s := by
  obtain ⟨h1, h2, _⟩ := sub_cells D.nodup hi e
  exact ⟨D.size.trans hn, D.toks.trans ht, fun x hx => D.cell x (h1 x hx), h2, fun x hx => D.own x (h1 x hx), D.known, D.keep, hn ▸ D.low, hn ▸ D.old, D.gens, D.drawn, D.os⟩
structure Fits (E : World0) (F : Fixed) : Prop where
  rules : ∀ r, Valid E (F.rules r)
  den : ∀ c, E.M.den c = F.den c
  quiet : ∀ c, F.quiet c = true → c.quiet = true
  prog : F.prog = E.M.prog
  par : F.par = E.M.w.params
  kt : F.kt = E.kt
theorem seg_wp {E : World0} {F : Fixed} (H : Fits E F) {α : Type} {m : Sem α} {f : α → Flow} {n : Nat} {Γ : Ctx} {p : Pos} {S : SS} {hs idx : List Nat} {r : (Nat → Nat) → Result} {T : (Nat → Nat) → Cells} {N t : (Nat → Nat) → Nat} {cs : (Nat → Nat) → List Prop}
    (h : ∀ ω, Checks (ev F n Γ p (m.bind fun a => .pure (.done (f a))) [] S hs ω [] []) idx (r ω) (T ω) (N ω) (t ω) (cs ω)) (hi : idx.Nodup) (hc : ∀ ω, ∀ q ∈ cs ω, q) {s : Shared} (D : Rep E S s) :
    Sem.wp E.M Γ m (fun a _ s' => ∃ ω, .ok (f a) = r ω ∧ Rep E ⟨T ω, N ω, 0, t ω, 0⟩ s') (fun e _ s' => ∃ ω, .error e = r ω ∧ Rep E ⟨T ω, N ω, 0, t ω, 0⟩ s') p s := by
  have z := ev_sound (F := F) H.rules H.den H.quiet H.prog H.par H.kt (R := fun r' s' => ∃ ω, r' = r ω ∧ Rep E ⟨T ω, N ω, 0, t ω, 0⟩ s')
    (Fn := fun o => ∃ ω, o.r = r ω ∧ idx.map (gt o.S.T) = (T ω).map some ∧ o.S.b + o.S.j = N ω ∧ o.S.tb + o.S.ti = t ω)
    (fun o s ⟨ω, h1, h2, h3, h4⟩ D => ⟨ω, h1, D.sub hi h2 h3 h4⟩) n Γ p (m.bind fun a => .pure (.done (f a))) [] S hs [] []
    (fun ω => by obtain ⟨o, e, hH, h1, h2, h3, h4⟩ := checks_out (h ω) (hc ω); exact ⟨o, e, hH, ω, h1, h2, h3, h4⟩) s D
  rw [Sem.wp_bind] at z
  refine Sem.wp_mono _ _ _ (fun a p' s' h' => ?_) (fun e p' s' h' => ?_) _ _ z
  · rw [Sem.wp_pure] at h'
    exact h'
  · exact h'
noncomputable def wb (w : World) (b1 b2 : Bool) : World := (w.withFollow "special-get-raises" b1).withFollow "comprehension-iter-twice" b2
theorem wb_self (w : World) : ∃ b1 b2, wb w b1 b2 = w := by
  refine ⟨w.params.followText "special-get-raises", w.params.followText "comprehension-iter-twice", ?_⟩
  unfold wb
  rw [World.withFollow_self, World.withFollow_self]
end Mine
end
section
namespace Mine
open PySem PySem.W
noncomputable def dO (es : Array DictEntry) (n : Nat) : Obj := { cls := .type "dict", data := .dict es n }
structure Grew (s s' : Shared) (k t : Nat) (d : Addr) (o : Obj) : Prop where
  size : s'.heap.objs.size = s.heap.objs.size + k
  toks : s'.toks = s.toks + t
  here : s'.heap.get? d = some o
  keep : ∀ b o', s.heap.get? b = some o' → b ≠ d → s'.heap.get? b = some o'
  gens : s'.gens = s.gens
  drawn : s'.drawn = s.drawn
  os : s'.os = s.os
theorem Grew.trans {s s₁ s₂ : Shared} {k t k' t' : Nat} {d : Addr} {o o' : Obj} (a : Grew s s₁ k t d o) (b : Grew s₁ s₂ k' t' d o') : Grew s s₂ (k + k') (t + t') d o' :=
  ⟨by rw [b.size, a.size]; omega, by rw [b.toks, a.toks]; omega, b.here, fun x ox e h => b.keep x ox (a.keep x ox e h) h, b.gens.trans a.gens, b.drawn.trans a.drawn, b.os.trans a.os⟩
theorem Grew.update {s : Shared} {d : Addr} {o : Obj} {f : Obj → Obj} (ho : s.heap.get? d = some o) (hf : (f o).isFreed = false) (t : Nat) : Grew s { s with heap := s.heap.update d f, toks := s.toks + t } 0 t d (f o) :=
  ⟨Heap.size_update .., rfl, by first | exact Heap.get?_update_self f ho hf | exact Heap.get?_update_self _ ho hf, fun b o' e h => (Heap.get?_update_ne _ _ _ _ h).trans e, rfl, rfl, rfl⟩
section
variable {prog : Program} {w : World} {A : Around} {E : Value → Shared → Prop} {s : Shared}
theorem wp_set_new {d : Addr} {es : Array DictEntry} {n : Nat} {k : Int} {t : Tok} {v : Value} {Q : Unit → Shared → Prop} (ho : s.heap.get? d = some (dO es n)) (hk : IntKeys es)
    (hn : (es.findIdx? fun e => Value.isInt k e.key) = none) (hz : es.size ≤ sizeLine)
    (hQ : ∀ s', Grew s s' 0 1 d (dO (es.push ⟨hashInt k, .int k t, v⟩) (n + 1)) → Q () s') : wpAny (model prog w) A (dictSet d (.int k t) v) Q E s := by
  unfold dictSet
  refine wpAny_holding ?_
  refine wpAny_bind (wpAny_pyHash_int ?_)
  unfold dictSetHashed
  refine wpAny_holding ?_
  refine wpAny_bind (wpAny_dictFind_int (s := { s with toks := s.toks + 1 }) ho rfl hk ?_)
  rw [hn]
  refine wpAny_bind (wpAny_rule (wpAny_updateDictKeys (hz := hz) (s := { s with toks := s.toks + 1 }) ho rfl ?_))
  exact hQ _ (Grew.update (f := Obj.mapDictKeys (·.push ⟨hashInt k, .int k t, v⟩)) ho rfl 1)
theorem wp_put_new {d : Addr} {es : Array DictEntry} {n : Nat} {k : Int} {t : Tok} {v : Value} {Q : Unit → Shared → Prop} (ho : s.heap.get? d = some (dO es n)) (hk : IntKeys es)
    (hn : (es.findIdx? fun e => Value.isInt k e.key) = none) (hz : es.size ≤ sizeLine)
    (hQ : ∀ s', Grew s s' 0 0 d (dO (es.push ⟨hashInt k, .int k t, v⟩) (n + 1)) → Q () s') : wpAny (model prog w) A (dictPut d (hashInt k) (.int k t) v) Q E s := by
  unfold dictPut
  refine wpAny_bind (wpAny_dictFind_int ho rfl hk ?_)
  rw [hn]
  refine wpAny_updateDictKeys (hz := hz) ho rfl ?_
  exact hQ _ (Grew.update (f := Obj.mapDictKeys (·.push ⟨hashInt k, .int k t, v⟩)) ho rfl 0)
end
noncomputable def Ent (e : DictEntry) (i : Int) : Prop := ∃ t, e.key = .int i t ∧ e.hash = hashInt i
inductive All2 {α β : Type} (R : α → β → Prop) : List α → List β → Prop
  | nil : All2 R [] []
  | cons {a b l m} : R a b → All2 R l m → All2 R (a :: l) (b :: m)
theorem All2.app {α β : Type} {R : α → β → Prop} {l l' : List α} {m m' : List β} (h : All2 R l m) (h' : All2 R l' m') : All2 R (l ++ l') (m ++ m') := by
  induction h with
  | nil => exact h'
  | cons a _ ih => exact .cons a ih
theorem All2.len {α β : Type} {R : α → β → Prop} {l : List α} {m : List β} (h : All2 R l m) : l.length = m.length := by
  induction h with
  | nil => rfl
  | cons _ _ ih => simp [ih]
theorem All2.mem {α β : Type} {R : α → β → Prop} {l : List α} {m : List β} (h : All2 R l m) {a : α} (ha : a ∈ l) : ∃ b ∈ m, R a b := by
  induction h with
  | nil => cases ha
  | cons r _ ih =>
    rcases List.mem_cons.mp ha with rfl | ha
    · exact ⟨_, .head _, r⟩
    · obtain ⟨b, hb, q⟩ := ih ha; exact ⟨b, .tail _ hb, q⟩
theorem All2.take {α β : Type} {R : α → β → Prop} {l : List α} {m : List β} (h : All2 R l m) : ∀ i, All2 R (l.take i) (m.take i) := by
  induction h with
  | nil => intro i; simp; exact .nil
  | cons r _ ih =>
    intro i
    cases i with
    | zero => exact .nil
    | succ i => exact .cons r (ih i)
theorem All2.get {α β : Type} {R : α → β → Prop} {l : List α} {m : List β} (h : All2 R l m) : ∀ {i : Nat} (hi : i < l.length), ∃ hj : i < m.length, R l[i] m[i] := by
  induction h with
  | nil => intro i hi; cases hi
  | cons r _ ih =>
    intro i hi
    cases i with
    | zero => exact ⟨by simp, r⟩
    | succ i =>
      obtain ⟨hj, q⟩ := ih (i := i) (by simpa using hi)
      exact ⟨by simpa using hj, q⟩
theorem ents_keys {es : List DictEntry} {l : List Int} (h : All2 Ent es l) : IntKeys es.toArray := fun e he => by
  obtain ⟨i, _, t, a, b⟩ := h.mem (by simpa using he)
  exact ⟨i, t, a, b⟩
theorem ents_none {es : List DictEntry} {l : List Int} (h : All2 Ent es l) {k : Int} (hk : k ∉ l) : (es.toArray.findIdx? fun e => Value.isInt k e.key) = none := by
  rw [Array.findIdx?_eq_none_iff]
  intro e he
  obtain ⟨i, hi, t, a, _⟩ := h.mem (by simpa using he)
  rw [a]
  show (i == k) = false
  exact beq_eq_false_iff_ne.mpr fun q => hk (q ▸ hi)
noncomputable def ent (i : Int) (x : Str) (t u : Tok) : DictEntry := ⟨hashInt i, .int i t, .str x u⟩
noncomputable def longE : List (Int × Str) → Nat → List DictEntry
  | [], _ => []
  | d :: r, T => ent d.1 d.2 T (T + 1) :: longE r (T + 3)
noncomputable def shortE : List (Int × Str) → Nat → List DictEntry
  | [], _ => []
  | d :: r, T => ent d.1 d.2 T (T + 1) :: shortE r (T + 2)
theorem longE_ents : ∀ (l : List (Int × Str)) (T : Nat), All2 Ent (longE l T) (l.map (·.1))
  | [], _ => .nil
  | _ :: r, T => .cons ⟨_, rfl, rfl⟩ (longE_ents r (T + 3))
theorem shortE_ents : ∀ (l : List (Int × Str)) (T : Nat), All2 Ent (shortE l T) (l.map (·.1))
  | [], _ => .nil
  | _ :: r, T => .cons ⟨_, rfl, rfl⟩ (shortE_ents r (T + 2))
theorem longE_app : ∀ (l m : List (Int × Str)) (T : Nat), longE (l ++ m) T = longE l T ++ longE m (T + 3 * l.length)
  | [], m, T => by simp [longE]
  | d :: r, m, T => by
    simp only [List.cons_append, longE, longE_app r m (T + 3), List.length_cons]
    congr 3
    omega
structure Pair (M : Model) (kv : Sem Value × Sem Value) (d : Int × Str) : Prop where
  key : ∀ {A : Around} {E : Value → Shared → Prop} {s : Shared} {Q : Value → Shared → Prop}, Q (.int d.1 s.toks) { s with toks := s.toks + 1 } → wpAny M A kv.1 Q E s
  val : ∀ {A : Around} {E : Value → Shared → Prop} {s : Shared} {Q : Value → Shared → Prop}, Q (.str d.2 s.toks) { s with toks := s.toks + 1 } → wpAny M A kv.2 Q E s
section
variable {prog : Program} {w : World} {A : Around} {E : Value → Shared → Prop}
theorem Grew.tok (s : Shared) {d : Addr} {o : Obj} (ho : s.heap.get? d = some o) (t : Nat) : Grew s { s with toks := s.toks + t } 0 t d o :=
  ⟨rfl, rfl, ho, fun _ _ e _ => e, rfl, rfl, rfl⟩
theorem Grew.cast {s s' : Shared} {k t k' t' : Nat} {d : Addr} {o o' : Obj} (g : Grew s s' k t d o) (hk : k = k') (ht : t = t') (ho : o = o') : Grew s s' k' t' d o' := by
  subst hk ht ho; exact g
theorem wp_long {d : Addr} (f : Sem Value × Sem Value → PUnit → Sem (ForInStep PUnit))
    (hf : ∀ kv u, f kv u = (do let k ← kv.1; let v ← holding [k] kv.2; holding [k, v] (dictSet d k v); pure (ForInStep.yield PUnit.unit))) :
    ∀ (pairs : List (Sem Value × Sem Value)) (data : List (Int × Str)) (es : List DictEntry) (l : List Int) (n : Nat) (s : Shared) (Q : PUnit → Shared → Prop),
      All2 (Pair (model prog w)) pairs data → All2 Ent es l → (∀ x ∈ data, x.1 ∉ l) → (data.map (·.1)).Nodup → es.length + data.length ≤ 100000 → s.heap.get? d = some (dO es.toArray n) →
      (∀ s', Grew s s' 0 (3 * data.length) d (dO (es ++ longE data s.toks).toArray (n + data.length)) → Q PUnit.unit s') → wpAny (model prog w) A (forIn pairs PUnit.unit f) Q E s := by
  intro pairs
  induction pairs with
  | nil =>
    intro data es l n s Q hp _ _ _ _ ho hQ
    cases hp
    rw [List.forIn_nil]
    exact wpAny_pure (hQ s ((Grew.tok s ho 0).cast rfl rfl (by simp [longE])))
  | cons kv pairs ih =>
    intro data es l n s Q hp hE hnl hnd hz ho hQ
    cases hp with
    | @cons _ x _ data h1 hp =>
    simp only [List.map_cons, List.nodup_cons] at hnd
    simp only [List.length_cons] at hz
    rw [List.forIn_cons, hf]
    refine wpAny_bind (wpAny_bind (h1.key ?_))
    refine wpAny_bind (wpAny_holding (h1.val ?_))
    refine wpAny_bind (wpAny_holding (wp_set_new (es := es.toArray) (n := n) ho (ents_keys hE) (ents_none hE (hnl x (.head _))) (by simp only [List.size_toArray]; rw [sizeLine_eq]; omega) fun s' g => wpAny_pure ?_))
    have g' := (Grew.tok s ho 2).trans g
    have e : dO (es.toArray.push ⟨hashInt x.1, .int x.1 s.toks, .str x.2 (s.toks + 1)⟩) (n + 1) = dO (es ++ [ent x.1 x.2 s.toks (s.toks + 1)]).toArray (n + 1) := by simp [dO, ent]
    refine ih data (es ++ [ent x.1 x.2 s.toks (s.toks + 1)]) (l ++ [x.1]) (n + 1) s' Q hp (hE.app (.cons ⟨_, rfl, rfl⟩ .nil)) (fun y hy hm => ?_) hnd.2 (by simp; omega) (e ▸ g.here) fun s₂ g₂ => ?_
    · rcases List.mem_append.mp hm with hm | hm
      · exact hnl y (.tail _ hy) hm
      · simp only [List.mem_singleton] at hm
        exact hnd.1 (hm ▸ List.mem_map_of_mem hy)
    · refine hQ s₂ ((g'.trans g₂).cast rfl (by simp only [List.length_cons]; omega) ?_)
      have ht : s'.toks = s.toks + 3 := g'.toks
      rw [ht]
      simp only [longE, List.append_assoc, List.cons_append, List.nil_append, List.length_cons]
      unfold dO
      congr 2
      omega
noncomputable def valsOf : List (Int × Str) → Nat → List (Value × Value)
  | [], _ => []
  | d :: r, T => (.int d.1 T, .str d.2 (T + 1)) :: valsOf r (T + 2)
theorem wp_evalPairs : ∀ (pairs : List (Sem Value × Sem Value)) (data : List (Int × Str)) (s : Shared) (Q : List (Value × Value) → Shared → Prop),
    All2 (Pair (model prog w)) pairs data → Q (valsOf data s.toks) { s with toks := s.toks + 2 * data.length } → wpAny (model prog w) A (evalPairs pairs) Q E s
  | [], _, s, Q, hp, hQ => by cases hp; exact evalPairs_nil hQ
  | (k, v) :: pairs, _, s, Q, hp, hQ => by
    cases hp with
    | @cons _ x _ data h1 hp =>
    refine evalPairs_cons (h1.key (h1.val ?_))
    refine wp_evalPairs pairs data _ _ hp ?_
    have e : s.toks + 1 + 1 + 2 * data.length = s.toks + 2 * (x :: data).length := by simp only [List.length_cons]; omega
    rw [e]
    exact hQ
theorem wp_store {d : Addr} (f : Value × Value → PUnit → Sem (ForInStep PUnit)) (hf : ∀ kv u, f kv u = (do dictSet d kv.1 kv.2; pure (ForInStep.yield PUnit.unit))) :
    ∀ (data : List (Int × Str)) (T : Nat) (es : List DictEntry) (l : List Int) (n : Nat) (s : Shared) (Q : PUnit → Shared → Prop),
      All2 Ent es l → (∀ x ∈ data, x.1 ∉ l) → (data.map (·.1)).Nodup → es.length + data.length ≤ 100000 → s.heap.get? d = some (dO es.toArray n) →
      (∀ s', Grew s s' 0 data.length d (dO (es ++ shortE data T).toArray (n + data.length)) → Q PUnit.unit s') → wpAny (model prog w) A (forIn (valsOf data T) PUnit.unit f) Q E s := by
  intro data
  induction data with
  | nil =>
    intro T es l n s Q _ _ _ _ ho hQ
    rw [valsOf, List.forIn_nil]
    exact wpAny_pure (hQ s ((Grew.tok s ho 0).cast rfl rfl (by simp [shortE])))
  | cons x data ih =>
    intro T es l n s Q hE hnl hnd hz ho hQ
    simp only [List.map_cons, List.nodup_cons] at hnd
    simp only [List.length_cons] at hz
    rw [valsOf, List.forIn_cons, hf]
    refine wpAny_bind (wpAny_bind (wp_set_new (es := es.toArray) (n := n) ho (ents_keys hE) (ents_none hE (hnl x (.head _))) (by simp only [List.size_toArray]; rw [sizeLine_eq]; omega) fun s' g => wpAny_pure ?_))
    have e : dO (es.toArray.push ⟨hashInt x.1, .int x.1 T, .str x.2 (T + 1)⟩) (n + 1) = dO (es ++ [ent x.1 x.2 T (T + 1)]).toArray (n + 1) := by simp [dO, ent]
    refine ih (T + 2) (es ++ [ent x.1 x.2 T (T + 1)]) (l ++ [x.1]) (n + 1) s' Q (hE.app (.cons ⟨_, rfl, rfl⟩ .nil)) (fun y hy hm => ?_) hnd.2 (by simp; omega) (e ▸ g.here) fun s₂ g₂ => ?_
    · rcases List.mem_append.mp hm with hm | hm
      · exact hnl y (.tail _ hy) hm
      · simp only [List.mem_singleton] at hm
        exact hnd.1 (hm ▸ List.mem_map_of_mem hy)
    · refine hQ s₂ ((g.trans g₂).cast rfl (by simp only [List.length_cons]; omega) ?_)
      simp only [shortE, List.append_assoc, List.cons_append, List.nil_append, List.length_cons]
      unfold dO
      congr 2
      omega
noncomputable def someE (data : List (Int × Str)) (T : Nat) : List DictEntry := if data.length ≤ 15 then shortE data T else longE data T
theorem someE_ents (l : List (Int × Str)) (T : Nat) : All2 Ent (someE l T) (l.map (·.1)) := by
  unfold someE
  split
  · exact shortE_ents l T
  · exact longE_ents l T
theorem Grew.push (s : Shared) {o : Obj} (hf : o.isFreed = false) : Grew s { s with heap := s.heap.push o } 1 0 s.heap.objs.size o :=
  ⟨Heap.size_push .., rfl, Heap.get?_push_size _ hf, fun _ _ e _ => Heap.get?_push_of_some _ e, rfl, rfl, rfl⟩
theorem wp_sub {pairs : List (Sem Value × Sem Value)} {data : List (Int × Str)} {s : Shared} {Q : Addr → Shared → Prop} (hp : All2 (Pair (model prog w)) pairs data) (hnd : (data.map (·.1)).Nodup) (hz : data.length ≤ 100000)
    (hQ : ∀ s', Grew s s' 1 (3 * data.length) s.heap.objs.size (dO (someE data s.toks).toArray data.length) → Q s.heap.objs.size s') : wpAny (model prog w) A (subDict pairs) Q E s := by
  unfold subDict
  refine wpAny_bind (wpAny_alloc ?_)
  refine wpAny_bind (wpAny_holding ?_)
  have g0 := Grew.push s (o := { cls := .type "dict", data := .dict #[] }) rfl
  by_cases hl : data.length ≤ 15
  · rw [if_pos (by rw [hp.len]; exact hl)]
    refine wpAny_bind (wp_evalPairs pairs data _ _ hp ?_)
    refine wpAny_holding ?_
    refine wpAny_bind (wp_store (f := _) (fun kv u => rfl) data s.toks [] [] 0 _ _ .nil (fun _ _ h => (nomatch h)) hnd (by simpa using hz) g0.here fun s' g => wpAny_pure (wpAny_pure (hQ s' ?_)))
    refine ((g0.trans (Grew.tok _ g0.here (2 * data.length))).trans g).cast rfl (by omega) ?_
    simp [someE, hl]
  · rw [if_neg (by rw [hp.len]; exact hl)]
    refine wpAny_bind (wpAny_rule ?_)
    refine wpAny_bind (wp_long (f := _) (fun kv u => rfl) pairs data [] [] 0 _ _ hp .nil (fun _ _ h => (nomatch h)) hnd (by simpa using hz) g0.here fun s' g => wpAny_pure (wpAny_pure (hQ s' ?_)))
    refine (g0.trans g).cast rfl (by omega) ?_
    simp [someE, hl]
theorem wp_merge {d a : Addr} {es fs : List DictEntry} {l m : List Int} {n q : Nat} {s : Shared} {Q : Unit → Shared → Prop} (hE : All2 Ent es l) (hF : All2 Ent fs m) (hne : es ≠ []) (hda : d ≠ a) (ha : a ≠ sysModules)
    (hnl : ∀ x ∈ m, x ∉ l) (hnd : m.Nodup) (hz : es.length + fs.length ≤ 100000) (ho : s.heap.get? d = some (dO es.toArray n)) (hp : s.heap.get? a = some (dO fs.toArray q))
    (hQ : ∀ s', Grew s s' 0 0 d (dO (es ++ fs).toArray (n + fs.length)) → Q () s') : wpAny (model prog w) A (mergeMapping d (.ref a) false) Q E s := by
  have hT : s.TypeIs (.ref a) "dict" := ⟨_, hp, rfl⟩
  unfold mergeMapping
  refine wpAny_bind (wpAny_isInstance hT isSubtype_dict_dict ?_)
  rw [if_pos rfl]
  refine wpAny_bind (wpAny_specialOf hT F.slot_dict_iter.lookup ?_)
  refine wpAny_bind (wpAny_pure ?_)
  simp only [beq_self_eq_true]
  rw [if_neg (by simpa using ha)]
  refine wpAny_bind (wpAny_dictEntries ho rfl ?_)
  rw [if_neg (by simp [hne])]
  refine wpAny_bind (wpAny_dictEntries hp rfl ?_)
  refine wpAny_bind (wpAny_dictEpoch hp rfl ?_)
  refine wpAny_bind (wpAny_forIn_list _ (fun r _ s' => ∃ j, j ≤ fs.length ∧ r = List.range' j (fs.length - j) ∧ Grew s s' 0 0 d (dO (es ++ fs.take j).toArray (n + j))) (fun _ s' => wpAny (model prog w) A (pure ()) Q E s') ?_ ?_ _ _ ?_)
  · rintro i r u s' ⟨j, hj, hr, g⟩
    have hlt : j < fs.length := by
      rcases Nat.lt_or_ge j fs.length with h | h
      · exact h
      · rw [Nat.sub_eq_zero_of_le h, List.range'_zero] at hr; cases hr
    have e0 : fs.length - j = (fs.length - (j + 1)) + 1 := by omega
    rw [e0, List.range'_succ] at hr
    simp only [List.cons.injEq] at hr
    obtain ⟨rfl, rfl⟩ := hr
    have hp' := g.keep a _ hp (Ne.symm hda)
    obtain ⟨hjm, t, hk, hh⟩ := hF.get hlt
    refine wpAny_bind (wpAny_dictEntries hp' rfl ?_)
    rw [show (fs.toArray[i]? : Option DictEntry) = some fs[i] by simp [hlt]]
    dsimp only
    refine wpAny_bind (wpAny_holding ?_)
    rw [if_neg Bool.false_ne_true, hk, hh]
    have hE' : All2 Ent (es ++ fs.take i) (l ++ m.take i) := hE.app (hF.take i)
    refine wp_put_new (es := (es ++ fs.take i).toArray) (n := n + i) g.here (ents_keys hE') (ents_none hE' ?_) ?_ fun s₂ g₂ => ?_
    · intro hm
      rcases List.mem_append.mp hm with hm | hm
      · exact hnl _ (List.getElem_mem hjm) hm
      · obtain ⟨q, hq, e⟩ := List.mem_iff_getElem.mp hm
        simp only [List.length_take] at hq
        rw [List.getElem_take] at e
        exact absurd e ((List.pairwise_iff_getElem.mp hnd) q i (by omega) hjm (by omega))
    · simp only [List.size_toArray, List.length_append, List.length_take]
      rw [sizeLine_eq]; omega
    · have g' := (g.trans g₂).cast (k' := 0) (t' := 0) (o' := dO (es ++ fs.take (i + 1)).toArray (n + (i + 1))) rfl rfl (by
        have e1 : (⟨hashInt m[i], .int m[i] t, fs[i].val⟩ : DictEntry) = fs[i] := by rw [← hh, ← hk]
        rw [e1, List.take_succ_eq_append_getElem hlt, ← List.append_assoc]
        simp [dO, Nat.add_assoc])
      refine wpAny_bind (wpAny_dictEpoch (g'.keep a _ hp (Ne.symm hda)) rfl ?_)
      rw [if_neg (by simp)]
      exact wpAny_pure ⟨i + 1, hlt, by congr 1 <;> omega, g'⟩
  · rintro u s' ⟨j, hj, hr, g⟩
    have : j = fs.length := by
      rcases Nat.lt_or_ge j fs.length with h | h
      · rw [show fs.length - j = (fs.length - j - 1) + 1 by omega, List.range'_succ] at hr; cases hr
      · omega
    subst this
    rw [List.take_length] at g
    exact wpAny_pure (hQ s' g)
  · refine ⟨0, Nat.zero_le _, ?_, (Grew.tok s ho 0).cast rfl rfl (by simp)⟩
    simp [List.range_eq_range']
end
end Mine
end
section
namespace Mine
open PySem PySem.W
section
variable {prog : Program} {w : World} {A : Around} {E : Value → Shared → Prop}
theorem wp_noraise {M : Model} {α : Type} {m : Sem α} {h : Value → Sem Unit} {Q : α → Shared → Prop} {s : Shared} (H : wpAny M A m Q (fun _ _ => False) s) : wpAny M A (m.onRaise h) Q E s := fun Γ p hΓ => by
  rw [Sem.wp_onRaise]
  exact Sem.wp_mono _ _ _ (fun _ _ _ x => x) (fun _ _ _ x => x.elim) _ _ (H Γ p hΓ)
noncomputable def Item (M : Model) (it : Option (Sem Value) × Sem Value) (d : Int × Str) : Prop := ∃ k, it.1 = some k ∧ Pair M (k, it.2) d
structure Disp (prog : Program) (w : World) (data : List (Int × Str)) (s : Shared) (rest : List (Option (Sem Value) × Sem Value)) (b : Option Addr × List (Sem Value × Sem Value)) (s' : Shared) : Prop where
  ex : ∃ c runD restD, data = data.take (17 * c) ++ runD ++ restD ∧ (data.take (17 * c)).length = 17 * c ∧ All2 (Pair (model prog w)) b.2 runD ∧ All2 (Item (model prog w)) rest restD ∧ runD.length < 17 ∧
    ((c = 0 ∧ b.1 = none ∧ s' = s) ∨ (0 < c ∧ b.1 = some s.heap.objs.size ∧ Grew s s' c (3 * (17 * c)) s.heap.objs.size (dO (longE (data.take (17 * c)) s.toks).toArray (17 * c))))
theorem someE_long {l : List (Int × Str)} {T : Nat} (h : l.length = 17) : someE l T = longE l T := by
  unfold someE; rw [if_neg (by omega)]
theorem nodup_mid {a b c : List (Int × Str)} (h : ((a ++ b ++ c).map (·.1)).Nodup) : (b.map (·.1)).Nodup ∧ ∀ x ∈ b.map (·.1), x ∉ a.map (·.1) := by
  simp only [List.map_append, List.nodup_append, List.mem_append] at h
  obtain ⟨⟨_, h2, h3⟩, _, _⟩ := h
  exact ⟨h2, fun x hx hm => h3 x hm x hx rfl⟩
theorem wp_flush {data : List (Int × Str)} {s s' : Shared} {c : Nat} {main : Option Addr} {run : List (Sem Value × Sem Value)} {runD restD : List (Int × Str)} {h : Addr → Addr → Value → Sem Unit} {Q : Option Addr → Shared → Prop}
    (hd : data = data.take (17 * c) ++ runD ++ restD) (hc : (data.take (17 * c)).length = 17 * c) (hr : All2 (Pair (model prog w)) run runD) (hne : runD ≠ []) (hnd : (data.map (·.1)).Nodup) (hz : data.length ≤ 100000) (hN : sysModules < s.heap.objs.size)
    (hm : (c = 0 ∧ main = none ∧ s' = s) ∨ (0 < c ∧ main = some s.heap.objs.size ∧ Grew s s' c (3 * (17 * c)) s.heap.objs.size (dO (longE (data.take (17 * c)) s.toks).toArray (17 * c))))
    (hQ : ∀ s₂, Grew s s₂ (c + 1) (3 * (17 * c + runD.length)) s.heap.objs.size (dO (longE (data.take (17 * c)) s.toks ++ someE runD (s.toks + 3 * (17 * c))).toArray (17 * c + runD.length)) → Q (some s.heap.objs.size) s₂) :
    wpAny (model prog w) A (if run.isEmpty = true then pure main else match main with
      | none => do
        let x ← subDict run
        pure (some x)
      | some d => do
        let sub ← holding [Value.ref d] (subDict run)
        (holding [Value.ref d, Value.ref sub] (mergeMapping d (Value.ref sub) false)).onRaise (h d sub)
        pure (some d)) Q E s' := by
  have hl := hr.len
  have hz' : runD.length ≤ 100000 := by
    have := congrArg List.length hd
    simp only [List.length_append] at this
    omega
  obtain ⟨n1, n2⟩ := nodup_mid (hd ▸ hnd)
  rw [if_neg (by
    cases run with
    | nil => cases hr; exact absurd rfl hne
    | cons => simp)]
  rcases hm with ⟨rfl, rfl, rfl⟩ | ⟨hc0, rfl, g⟩
  · dsimp only
    refine wpAny_bind (wp_sub hr n1 hz' fun s₂ g₂ => wpAny_pure (hQ s₂ (g₂.cast rfl (by omega) ?_)))
    simp [longE]
  · dsimp only
    refine wpAny_bind (wpAny_holding (wp_sub hr n1 hz' fun s₂ g₂ => ?_))
    have hlt : s.heap.objs.size < s'.heap.objs.size := by rw [g.size]; omega
    have here := g₂.keep _ _ g.here (Nat.ne_of_lt hlt)
    refine wpAny_bind (wp_noraise (wpAny_holding (wp_merge (es := longE (data.take (17 * c)) s.toks) (fs := someE runD s'.toks) (longE_ents _ _) (someE_ents _ _) ?_ (Nat.ne_of_lt hlt) (Nat.ne_of_gt (Nat.lt_trans hN hlt)) n2 n1 ?_ here g₂.here fun s₃ g₃ => wpAny_pure ?_)))
    · intro e
      have := (longE_ents (data.take (17 * c)) s.toks).len
      rw [e, List.length_map, hc] at this
      simp at this
      omega
    · have h1 := (longE_ents (data.take (17 * c)) s.toks).len
      have h2 := (someE_ents runD s'.toks).len
      have h3 := congrArg List.length hd
      simp only [List.length_append] at h3
      rw [h1, h2, List.length_map, List.length_map]
      omega
    · refine hQ s₃ ?_
      have ht := g.toks
      have hls := (someE_ents runD s'.toks).len
      rw [List.length_map] at hls
      refine ⟨?_, ?_, ?_, fun b o' e hb => ?_, ?_, ?_, ?_⟩
      · rw [g₃.size, g₂.size, g.size]; omega
      · rw [g₃.toks, g₂.toks, g.toks]; omega
      · rw [g₃.here, ht, ← ht, hls]
      · refine g₃.keep b o' (g₂.keep b o' (g.keep b o' e hb) (Nat.ne_of_lt ?_)) hb
        exact Nat.lt_trans (Heap.lt_size e) hlt
      · rw [g₃.gens, g₂.gens, g.gens]
      · rw [g₃.drawn, g₂.drawn, g.drawn]
      · rw [g₃.os, g₂.os, g.os]
noncomputable def dispE (data : List (Int × Str)) (c T : Nat) : List DictEntry := longE (data.take (17 * c)) T ++ (if data.length = 17 * c then [] else someE (data.drop (17 * c)) (T + 3 * (17 * c)))
theorem wp_display {data : List (Int × Str)} {items : List (Option (Sem Value) × Sem Value)} {s : Shared} {Q : Value → Shared → Prop} (c0 : Nat) (hi : All2 (Item (model prog w)) items data) (hc0 : c0 = data.length / 17)
    (hr0 : data.length % 17 ≠ 0) (hnd : (data.map (·.1)).Nodup) (hz : data.length ≤ 100000) (hN : sysModules < s.heap.objs.size)
    (hQ : ∀ s', Grew s s' (c0 + 1) (3 * data.length) s.heap.objs.size (dO (dispE data c0 s.toks).toArray data.length) → Q (.ref s.heap.objs.size) s') : wpAny (model prog w) A (dictDisplay items) Q E s := by
  unfold dictDisplay
  dsimp only
  refine wpAny_bind (wpAny_mono (wpAny_forIn_list _ (fun r b s' => Disp prog w data s r b s') (fun b s' => Disp prog w data s [] b s') ?_ (fun b s' h => h) _ _ ?_) ?_ fun _ _ h => h)
  · rintro x rest ⟨main, run⟩ s' ⟨c, runD, restD, hd, hc, hrun, hrest, hlt, hm⟩
    cases hrest with
    | @cons _ d _ restD hx hrest =>
    obtain ⟨k, hk, hp⟩ := hx
    dsimp only at hrun hm ⊢
    rw [hk]
    dsimp only
    have hd' : data = data.take (17 * c) ++ (runD ++ [d]) ++ restD := by rw [List.append_assoc, List.append_assoc]; rw [List.append_assoc] at hd; exact hd
    have hrun' : All2 (Pair (model prog w)) (run ++ [(k, x.2)]) (runD ++ [d]) := hrun.app (.cons hp .nil)
    by_cases h17 : runD.length + 1 = 17
    · rw [if_pos (by rw [hrun'.len]; simp [h17])]
      refine wpAny_bind (wp_flush hd' hc hrun' (by simp) hnd hz hN hm fun s₂ g => wpAny_pure ?_)
      have e1 : data.take (17 * (c + 1)) = data.take (17 * c) ++ (runD ++ [d]) := by
        conv => lhs; rw [hd']
        rw [List.take_append_of_le_length (by simp only [List.length_append, List.length_singleton, hc]; omega), List.take_of_length_le (by simp only [List.length_append, List.length_singleton, hc]; omega)]
      have l1 : (runD ++ [d]).length = 17 := by simp [h17]
      refine ⟨c + 1, [], restD, ?_, ?_, .nil, hrest, by simp, .inr ⟨by omega, rfl, g.cast rfl (by rw [l1]; omega) ?_⟩⟩
      · rw [e1, List.append_nil]; exact hd'
      · rw [e1, List.length_append, hc, l1]; omega
      · rw [e1, longE_app, hc, someE_long l1, l1]
        rfl
    · rw [if_neg (by rw [hrun'.len]; simp; omega)]
      exact wpAny_pure ⟨c, runD ++ [d], restD, hd', hc, hrun', hrest, by simp; omega, hm⟩
  · exact ⟨0, [], data, by simp, by simp, .nil, hi, by simp, .inl ⟨rfl, rfl, rfl⟩⟩
  · rintro ⟨main, run⟩ s' h
    obtain ⟨c, runD, restD, hd, hc, hrun, hrest, hlt, hm⟩ := h
    cases hrest
    rw [List.append_nil] at hd
    have hl : data.length = 17 * c + runD.length := by
      have := congrArg List.length hd
      rw [List.length_append, hc] at this
      exact this
    have ec : c = c0 := by omega
    subst ec
    have hne : runD ≠ [] := by
      intro e; subst e; simp at hl; omega
    have edrop : data.drop (17 * c) = runD := by
      conv => lhs; rw [hd]
      rw [List.drop_append_of_le_length (by omega), List.drop_of_length_le (by omega), List.nil_append]
    refine wpAny_bind (wp_flush (by rw [List.append_nil]; exact hd) hc hrun hne hnd hz hN hm fun s₂ g => ?_)
    refine wpAny_pure (hQ s₂ (g.cast rfl (by omega) ?_))
    have hne' : ¬ data.length = 17 * c := by omega
    rw [dispE, if_neg hne', edrop, hl]
end
end Mine
end
section
namespace Mine
open PySem PySem.W
theorem wp_execs_app (M : Model) (Γ : Ctx) (env : Env) (Q : Flow → Pos → Shared → Prop) (E : Value → Pos → Shared → Prop) : ∀ (A B : List Stmt) (p : Pos) (s : Shared),
    Sem.wp M Γ (execs (A ++ B) env) Q E p s = Sem.wp M Γ (execs A env) (fun f p' s' => match f with | .next => Sem.wp M Γ (execs B env) Q E p' s' | f => Q f p' s') E p s
  | [], B, p, s => by rw [List.nil_append, execs_nil, Sem.wp_pure']
  | a :: A, B, p, s => by
    rw [List.cons_append, execs_cons, execs_cons, Sem.wp_bind', Sem.wp_bind']
    congr 1
    funext f p' s'
    cases f with
    | next => exact wp_execs_app M Γ env Q E A B p' s'
    | _ => rw [Sem.wp_pure', Sem.wp_pure']
theorem Rep.grew {E : World0} {T : Cells} {N t k t' : Nat} {o : Obj} {s s' : Shared} (D : Rep E ⟨T, N, 0, t, 0⟩ s) (g : Grew s s' (k + 1) t' N o) : Rep E ⟨(N, o) :: T, N + (k + 1), 0, t + t', 0⟩ s' := by
  have hs : s.heap.objs.size = N := D.size
  have lt : ∀ {b o'}, s.heap.get? b = some o' → b ≠ N := fun e => hs ▸ Nat.ne_of_lt (Heap.lt_size e)
  have low : E.P0 ≤ N := D.low
  have old : E.h0.objs.size ≤ N := D.old
  refine ⟨by rw [g.size, hs]; rfl, by rw [g.toks, D.toks]; show t + 0 + t' = t + t' + 0; omega, ?_, ?_, ?_, ?_, ?_, ?_, ?_, g.gens.trans D.gens, g.drawn.trans D.drawn, g.os.trans D.os⟩
  · intro x hx
    rcases List.mem_cons.mp hx with rfl | hx
    · exact g.here
    · exact g.keep _ _ (D.cell x hx) (lt (D.cell x hx))
  · simp only [List.map_cons, List.nodup_cons]
    refine ⟨fun hm => ?_, D.nodup⟩
    obtain ⟨x, hx, e⟩ := List.mem_map.mp hm
    exact lt (D.cell x hx) e
  · intro x hx
    rcases List.mem_cons.mp hx with rfl | hx
    · refine ⟨low, .inr ?_⟩
      cases q : E.h0.get? N with
      | none => rfl
      | some o' => exact absurd (Heap.lt_size q) (Nat.not_lt.mpr old)
    · exact D.own x hx
  · intro i o' e
    exact ⟨(D.known i o' e).1, g.keep _ _ (D.known i o' e).2 (lt (D.known i o' e).2)⟩
  · intro b o' e hb
    exact g.keep _ _ (D.keep b o' e hb) (lt (D.keep b o' e hb))
  · show E.P0 ≤ N + (k + 1) + 0; omega
  · show E.h0.objs.size ≤ N + (k + 1) + 0; omega
noncomputable def litI : Const → Option Int
  | .int i => some i
  | _ => none
noncomputable def litS : Const → Option Str
  | .str x => some x
  | _ => none
noncomputable def eX : PySem.Expr → Option Const × Option Str × Option (List (Option PySem.Expr) × List PySem.Expr)
  | .Constant c _ _ => (some c, none, none)
  | .Name n _ => (none, some n, none)
  | .Dict ks vs _ => (none, none, some (ks, vs))
  | _ => (none, none, none)
noncomputable def eC (e : PySem.Expr) : Option Const := (eX e).1
noncomputable def eN (e : PySem.Expr) : Option Str := (eX e).2.1
noncomputable def eD (e : PySem.Expr) : Option (List (Option PySem.Expr) × List PySem.Expr) := (eX e).2.2
noncomputable def sA : Stmt → Option (List PySem.Expr × PySem.Expr)
  | .Assign t e _ => some (t, e)
  | _ => none
noncomputable def osat {α : Type} (x : Option α) (p : α → Prop) : Prop := match x with
  | none => True
  | some a => p a
theorem osat_is {α : Type} {x : Option α} {p : α → Prop} {a : α} (h : osat x p) (e : x = some a) : p a := by rw [e] at h; exact h
theorem litI_is (c : Const) : osat (litI c) fun i => c = .int i := by cases c <;> first | exact trivial | exact rfl
theorem litS_is (c : Const) : osat (litS c) fun i => c = .str i := by cases c <;> first | exact trivial | exact rfl
theorem eX_is (e : PySem.Expr) : osat (eC e) (fun c => ∃ k p, e = .Constant c k p) ∧ osat (eN e) (fun n => ∃ p, e = .Name n p) ∧ osat (eD e) fun x => ∃ p, e = .Dict x.1 x.2 p := by
  have z : True ∧ True ∧ True := ⟨trivial, trivial, trivial⟩
  cases e with
  | Constant c k p => exact ⟨⟨k, p, rfl⟩, trivial, trivial⟩
  | Name n p => exact ⟨trivial, ⟨p, rfl⟩, trivial⟩
  | Dict a b p => exact ⟨trivial, trivial, ⟨p, rfl⟩⟩
  | _ => exact z
theorem sA_is (e : Stmt) : osat (sA e) fun x => ∃ p, e = .Assign x.1 x.2 p := by
  cases e with
  | Assign a b p => exact ⟨p, rfl⟩
  | _ => exact trivial
noncomputable def readLits : List (Option PySem.Expr) → List PySem.Expr → Option (List (Int × Str))
  | [], vs => match vs with
    | [] => some []
    | _ => none
  | k :: ks, vs => match vs with
    | [] => none
    | v :: vs => ((k.bind eC).bind litI).bind fun i => ((eC v).bind litS).bind fun x => (readLits ks vs).bind fun l => some ((i, x) :: l)
theorem item_cons {prog : Program} {w : World} {env : Env} {pos : Pos} (i : Int) (kk : Nat) (kp : Pos) (x : Str) (vk : Nat) (vp : Pos) {ks : List (Option PySem.Expr)} {vs : List PySem.Expr} {data : List (Int × Str)}
    (h : All2 (Item (model prog w)) ((evalEachOpt ks env).zip ((evalEach vs env).map fun v => do let x ← v; standAt pos; pure x)) data) :
    All2 (Item (model prog w)) ((evalEachOpt (some (.Constant (.int i) kk kp) :: ks) env).zip ((evalEach (.Constant (.str x) vk vp :: vs) env).map fun v => do let x ← v; standAt pos; pure x)) ((i, x) :: data) :=
  .cons ⟨_, rfl, ⟨fun hQ => wpAny_Constant_int (env := env) (k := kk) (pos := kp) hQ, fun hQ => wpAny_bind (wpAny_Constant_str (env := env) (k := vk) (pos := vp) (wpAny_bind (wpAny_standAt (wpAny_pure hQ))))⟩⟩ h
theorem bind_is {α β : Type} {x : Option α} {f : α → Option β} {b : β} (h : x.bind f = some b) : ∃ a, x = some a ∧ f a = some b := by
  cases x
  · cases h
  · exact ⟨_, rfl, h⟩
theorem readLits_items {prog : Program} {w : World} {env : Env} {pos : Pos} : ∀ (ks : List (Option PySem.Expr)) (vs : List PySem.Expr) (data : List (Int × Str)), readLits ks vs = some data →
    All2 (Item (model prog w)) ((evalEachOpt ks env).zip ((evalEach vs env).map fun v => do let x ← v; standAt pos; pure x)) data := by
  intro ks
  induction ks with
  | nil => intro vs data h; cases vs <;> cases h; exact .nil
  | cons k ks ih =>
    intro vs data h
    cases vs with
    | nil => cases h
    | cons v vs =>
      obtain ⟨i, hi, h1⟩ := bind_is h
      obtain ⟨x, hx, h2⟩ := bind_is h1
      obtain ⟨l, hl, h3⟩ := bind_is h2
      clear h h1 h2
      obtain ⟨c, hc, hi⟩ := bind_is hi
      obtain ⟨e, he, hc⟩ := bind_is hc
      obtain ⟨d, hd, hx⟩ := bind_is hx
      obtain ⟨a1, a2, rfl⟩ := osat_is (eX_is _).1 hc
      obtain ⟨b1, b2, rfl⟩ := osat_is (eX_is _).1 hd
      cases he; cases h3; cases osat_is (litI_is _) hi; cases osat_is (litS_is _) hx
      exact item_cons i a1 a2 x b1 b2 (ih _ _ hl)
noncomputable def isTable (st : Stmt) : Option (Str × List (Int × Str)) := (sA st).bind fun x => match x.1 with
  | [] => none
  | y :: r => match r with
    | [] => (eN y).bind fun n => (eD x.2).bind fun d => (readLits d.1 d.2).bind fun l => some (n, l)
    | _ => none
theorem isTable_is {st : Stmt} {nm : Str} {data : List (Int × Str)} (h : isTable st = some (nm, data)) :
    ∃ np ks vs dp sp, st = .Assign [.Name nm np] (.Dict ks vs dp) sp ∧ readLits ks vs = some data := by
  obtain ⟨⟨t, e⟩, hx, h1⟩ := bind_is h
  obtain ⟨sp, rfl⟩ := osat_is (sA_is _) hx
  clear h hx
  cases t with
  | nil => cases h1
  | cons y r =>
    cases r with
    | cons => cases h1
    | nil =>
      obtain ⟨n, hn, h2⟩ := bind_is h1
      obtain ⟨⟨ks, vs⟩, hd, h3⟩ := bind_is h2
      obtain ⟨l, hl, h4⟩ := bind_is h3
      clear h1 h2 h3
      obtain ⟨np, rfl⟩ := osat_is (eX_is _).2.1 hn
      obtain ⟨dp, hdp⟩ := osat_is (eX_is _).2.2 hd
      cases hdp; cases h4
      exact ⟨np, ks, vs, dp, sp, rfl, hl⟩
theorem ctx_in (Γ : Ctx) : Γ.In { handled := Γ.handled, depth := frameCount Γ.below + Γ.code.weight, frames := none, guards := none, units := Γ.units } :=
  ⟨rfl, Nat.le_refl _, fun _ h => (nomatch h), fun _ h => (nomatch h), Nat.le_refl _⟩
theorem wp_table {prog : Program} {w : World} {Γ : Ctx} {env : Env} {st : Stmt} {nm : Str} {data : List (Int × Str)} {c0 : Nat} {Q : Flow → Pos → Shared → Prop} {E : Value → Pos → Shared → Prop} {p : Pos} {s : Shared}
    (ht : isTable st = some (nm, data)) (hc0 : c0 = data.length / 17) (hr0 : data.length % 17 ≠ 0) (hnd : (data.map (·.1)).Nodup) (hz : data.length ≤ 100000) (hN : sysModules < s.heap.objs.size)
    (hQ : ∀ s' p', Grew s s' (c0 + 1) (3 * data.length) s.heap.objs.size (dO (dispE data c0 s.toks).toArray data.length) → Sem.wp (model prog w) Γ (storeName env nm (.ref s.heap.objs.size)) (fun _ => Q .next) E p' s') :
    Sem.wp (model prog w) Γ (exec st env) Q E p s := by
  obtain ⟨np, ks, vs, dp, sp, rfl, hd⟩ := isTable_is ht
  have hs : swapsWith (.Dict ks vs dp) (some (.Name nm np)) sp.line env = pure false := rfl
  simp only [exec_Assign_Name env nm np (.Dict ks vs dp) sp hs, Sem.wp_bind', Sem.wp_cmd_standAt, Sem.wp_bindName, Sem.wp_pure']
  have z : wpAny (model prog w) { handled := Γ.handled, depth := frameCount Γ.below + Γ.code.weight, frames := none, guards := none, units := Γ.units } (eval (.Dict ks vs dp) env)
      (fun v s' => v = .ref s.heap.objs.size ∧ Grew s s' (c0 + 1) (3 * data.length) s.heap.objs.size (dO (dispE data c0 s.toks).toArray data.length)) (fun _ _ => False) s := by
    rw [arm_eval_Dict]
    exact wpAny_bind (wpAny_standAt (wp_display c0 (readLits_items _ _ _ hd) hc0 hr0 hnd hz hN fun s' g => ⟨rfl, g⟩))
  refine Sem.wp_mono _ _ _ (fun v p' s' h => ?_) (fun _ _ _ h => h.elim) _ _ (z Γ _ (ctx_in Γ))
  obtain ⟨rfl, g⟩ := h
  exact hQ s' _ g
theorem rep_cells {T : Cells} {h : Heap} (e : T.map (fun x => h.get? x.1) = T.map fun x => some x.2) : ∀ x ∈ T, h.get? x.1 = some x.2 := by
  induction T with
  | nil => exact fun _ h => (nomatch h)
  | cons y T ih =>
    simp only [List.map_cons, List.cons.injEq] at e
    intro x hx
    rcases List.mem_cons.mp hx with rfl | hx
    · exact e.1
    · exact ih e.2 x hx
end Mine
end
section
namespace Mine
open PySem PySem.W PySem.W.X
theorem table_mid {pw : Program} {w : World} {Γ : Ctx} {env : Env} {st : Stmt} {nm : Str} {data : List (Int × Str)} {c0 n N t : Nat} {o : Obj} {Q : Flow → Pos → Shared → Prop} {E : Value → Pos → Shared → Prop} {p : Pos} {s : Shared}
    (hsz : s.heap.objs.size = N) (htk : s.toks = t) (h1 : isTable st = some (nm, data)) (h2 : data.length = n) (h3 : (data.map (·.1)).Nodup) (hc : c0 = n / 17) (hr : n % 17 ≠ 0) (hz : n ≤ 100000) (hN : sysModules < N) (h4 : dO (dispE data c0 t).toArray n = o)
    (hQ : ∀ s' p', Grew s s' (c0 + 1) (3 * n) N o → Sem.wp (model pw w) Γ (storeName env nm (.ref N)) (fun _ => Q .next) E p' s') :
    Sem.wp (model pw w) Γ (exec st env) Q E p s := by
  subst hsz htk h2 h4
  exact wp_table h1 hc hr h3 hz hN hQ
theorem body_split {M : Model} {Γ : Ctx} {env : Env} {B : List Stmt} {m : Nat} {st : Stmt} {R3 : Shared → Prop} {R5 : Shared → Prop} {p : Pos} {s : Shared}
    (hB : B = B.take m ++ (st :: B.drop (m + 1)))
    (h3 : Sem.wp M Γ ((blockStart B env).bind fun _ => execs (B.take m) env) (fun f _ s' => f = .next ∧ R3 s') (fun _ _ _ => False) p s)
    (h4 : ∀ p s, R3 s → Sem.wp M Γ (exec st env) (fun f p s => f = .next ∧ Sem.wp M Γ (execs (B.drop (m + 1)) env) (fun f _ s' => f = .next ∧ R5 s') (fun _ _ _ => False) p s) (fun _ _ _ => False) p s) :
    Sem.wp M Γ ((blockStart B env).bind fun _ => ((execs B env).onRaise (leaving env)).bind fun f => (Sem.pure (PySem.Fin.done f) : Sem PySem.Fin)) (fun f _ s' => f = .done .next ∧ R5 s') (fun _ _ _ => False) p s := by
  rw [Sem.wp_bind] at h3 ⊢
  refine Sem.wp_mono _ _ _ (fun _ p₁ s₁ h₁ => ?_) (fun _ _ _ h => h.elim) _ _ h3
  rw [Sem.wp_bind, Sem.wp_onRaise]
  have key : Sem.wp M Γ (execs B env) (fun f _ s' => f = .next ∧ R5 s') (fun _ _ _ => False) p₁ s₁ := by
    rw [hB, wp_execs_app]
    refine Sem.wp_mono _ _ _ (fun f p₂ s₂ h₂ => ?_) (fun _ _ _ h => h.elim) _ _ h₁
    obtain ⟨rfl, D₂⟩ := h₂
    show Sem.wp _ _ (execs _ _) _ _ p₂ s₂
    rw [execs_cons, Sem.wp_bind']
    refine Sem.wp_mono _ _ _ (fun f p₃ s₃ h₃ => ?_) (fun _ _ _ h => h.elim) _ _ (h4 p₂ s₂ D₂)
    obtain ⟨rfl, D₃⟩ := h₃
    exact D₃
  refine Sem.wp_mono _ _ _ (fun f p₂ s₂ h₂ => ?_) (fun _ _ _ h => h.elim) _ _ key
  obtain ⟨rfl, D₂⟩ := h₂
  rw [Sem.wp_pure]
  exact ⟨rfl, D₂⟩
theorem seg_ok {E : World0} {F : Fixed} (H : Fits E F) {M : Model} (hM : E.M = M) {α : Type} {m : Sem α} {f : α → Flow} {n : Nat} {Γ : Ctx} {p : Pos} {S : SS} {hs idx : List Nat} {r : Flow} {T : Cells} {N t : Nat}
    (h : ∀ ω, Checks (ev F n Γ p (m.bind fun a => .pure (.done (f a))) [] S hs ω [] []) idx (.ok r) T N t []) (hi : idx.Nodup) {s : Shared} (D : Rep E S s) :
    Sem.wp M Γ m (fun a _ s' => f a = r ∧ Rep E ⟨T, N, 0, t, 0⟩ s') (fun _ _ _ => False) p s := by
  subst hM
  refine Sem.wp_mono _ _ _ (fun a _ s' h' => ?_) (fun e _ s' h' => ?_) _ _ (seg_wp H (r := fun _ => .ok r) (T := fun _ => T) (N := fun _ => N) (t := fun _ => t) (cs := fun _ => []) h hi (fun _ _ h => (nomatch h)) D)
  · obtain ⟨_, h1, h2⟩ := h'
    exact ⟨Except.ok.inj h1, h2⟩
  · obtain ⟨_, h1, _⟩ := h'
    cases h1
theorem body_gen {pw : Program} {w : World} {E : World0} {Γ : Ctx} {env : Env} {B : List Stmt} {m : Nat} {st : Stmt} {nm : Str} {data : List (Int × Str)} {c0 n N t : Nat} {o : Obj} {S2 : SS} {T3 T5 TB : Cells} {N4 t4 N5 t5 : Nat}
    (hden : (model pw w).den Γ.code = (blockStart B env).bind fun _ => ((execs B env).onRaise (leaving env)).bind fun f => (Sem.pure (PySem.Fin.done f) : Sem PySem.Fin))
    (hB : B = B.take m ++ (st :: B.drop (m + 1)))
    (h1 : isTable st = some (nm, data)) (h2 : data.length = n) (h3 : (data.map (·.1)).Nodup) (hc : c0 = n / 17) (hr : n % 17 ≠ 0) (hz : n ≤ 100000) (hN : sysModules < N) (h4 : dO (dispE data c0 t).toArray n = o)
    (hTB : TB = (N, o) :: T3) (hN4 : N4 = N + (c0 + 1)) (ht4 : t4 = t + 3 * n)
    (b_start : ∀ p s, Rep E S2 s → Sem.wp (model pw w) Γ ((blockStart B env).bind fun _ => execs (B.take m) env) (fun f _ s' => f = .next ∧ Rep E ⟨T3, N, 0, t, 0⟩ s') (fun _ _ _ => False) p s)
    (b_end : ∀ p s, Rep E ⟨TB, N4, 0, t4, 0⟩ s → Sem.wp (model pw w) Γ ((storeName env nm (.ref N)).bind fun _ => execs (B.drop (m + 1)) env) (fun f _ s' => f = .next ∧ Rep E ⟨T5, N5, 0, t5, 0⟩ s') (fun _ _ _ => False) p s) :
    ∀ p s, Rep E S2 s → wpCode (model pw w) Γ (fun r s' => r = .ok .next ∧ Rep E ⟨T5, N5, 0, t5, 0⟩ s') p s := by
  intro p s D
  rw [wpCode_iff_wp, hden]
  refine Sem.wp_mono _ _ _ (fun f p s h => ?_) (fun _ _ _ h => h.elim) _ _ (body_split (R5 := fun s' => Rep E ⟨T5, N5, 0, t5, 0⟩ s') hB (b_start p s D) (fun p s D => ?_))
  · obtain ⟨rfl, h⟩ := h
    exact ⟨rfl, h⟩
  · refine table_mid D.size D.toks h1 h2 h3 hc hr hz hN h4 fun s₃ p₃ g => ?_
    have D₃ := D.grew (k := c0) g
    rw [← hTB, ← hN4, ← ht4] at D₃
    have z := b_end p₃ _ D₃
    rw [Sem.wp_bind] at z
    exact Sem.wp_mono _ _ _ (fun _ p₄ s₄ h₄ => ⟨rfl, h₄⟩) (fun _ _ _ h => h.elim) _ _ z
theorem top_gen {pw : Program} {w : World} {E : World0} {Γ : Ctx} {env : Env} {B : List Stmt} {c f : Nat} {S0 S1 S2 S5 : SS}
    (henv : ({ scope := pw.main.scope, locals := mainNs, globals := mainNs, cells := [], code := .ref c, frame := some f } : Env) = env) (hB : behindTheImports pw = B)
    (h1 : ∀ p s, Rep E S0 s → Sem.wp (model pw w) Γ (moduleCode pw.main) (fun a _ s' => Flow.ret a = .ret (.ref c) ∧ Rep E S1 s') (fun _ _ _ => False) p s)
    (h2 : ∀ p s, Rep E S1 s → Sem.wp (model pw w) Γ (newBodyFrame (.ref c) mainNs mainNs) (fun a _ s' => Flow.ret (.ref a) = .ret (.ref f) ∧ Rep E S2 s') (fun _ _ _ => False) p s)
    (h3 : ∀ p q s, Rep E S2 s → wpCode (model pw w) (Γ.enter (.body B env) none q) (fun r s' => r = .ok .next ∧ Rep E S5 s') p s) (hg : E.G = #[]) :
    ∀ p s, Rep E S0 s → Sem.wp (model pw w) Γ (topStub pw).cur (Sem.finPost (model pw w) Γ fun r s' => (∃ f, r = .ok f) ∧ Rep E S5 s' ∧ s'.gens = #[]) (fun _ _ _ => False) p s := by
  intro p s D
  show Sem.wp _ _ (moduleCode pw.main >>= _) _ _ p _
  rw [Sem.wp_bind']
  refine Sem.wp_mono _ _ _ (fun a p₁ s₁ h₁ => ?_) (fun _ _ _ h => h.elim) _ _ (h1 p s D)
  obtain ⟨ha, D₁⟩ := h₁
  simp only [Flow.ret.injEq] at ha
  subst ha
  rw [Sem.wp_bind']
  refine Sem.wp_mono _ _ _ (fun a p₂ s₂ h₂ => ?_) (fun _ _ _ h => h.elim) _ _ (h2 p₁ s₁ D₁)
  obtain ⟨ha, D₂⟩ := h₂
  simp only [Flow.ret.injEq, Value.ref.injEq] at ha
  subst ha
  rw [henv, hB, Sem.wp_bind']
  show Sem.wp _ _ (Sem.call _ none false [] _) _ _ p₂ s₂
  rw [Sem.wp_call]
  refine wpCode_mono ?_ (h3 p₂ p₂ s₂ D₂)
  rintro r s₃ ⟨rfl, D₃⟩
  show Sem.wp _ _ (Sem.pure Flow.next) _ _ p₂ s₃
  rw [Sem.wp_pure]
  show Sem.wp _ _ (Sem.pure (PySem.Fin.done (.ret .none))) _ _ p₂ s₃
  rw [Sem.wp_pure]
  exact ⟨⟨_, rfl⟩, D₃, D₃.gens.trans hg⟩
end Mine
end
section
namespace Mine
open PySem PySem.W
noncomputable def nd : Step → Prop
  | .halt (.done _) _ => False
  | _ => True
theorem step_done {den : Code → Sem Fin} {prog : Program} {w : World} {s s' : Shared} {t : Thread} {f : Flow} (h : step den prog w s t = .halt (.done f) s') : s' = s ∧ through t = true := by
  refine ⟨step_halt_same den prog w s s' t _ h, ?_⟩
  have g : nd (step den prog w s t) → through t = true := fun g => by rw [h] at g; exact g.elim
  clear h
  obtain ⟨heap, gens, drawn, toks, os⟩ := s
  obtain ⟨cur, code, pos, stack⟩ := t
  cases cur with
  | pure q =>
    cases q with
    | done f' =>
      cases stack with
      | nil => rfl
      | cons fr rest => cases fr <;> exact g trivial
    | again c => exact g trivial
  | raise e =>
    refine g ?_
    cases stack with
    | nil => delta step finish; dsimp only; cases leftWithCleanup gens <;> exact trivial
    | cons fr rest => cases fr <;> exact trivial
  | finish e => refine g ?_; delta step; dsimp only; cases leftWithCleanup gens <;> exact trivial
  | load a q k => refine g ?_; delta step; dsimp only; cases heap.get? a <;> exact trivial
  | update a q f k => refine g ?_; delta step; dsimp only; cases (heap.get? a).isSome <;> exact trivial
  | choose src n k => refine g ?_; cases n <;> exact trivial
  | genState a k => refine g ?_; delta step; dsimp only; cases gens[a]? <;> exact trivial
  | resume a r l k =>
    refine g ?_
    delta step; dsimp only
    cases gens[a]? with
    | none => exact trivial
    | some x =>
      cases x with
      | fresh c =>
        cases r with
        | send v => cases v <;> exact trivial
        | throw e => exact trivial
      | _ => exact trivial
  | yield v a l k =>
    refine g ?_
    delta step; dsimp only
    rcases splitAtGen stack with _ | ⟨x, ⟨g', k', c', p'⟩, r⟩ <;> exact trivial
  | _ => exact g trivial
theorem sched_of_run {den : Code → Sem Fin} {prog : Program} {w : World} {f : Flow} {s' : Shared} : ∀ (n : Nat) (s : Shared) (t : Thread), s.asleep → runN den prog w n s t = .halted (.done f) s' →
    (∀ k s₁ t₁, runN den prog w k s t = .running s₁ t₁ → t₁.calm = true) → ∃ k t₁, schedN den prog w k (.single s t) = .running (.single s' t₁) ∧ through t₁ = true ∧ s'.heap.life = s.heap.life
  | 0, _, _, _, h, _ => by simp [runN] at h
  | n + 1, s, t, hr, h, hc => by
    have hc0 : t.calm = true := hc 0 s t rfl
    unfold runN at h
    cases hs : step den prog w s t with
    | halt o s₂ =>
      rw [hs] at h
      simp only [Run.halted.injEq] at h
      obtain ⟨rfl, rfl⟩ := h
      obtain ⟨rfl, ht⟩ := step_done hs
      exact ⟨0, t, rfl, ht, rfl⟩
    | go s₂ t₂ =>
      rw [hs] at h
      have hl := step_life den prog w s s₂ t t₂ hs
      obtain ⟨k, t₁, hk, ht, hlf⟩ := sched_of_run n s₂ t₂ (Shared.asleep_of_life hl hr) h fun k s₁ t₁ e => hc (k + 1) s₁ t₁ (by show (match step den prog w s t with | .go s' t' => runN den prog w k s' t' | .halt o s' => .halted o s') = _; rw [hs]; exact e)
      have e : sstep den prog w (.single s t) = .go (.single s₂ t₂) := by
        rcases sstep_single den prog w s t hc0 hr with e | e
        · rw [e, hs]; rfl
        · rw [hs] at e; cases e
      exact ⟨k + 1, t₁, by simp only [schedN, e]; exact hk, ht, hlf.trans hl⟩
theorem top_sched {M : Model} {c : Code} {t : Sem Fin} {p : Pos} {s : Shared} {R : Shared → Prop} (hreg : s.asleep)
    (h : Sem.wp M ⟨c, none, none, [], none⟩ t (Sem.finPost M ⟨c, none, none, [], none⟩ fun r s' => (∃ f, r = .ok f) ∧ R s' ∧ s'.gens = #[]) (fun _ _ _ => False) p s) :
    ∃ n s₁ t₁, schedN M.den M.prog M.w n (.single s ⟨t, c, p, []⟩) = .running (.single s₁ t₁) ∧ through t₁ = true ∧ R s₁ ∧ s₁.gens = #[] ∧ s₁.heap.life = s.heap.life := by
  obtain ⟨n, r, s', hn, ⟨f, rfl⟩, hR, hg⟩ := (wp_iff_halts (R := fun r s' => (∃ f, r = .ok f) ∧ R s' ∧ s'.gens = #[]) t p s).mp
    (Sem.wp_mono _ _ _ (fun fin p' s' x => finPost_mono (fun r s' hr => ⟨hr, by rw [hr.2.2]; simp [leftWithCleanup]⟩) x) (fun _ _ _ x => x.elim) _ _ h)
  obtain ⟨s'', hr, hf, hc⟩ := runNI_real M.den M.prog M.w hn (outcomeOf_ends _)
  have e := Shared.eq_of_forget_eq hf hg
  subst e
  obtain ⟨k, t₁, hk, ht, hl⟩ := sched_of_run n s _ hreg hr hc
  exact ⟨k, s'', t₁, hk, ht, hR, hg, hl⟩
end Mine
end
section
namespace Mine
open PySem PySem.W
theorem isNs_eq {h h' : Heap} {a : Addr} (e : h.get? a = h'.get? a) : h.isNs a = h'.isNs a := by unfold Heap.isNs; rw [e]
theorem nsKeys_eq {h h' : Heap} {a : Addr} (e : h.get? a = h'.get? a) : h.nsKeys a = h'.nsKeys a := by unfold Heap.nsKeys; rw [e]
theorem nsMap_eq {h h' : Heap} {a : Addr} (e : h.get? a = h'.get? a) : h.nsMap a = h'.nsMap a := by funext x; unfold Heap.nsMap; rw [e]
theorem nsPairs_eq {h h' : Heap} {a : Addr} (e : h.get? a = h'.get? a) : h.nsPairs a = h'.nsPairs a := by unfold Heap.nsPairs; rw [e]
theorem bltView_eq {h h' : Heap} (e : h.get? builtinsNs = h'.get? builtinsNs) : h.bltView = h'.bltView := by unfold Heap.bltView; rw [nsPairs_eq e]
theorem accounted_eq {h h' : Heap} {mods : List Str} (e : h.get? cStatics = h'.get? cStatics) : h.accountedOkI mods = h'.accountedOkI mods := by
  unfold Heap.accountedOkI; rw [isNs_eq e, nsKeys_eq e, nsMap_eq e]
theorem staticsOk_eq {h₀ h h' : Heap} {mods : List Str} (e : h.get? cStatics = h'.get? cStatics) : staticsOk mods h₀ h = staticsOk mods h₀ h' := by
  unfold staticsOk; rw [isNs_eq e, nsKeys_eq e, nsMap_eq e]
theorem namesBound_eq {p : Program} {h h' : Heap} (e : h.get? mainGlobals = h'.get? mainGlobals) : namesBound p h = namesBound p h' := by
  unfold namesBound; rw [isNs_eq e, nsKeys_eq e]
theorem laidKept_eq {h₀ h h' : Heap} (e : h.get? mainGlobals = h'.get? mainGlobals) : laidKept h₀ h = laidKept h₀ h' := by
  unfold laidKept; rw [isNs_eq e, nsMap_eq e]
noncomputable def bmAt (h : Heap) (bm : Addr) : Bool := match h.nsMap mainGlobals "__builtins__" with
  | some (.ref b) => b == bm
  | _ => false
noncomputable def bmIs (h : Heap) (bm : Addr) : Bool := match h.get? bm with
  | some ⟨.type n, some d, _, _⟩ => n == "module" && d == builtinsNs
  | _ => false
theorem topRan_gen {p : Program} {w : World} {s₀ s₁ : Shared} {Hs : Heap} {bm : Addr}
    (hrun : ∃ n t, schedN (denote table) p w n (.single s₀ (topStub p)) = .running (.single s₁ t) ∧ through t = true)
    (hlife : s₁.heap.life = s₀.heap.life) (hos : s₁.os = s₀.os) (hg : s₁.gens = #[])
    (keep : ∀ b o, s₀.heap.get? b = some o → b ≠ mainNs → b ≠ cStatics → s₁.heap.get? b = some o)
    (a0 : s₁.heap.get? mainNs = Hs.get? mainNs) (a1 : s₁.heap.get? cStatics = Hs.get? cStatics) (a2 : s₁.heap.get? builtinsNs = Hs.get? builtinsNs) (a3 : s₁.heap.get? bm = Hs.get? bm)
    (chk : (staticsOk (importedModules p.main.body) s₀.heap Hs && Hs.accountedOkI (importedModules p.main.body) && Hs.isNs mainNs && Hs.isNs builtinsNs && namesBound p Hs && laidKept s₀.heap Hs && bmAt Hs bm && bmIs Hs bm) = true)
    (eb : Hs.bltView = bltViewBooted) : TopRan p w s₀ s₁ := by
  simp only [Bool.and_eq_true] at chk
  obtain ⟨⟨⟨⟨⟨⟨⟨c1, c2⟩, c3⟩, c4⟩, c5⟩, c6⟩, c7⟩, c8⟩ := chk
  have hm : s₁.heap.isNs mainNs = true := (isNs_eq a0).trans c3
  have hb : s₁.heap.isNs builtinsNs = true := (isNs_eq a2).trans c4
  refine ⟨hrun, hlife, Shared.rest_eq hos, fun b o e hn => keep b o e (fun q => hn (.inl q)) (fun q => hn (.inr (.inl q))),
    Heap.accountedI_of_ok ((accounted_eq a1).trans c2), statics_of_ok ((staticsOk_eq a1).trans c1), Pin.keysAreStrs_of hm,
    fun x hx => (Pin.builtinOf_eq hb x).trans (Heap.of_bltView hb ((bltView_eq a2).trans eb) x hx), ?_, by rw [hg]; simp, names_of_bound ((namesBound_eq a0).trans c5), laid_of_kept ((laidKept_eq a0).trans c6)⟩
  unfold bmAt at c7
  unfold bmIs at c8
  split at c7
  · rename_i b hb'
    obtain rfl := beq_iff_eq.mp c7
    split at c8
    · rename_i n d x1 x2 ho
      simp only [Bool.and_eq_true, beq_iff_eq] at c8
      obtain ⟨rfl, rfl⟩ := c8
      exact ⟨b, _, (Pin.globalOf_eq (h := s₁.heap) hm _).trans ((congrFun (nsMap_eq (a := mainNs) a0) _).trans hb'), a3.trans ho, rfl, rfl⟩
    · cases c8
  · cases c7
end Mine
end
section
namespace Mine.R
open PySem PySem.W PySem.W.X
noncomputable def frozen (o : Obj) : Bool := match o.data with
  | .seq _ _ => match o.cls with
    | .type s => s == "tuple"
    | _ => false
  | _ => false
structure KF where
  Γ : Ctx
  p : Pos
  k : Result → Sem Fin
  d : Nat
structure Fixed where
  den : Code → Sem Fin
  quiet : Code → Bool
  prog : Program
  par : Params
  kt : KT
  kl : Cells
  rules : Nat → Rule
noncomputable def getC (F : Fixed) (S : SS) (i : Nat) : Option (Nat × Obj) := match Nat.ble 100000 i with
  | true => gt F.kl (i - 100000)
  | false => gt S.T i
noncomputable def ev (F : Fixed) : Nat → Nat → Ctx → Pos → Sem Fin → List KF → SS → List Nat → (Nat → Nat) → List (V × V) → List Prop → Option Out
  | 0, _, _, _, _, _, _, _, _, _, _ => none
  | n + 1, d, Γ, p, t, κ, S, hs, ω, acc, cs => match t with
    | .pure f => match f with
      | .done f => match κ with
        | [] => some ⟨.ok f, S, hs, ω, acc, cs⟩
        | K :: κ => ev F n K.d K.Γ K.p (K.k (.ok f)) κ S hs ω acc cs
      | .again c => match F.quiet c with
        | false => none
        | true => match hs with
          | [] => none
          | h :: hs => match h with
            | 0 => ev F n d (Γ.goto c) p (F.den c) κ S hs ω acc cs
            | r + 1 => match F.rules r (Γ.goto c) c S hs ω acc cs with
              | none => none
              | some o => match κ with
                | [] => some o
                | K :: κ => ev F n K.d K.Γ K.p (K.k o.r) κ o.S o.hs o.ω o.acc o.cs
    | .raise e => match κ with
      | [] => some ⟨.error e, S, hs, ω, acc, cs⟩
      | K :: κ => ev F n K.d K.Γ K.p (K.k (.error e)) κ S hs ω acc cs
    | .rule _ k => ev F n d Γ p (k ()) κ S hs ω acc cs
    | .at q k => ev F n d Γ q (k ()) κ S hs ω acc cs
    | .point _ k => ev F n d Γ p (k ()) κ S hs ω acc cs
    | .ask k => ev F n d Γ p (k ⟨F.prog, F.par⟩) κ S hs ω acc cs
    | .handled own k => ev F n d Γ p (k (if own then Γ.own else Γ.handled)) κ S hs ω acc cs
    | .stack k => ev F n d Γ p (k ((Γ.code, p) :: Γ.below)) κ S hs ω acc cs
    | .fresh k => ev F n d Γ p (k (S.tb + S.ti)) κ ⟨S.T, S.b, S.j, S.tb, S.ti + 1⟩ hs ω acc cs
    | .load a _ k => match hs with
      | [] => none
      | h :: hs => match h with
        | 0 => match F.kt.get a with
          | some o => ev F n d Γ p (k o) κ S hs ω acc cs
          | none => none
        | i + 1 => match getC F S i with
          | some x => ev F n d Γ p (k x.2) κ S hs ω ((.n a, .n x.1) :: acc) cs
          | none => none
    | .loadIfAlive a k => match hs with
      | [] => none
      | h :: hs => match h with
        | 0 => match F.kt.get a with
          | some o => ev F n d Γ p (k (some o)) κ S hs ω acc cs
          | none => none
        | i + 1 => match getC F S i with
          | some x => ev F n d Γ p (k (some x.2)) κ S hs ω ((.n a, .n x.1) :: acc) cs
          | none => none
    | .update a _ f k => match hs with
      | [] => none
      | h :: hs => match h with
        | 0 => none
        | i + 1 => match gt S.T i with
          | some x => match alive (f x.2) && !frozen x.2 with
            | true => ev F n d Γ p (k ()) κ ⟨st S.T i (f x.2), S.b, S.j, S.tb, S.ti⟩ hs ω ((.n a, .n x.1) :: acc) cs
            | false => none
          | none => none
    | .alloc o k => match alive o with
      | true => ev F n d Γ p (k (S.b + S.j)) κ ⟨(S.b + S.j, o) :: S.T, S.b, S.j + 1, S.tb, S.ti⟩ hs ω acc cs
      | false => none
    | .call c h _ _ k => match d with
      | 0 => none
      | d' + 1 => match hs with
        | [] => none
        | h' :: hs => match h' with
          | 0 => ev F n d' (Γ.enter c h p) p (F.den c) (⟨Γ, p, k, d' + 1⟩ :: κ) S hs ω acc cs
          | r + 1 => match F.rules r (Γ.enter c h p) c S hs ω acc cs with
            | none => none
            | some o => ev F n (d' + 1) Γ p (k o.r) κ o.S o.hs o.ω o.acc o.cs
    | .unsupported _ => none
    | .finish _ => none
    | .register .. => none
    | .choose .. => none
    | .os .. => none
    | .newGen .. => none
    | .genState .. => none
    | .resume .. => none
    | .yield .. => none
    | .fork .. => none
    | .thread _ => none
    | .await .. => none
structure World0 where
  M : Model
  kt : KT
  K : Cells
  t0 : Nat
  P0 : Nat
  h0 : Heap
  X : List Nat
  G : Array GenState
  D : Drawn
  O : OsState
structure Rep (E : World0) (S : SS) (s : Shared) : Prop where
  size : s.heap.objs.size = S.b + S.j
  toks : s.toks = S.tb + S.ti
  cell : ∀ x ∈ S.T, s.heap.get? x.1 = some x.2
  nodup : (S.T.map (·.1)).Nodup
  own : ∀ x ∈ S.T, E.P0 ≤ x.1 ∧ (x.1 ∈ E.X ∨ E.h0.get? x.1 = none)
  known : ∀ i o, E.kt.get i = some o → i < E.P0 ∧ s.heap.get? i = some o
  keep : ∀ b o, E.h0.get? b = some o → b ∉ E.X → s.heap.get? b = some o
  low : E.P0 ≤ S.b + S.j
  old : E.h0.objs.size ≤ S.b + S.j
  gens : s.gens = E.G
  drawn : s.drawn = E.D
  os : s.os = E.O
  froz : ∀ x ∈ E.K, s.heap.get? x.1 = some x.2 ∧ frozen x.2 = true
  told : E.t0 ≤ S.tb + S.ti
noncomputable def loadOf (l : List (Code × Pos)) : Nat := frameCount l + unitsOf l
structure Valid (E : World0) (B : Nat) (ru : Rule) : Prop where
  grow : ∀ {Γ c S hs ω acc cs o}, ru Γ c S hs ω acc cs = some o → Sub acc o.acc ∧ ∀ q ∈ cs, q ∈ o.cs
  says : ∀ {Γ : Ctx} {c S hs acc cs p s}, Γ.code = c → loadOf Γ.below ≤ B → Rep E S s → (∀ ω, ∃ o, ru Γ c S hs ω acc cs = some o ∧ Holds o) →
    wpCode E.M Γ (fun r s' => ∃ (x : Nat → Nat) (o : Out), (∀ ω, ru Γ c S hs (mix x ω) acc cs = some ⟨o.r, o.S, o.hs, ω, o.acc, o.cs⟩) ∧ o.r = r ∧ Rep E o.S s') p s
noncomputable def wpK (M : Model) (R : Result → Shared → Prop) : List KF → Result → Shared → Prop
  | [], r, s => R r s
  | K :: κ, r, s => Sem.wp M K.Γ (K.k r) (Sem.finPost M K.Γ (wpK M R κ)) (fun e _ s' => wpK M R κ (.error e) s') K.p s
section
variable {E : World0} {F : Fixed}
theorem ev_grow {B : Nat} (hv : ∀ r, Valid E B (F.rules r)) : ∀ (n d : Nat) (Γ : Ctx) (p : Pos) (t : Sem Fin) (κ : List KF) (S : SS) (hs : List Nat) (ω : Nat → Nat) (acc : List (V × V)) (cs : List Prop) (o : Out),
    ev F n d Γ p t κ S hs ω acc cs = some o → Sub acc o.acc ∧ ∀ q ∈ cs, q ∈ o.cs := by
  intro n
  induction n with
  | zero => intro d Γ p t κ S hs ω acc cs o h; simp [ev] at h
  | succ n ih =>
    intro d Γ p t κ S hs ω acc cs o h
    cases t with
    | pure f =>
      cases f with
      | done f =>
        cases κ with
        | nil => simp only [ev, Option.some.injEq] at h; subst h; exact ⟨fun _ q => q, fun _ q => q⟩
        | cons K κ => exact ih _ _ _ _ _ _ _ _ _ _ _ h
      | again c =>
        simp only [ev] at h
        split at h
        · cases h
        · split at h
          · cases h
          · split at h
            · exact ih _ _ _ _ _ _ _ _ _ _ _ h
            · split at h
              · cases h
              · rename_i o' e
                obtain ⟨g1, g2⟩ := (hv _).grow e
                split at h
                · cases h; exact ⟨g1, g2⟩
                · obtain ⟨g3, g4⟩ := ih _ _ _ _ _ _ _ _ _ _ _ h
                  exact ⟨fun x q => g3 x (g1 x q), fun x q => g4 x (g2 x q)⟩
    | raise e =>
      cases κ with
      | nil => simp only [ev, Option.some.injEq] at h; subst h; exact ⟨fun _ q => q, fun _ q => q⟩
      | cons K κ => exact ih _ _ _ _ _ _ _ _ _ _ _ h
    | rule _ k => exact ih _ _ _ _ _ _ _ _ _ _ _ h
    | «at» _ k => exact ih _ _ _ _ _ _ _ _ _ _ _ h
    | point _ k => exact ih _ _ _ _ _ _ _ _ _ _ _ h
    | ask k => exact ih _ _ _ _ _ _ _ _ _ _ _ h
    | handled own k => exact ih _ _ _ _ _ _ _ _ _ _ _ h
    | stack k => exact ih _ _ _ _ _ _ _ _ _ _ _ h
    | fresh k => exact ih _ _ _ _ _ _ _ _ _ _ _ h
    | load a q k =>
      simp only [ev] at h
      split at h
      · cases h
      · split at h
        · split at h
          · exact ih _ _ _ _ _ _ _ _ _ _ _ h
          · cases h
        · split at h
          · obtain ⟨g3, g4⟩ := ih _ _ _ _ _ _ _ _ _ _ _ h
            exact ⟨fun x q => g3 x (.tail _ q), g4⟩
          · cases h
    | loadIfAlive a k =>
      simp only [ev] at h
      split at h
      · cases h
      · split at h
        · split at h
          · exact ih _ _ _ _ _ _ _ _ _ _ _ h
          · cases h
        · split at h
          · obtain ⟨g3, g4⟩ := ih _ _ _ _ _ _ _ _ _ _ _ h
            exact ⟨fun x q => g3 x (.tail _ q), g4⟩
          · cases h
    | update a q f k =>
      simp only [ev] at h
      split at h
      · cases h
      · split at h
        · cases h
        · split at h
          · split at h
            · obtain ⟨g3, g4⟩ := ih _ _ _ _ _ _ _ _ _ _ _ h
              exact ⟨fun x q => g3 x (.tail _ q), g4⟩
            · cases h
          · cases h
    | alloc o' k =>
      simp only [ev] at h
      split at h
      · exact ih _ _ _ _ _ _ _ _ _ _ _ h
      · cases h
    | call c hd g l k =>
      simp only [ev] at h
      split at h
      · cases h
      · split at h
        · cases h
        · split at h
          · exact ih _ _ _ _ _ _ _ _ _ _ _ h
          · split at h
            · cases h
            · rename_i o' e
              obtain ⟨g1, g2⟩ := (hv _).grow e
              obtain ⟨g3, g4⟩ := ih _ _ _ _ _ _ _ _ _ _ _ h
              exact ⟨fun x q => g3 x (g1 x q), fun x q => g4 x (g2 x q)⟩
    | unsupported => simp [ev] at h
    | finish => simp [ev] at h
    | register => simp [ev] at h
    | choose => simp [ev] at h
    | os => simp [ev] at h
    | newGen => simp [ev] at h
    | genState => simp [ev] at h
    | resume => simp [ev] at h
    | yield => simp [ev] at h
    | fork => simp [ev] at h
    | thread => simp [ev] at h
    | await => simp [ev] at h
theorem Rep.fresh {S : SS} {s : Shared} (D : Rep E S s) : Rep E ⟨S.T, S.b, S.j, S.tb, S.ti + 1⟩ { s with toks := s.toks + 1 } :=
  ⟨D.size, by show s.toks + 1 = S.tb + (S.ti + 1); rw [D.toks]; omega, D.cell, D.nodup, D.own, D.known, D.keep, D.low, D.old, D.gens, D.drawn, D.os, D.froz, Nat.le_trans D.told (Nat.le_succ _)⟩
theorem Rep.alloc {S : SS} {s : Shared} (D : Rep E S s) {o : Obj} (ha : alive o = true) : Rep E ⟨(S.b + S.j, o) :: S.T, S.b, S.j + 1, S.tb, S.ti⟩ { s with heap := s.heap.push o } := by
  have hf := alive_free ha
  refine ⟨?_, D.toks, ?_, ?_, ?_, ?_, ?_, ?_, ?_, D.gens, D.drawn, D.os, fun x hx => ⟨Heap.get?_push_of_some _ (D.froz x hx).1, (D.froz x hx).2⟩, D.told⟩
  · show (s.heap.push o).objs.size = S.b + (S.j + 1)
    have := Heap.size_push s.heap o
    rw [this, D.size]; omega
  · intro x hx
    simp only [List.mem_cons] at hx
    rcases hx with rfl | hx
    · show (s.heap.push o).get? (S.b + S.j) = some o
      rw [← D.size]; exact Heap.get?_push_size _ hf
    · exact Heap.get?_push_of_some _ (D.cell x hx)
  · simp only [List.map_cons, List.nodup_cons]
    refine ⟨fun hm => ?_, D.nodup⟩
    obtain ⟨y, hy, e⟩ := List.mem_map.mp hm
    have := Heap.lt_size (D.cell y hy)
    rw [D.size, e] at this
    exact absurd this (Nat.lt_irrefl _)
  · intro x hx
    simp only [List.mem_cons] at hx
    rcases hx with rfl | hx
    · refine ⟨D.low, .inr ?_⟩
      cases q : E.h0.get? (S.b + S.j) with
      | none => rfl
      | some o' => exact absurd (Heap.lt_size q) (Nat.not_lt.mpr D.old)
    · exact D.own x hx
  · intro i o' e
    exact ⟨(D.known i o' e).1, Heap.get?_push_of_some _ (D.known i o' e).2⟩
  · intro b o' e hb
    exact Heap.get?_push_of_some _ (D.keep b o' e hb)
  · show E.P0 ≤ S.b + (S.j + 1); have := D.low; omega
  · show E.h0.objs.size ≤ S.b + (S.j + 1); have := D.old; omega
theorem Rep.update {S : SS} {s : Shared} (D : Rep E S s) {i : Nat} {x : Nat × Obj} {f : Obj → Obj} (hi : gt S.T i = some x) (ha : alive (f x.2) = true) (hz : frozen x.2 = false) :
    Rep E ⟨st S.T i (f x.2), S.b, S.j, S.tb, S.ti⟩ { s with heap := s.heap.update x.1 f } := by
  have hf := alive_free ha
  have hm := gt_mem hi
  have hx := D.cell x hm
  have ge : (s.heap.update x.1 f).get? x.1 = some (f x.2) := by first | exact Heap.get?_update_self f hx hf | exact Heap.get?_update_self _ hx hf
  have ne : ∀ b, b ≠ x.1 → (s.heap.update x.1 f).get? b = s.heap.get? b := fun b hb => Heap.get?_update_ne _ _ _ _ hb
  refine ⟨?_, D.toks, ?_, ?_, ?_, ?_, ?_, D.low, D.old, D.gens, D.drawn, D.os, fun y hy => ⟨(ne y.1 ?_).trans (D.froz y hy).1, (D.froz y hy).2⟩, D.told⟩
  · show (s.heap.update x.1 f).objs.size = _
    rw [← D.size]
    exact Heap.size_update ..
  · intro y hy
    rcases st_mem D.nodup hi hy with ⟨e1, e2⟩ | ⟨hy, hn⟩
    · rw [e1, e2]; exact ge
    · exact (ne _ hn).trans (D.cell y hy)
  · show ((st S.T i (f x.2)).map (·.1)).Nodup
    rw [st_keys]; exact D.nodup
  · intro y hy
    rcases st_mem D.nodup hi hy with ⟨e1, e2⟩ | ⟨hy, _⟩
    · rw [e1]; exact D.own x hm
    · exact D.own y hy
  · intro b o e
    refine ⟨(D.known b o e).1, (ne b ?_).trans (D.known b o e).2⟩
    intro q
    have h1 := (D.known b o e).1
    have h2 := (D.own x hm).1
    omega
  · intro b o e hb
    refine (ne b ?_).trans (D.keep b o e hb)
    intro q
    rcases (D.own x hm).2 with h | h
    · exact hb (q ▸ h)
    · rw [← q, e] at h; cases h
  · intro q
    have h1 := (D.froz y hy).1
    rw [q, hx] at h1
    have h2 := (D.froz y hy).2
    rw [← Option.some.inj h1, hz] at h2
    cases h2
theorem getC_at {S : SS} {s : Shared} (D : Rep E S s) (hkl : F.kl = E.K) {i : Nat} {x : Nat × Obj} (h : getC F S i = some x) : s.heap.get? x.1 = some x.2 := by
  unfold getC at h
  split at h
  · exact (D.froz x (hkl ▸ gt_mem h)).1
  · exact D.cell x (gt_mem h)
structure DenOk (E : World0) (den : Code → Sem Fin) (B : Nat) : Prop where
  caller : ∀ c, Code.isCaller c = true → ∃ w, den c = .unsupported w
  says : ∀ {Γ : Ctx} {p s} {R : Result → Shared → Prop}, loadOf Γ.below ≤ B → Γ.code.weight ≤ 5 → Sem.wp E.M Γ (den Γ.code) (Sem.finPost E.M Γ R) (fun e _ s' => R (.error e) s') p s → wpCode E.M Γ R p s
theorem dite_le {n : Nat} {c : Prop} {_ : Decidable c} {a : c → Nat} {b : ¬c → Nat} (h1 : ∀ h, a h ≤ n) (h2 : ∀ h, b h ≤ n) : dite c a b ≤ n := by
  by_cases h : c
  · rw [dif_pos h]; exact h1 h
  · rw [dif_neg h]; exact h2 h
theorem ite_le {c : Prop} [Decidable c] : (if c then 1 else 0) ≤ 1 := dite_le (fun _ => Nat.le_refl _) fun _ => Nat.zero_le _
theorem frames_le (c : Code) : c.frames ≤ 3 := by
  have z : ∀ {c : Prop} [Decidable c], (if c then 1 else 0) ≤ 3 := fun {_} _ => Nat.le_trans ite_le (by decide)
  have y : ∀ {x : Nat}, x.ble 3 = true → x ≤ 3 := Nat.le_of_ble_eq_true
  cases c with
  | builtin n a =>
    delta Code.frames Code.frames.match_1
    dsimp only
    iterate 9
      refine dite_le (fun h => ?_) fun _ => ?_
      · subst h; exact y rfl
    exact z (c := Code.isFrame (.builtin n a) = true)
  | compStart e d i a g => exact z (c := Code.isFrame (.compStart e d i a g) = true)
  | compLoop e d i a g => exact z (c := Code.isFrame (.compLoop e d i a g) = true)
  | _ => exact y rfl
theorem weight_le {c : Code} (h : Code.isCaller c = false) : c.weight ≤ 5 := by
  unfold Code.weight
  rw [h]
  have h1 := frames_le c
  have h2 := ite_le (c := c.isCreation = true)
  have h3 := ite_le (c := c.isGuard = true)
  rw [if_neg Bool.false_ne_true]
  omega
theorem units_le (c : Code) : c.cUnits ≤ 10 := by
  have h1 := frames_le c
  have h2 : 3 * c.frames ≤ 9 := Nat.mul_le_mul_left 3 h1
  cases c with
  | builtin => exact Nat.add_le_add_left h2 1
  | call => exact Nat.le_of_ble_eq_true rfl
  | _ => exact Nat.le_trans h2 (by decide)
noncomputable def COk (B : Nat) (Γ : Ctx) (d : Nat) : Prop := loadOf Γ.below + 16 * d ≤ B ∧ Γ.code.weight ≤ 5
noncomputable def KOk (B : Nat) (K : KF) : Prop := COk B K.Γ K.d
theorem ev_sound {B : Nat} (hv : ∀ r, Valid E B (F.rules r)) (hden : DenOk E F.den B) (hq : ∀ c, F.quiet c = true → c.quiet = true) (hprog : F.prog = E.M.prog) (hpar : F.par = E.M.w.params) (hkt : F.kt = E.kt) (hkl : F.kl = E.K)
    {R : Result → Shared → Prop} {Fn : Out → Prop} (hR : ∀ o s, Fn o → Rep E o.S s → R o.r s) :
    ∀ (n d : Nat) (Γ : Ctx) (p : Pos) (t : Sem Fin) (κ : List KF) (S : SS) (hs : List Nat) (acc : List (V × V)) (cs : List Prop), COk B Γ d → (∀ K ∈ κ, KOk B K) →
      (∀ ω, ∃ o, ev F n d Γ p t κ S hs ω acc cs = some o ∧ Holds o ∧ Fn o) → ∀ s, Rep E S s →
      Sem.wp E.M Γ t (Sem.finPost E.M Γ (wpK E.M R κ)) (fun e _ s' => wpK E.M R κ (.error e) s') p s := by
  intro n
  induction n with
  | zero =>
    intro d Γ p t κ S hs acc cs _ _ h s _
    obtain ⟨o, e, _⟩ := h fun _ => 0
    simp [ev] at e
  | succ n ih =>
    intro d Γ p t κ S hs acc cs hd hκ h s D
    have h0 := h fun _ => 0
    -- a code's rule
    have hrule : ∀ (r : Nat) (Γ' : Ctx) (c : Code) (hs : List Nat) (κ' : List KF) (p' : Pos) (Q : Result → Shared → Prop) (cont : Out → Option Out),
        Γ'.code = c → loadOf Γ'.below ≤ B → (∀ ω, ∃ o, (match F.rules r Γ' c S hs ω acc cs with | none => none | some o => cont o) = some o ∧ Holds o ∧ Fn o) →
        (∀ o o', cont o = some o' → Sub o.acc o'.acc ∧ ∀ q ∈ o.cs, q ∈ o'.cs) →
        (∀ (o : Out) s', (∀ ω, ∃ o', cont ⟨o.r, o.S, o.hs, ω, o.acc, o.cs⟩ = some o' ∧ Holds o' ∧ Fn o') → Rep E o.S s' → Q o.r s') →
        wpCode E.M Γ' Q p' s := by
      intro r Γ' c hs κ' p' Q cont hc hf hh hg hQ
      have hsay := (hv r).says (p := p') hc hf D (hs := hs) (acc := acc) (cs := cs) (fun ω => by
        obtain ⟨o', e, ⟨ha, hc'⟩, _⟩ := hh ω
        split at e
        · cases e
        · rename_i o eo
          obtain ⟨g1, g2⟩ := hg o o' e
          exact ⟨o, eo, fun q hq => ha q (g1 q hq), fun q hq => hc' q (g2 q hq)⟩)
      refine wpCode_mono ?_ hsay
      rintro r' s' ⟨x, o, hx, rfl, D'⟩
      refine hQ o s' (fun ω => ?_) D'
      obtain ⟨o', e, hH, hF⟩ := hh (mix x ω)
      rw [hx ω] at e
      exact ⟨o', e, hH, hF⟩
    cases t with
    | pure f =>
      cases f with
      | done f =>
        rw [Sem.wp_pure]
        show wpK E.M R κ (.ok f) s
        cases κ with
        | nil =>
          obtain ⟨o, e, hH, hF⟩ := h0
          simp only [ev, Option.some.injEq] at e
          subst e
          exact hR _ s hF D
        | cons K κ => exact ih _ _ _ _ _ _ _ _ _ (hκ K (.head _)) (fun K' h' => hκ K' (.tail _ h')) h s D
      | again c =>
        rw [Sem.wp_pure]
        show c.quiet = true ∧ wpCode E.M (Γ.goto c) (wpK E.M R κ) p s
        cases hqc : F.quiet c with
        | false => obtain ⟨o, e, _⟩ := h0; simp [ev, hqc] at e
        | true =>
          refine ⟨hq c hqc, ?_⟩
          cases hs with
          | nil => obtain ⟨o, e, _⟩ := h0; simp [ev, hqc] at e
          | cons b hs =>
            cases b with
            | zero =>
              have hw : Code.weight c ≤ 5 := by
                cases hc : Code.isCaller c with
                | false => exact weight_le hc
                | true =>
                  obtain ⟨w, ew⟩ := hden.caller c hc
                  obtain ⟨o, e, _⟩ := h0
                  simp only [ev, hqc, ew] at e
                  cases n <;> simp [ev] at e
              refine hden.says (Γ := Γ.goto c) (Nat.le_trans (Nat.le_add_right _ _) hd.1) hw (ih d (Γ.goto c) p (F.den c) κ S hs acc cs ⟨hd.1, hw⟩ hκ (fun ω => ?_) s D)
              obtain ⟨o, e, z⟩ := h ω
              simp only [ev, hqc] at e
              exact ⟨o, e, z⟩
            | succ r =>
              refine hrule r (Γ.goto c) c hs κ p _ (fun o => match (generalizing := false) κ with | [] => some o | K :: κ => ev F n K.d K.Γ K.p (K.k o.r) κ o.S o.hs o.ω o.acc o.cs) rfl (Nat.le_trans (Nat.le_add_right _ _) hd.1) (fun ω => ?_) (fun o o' e => ?_) (fun o s' ho D' => ?_)
              · obtain ⟨o, e, z⟩ := h ω
                simp only [ev, hqc] at e
                exact ⟨o, e, z⟩
              · cases κ with
                | nil => simp only [Option.some.injEq] at e; subst e; exact ⟨fun _ q => q, fun _ q => q⟩
                | cons K κ => exact ev_grow hv _ _ _ _ _ _ _ _ _ _ _ _ e
              · cases κ with
                | nil =>
                  obtain ⟨o', e, hH, hF⟩ := ho fun _ => 0
                  simp only [Option.some.injEq] at e
                  subst e
                  have z := hR _ s' hF D'
                  exact z
                | cons K κ => exact ih _ _ _ _ _ _ _ _ _ (hκ K (.head _)) (fun K' h' => hκ K' (.tail _ h')) ho s' D'
    | raise e =>
      rw [Sem.wp_raise]
      cases κ with
      | nil =>
        obtain ⟨o, e, hH, hF⟩ := h0
        simp only [ev, Option.some.injEq] at e
        subst e
        exact hR _ s hF D
      | cons K κ => exact ih _ _ _ _ _ _ _ _ _ (hκ K (.head _)) (fun K' h' => hκ K' (.tail _ h')) h s D
    | rule _ k => rw [Sem.wp_rule]; exact ih _ _ _ _ _ _ _ _ _ hd hκ h s D
    | «at» _ k => rw [Sem.wp_at]; exact ih _ _ _ _ _ _ _ _ _ hd hκ h s D
    | point _ k => rw [Sem.wp_point]; exact ih _ _ _ _ _ _ _ _ _ hd hκ h s D
    | ask k =>
      rw [Sem.wp_ask, ← hprog, ← hpar]; exact ih _ _ _ _ _ _ _ _ _ hd hκ h s D
    | handled own k => rw [Sem.wp_handled]; exact ih _ _ _ _ _ _ _ _ _ hd hκ h s D
    | stack k => rw [Sem.wp_stack]; exact ih _ _ _ _ _ _ _ _ _ hd hκ h s D
    | fresh k =>
      rw [Sem.wp_fresh, D.toks]
      have D' := D.fresh
      rw [D.toks] at D'
      exact ih _ _ _ _ _ _ _ _ _ hd hκ h _ D'
    | load a q k =>
      rw [Sem.wp_load]
      cases hs with
      | nil => obtain ⟨o, e, _⟩ := h0; simp [ev] at e
      | cons b hs =>
        cases b with
        | zero =>
          cases hk : F.kt.get a with
          | none => obtain ⟨o, e, _⟩ := h0; simp [ev, hk] at e
          | some ob =>
            refine ⟨ob, (D.known a ob (hkt ▸ hk)).2, ih _ _ _ _ _ _ hs acc cs hd hκ (fun ω => ?_) s D⟩
            obtain ⟨o, e, z⟩ := h ω
            simp only [ev, hk] at e
            exact ⟨o, e, z⟩
        | succ i =>
          cases hi : getC F S i with
          | none => obtain ⟨o, e, _⟩ := h0; simp [ev, hi] at e
          | some x =>
            have hg : ∀ ω, ∃ o, ev F n d Γ p (k x.2) κ S hs ω ((.n a, .n x.1) :: acc) cs = some o ∧ Holds o ∧ Fn o := fun ω => by
              obtain ⟨o, e, z⟩ := h ω
              simp only [ev, hi] at e
              exact ⟨o, e, z⟩
            obtain ⟨o, e, hH, _⟩ := hg fun _ => 0
            have ea := hH.1 _ ((ev_grow hv _ _ _ _ _ _ _ _ _ _ _ _ e).1 _ (.head _))
            simp only [V.n.injEq] at ea
            exact ⟨x.2, ea ▸ getC_at D hkl hi, ih _ _ _ _ _ _ hs _ cs hd hκ hg s D⟩
    | loadIfAlive a k =>
      rw [Sem.wp_loadIfAlive]
      cases hs with
      | nil => obtain ⟨o, e, _⟩ := h0; simp [ev] at e
      | cons b hs =>
        cases b with
        | zero =>
          cases hk : F.kt.get a with
          | none => obtain ⟨o, e, _⟩ := h0; simp [ev, hk] at e
          | some ob =>
            rw [(D.known a ob (hkt ▸ hk)).2]
            refine ih _ _ _ _ _ _ hs acc cs hd hκ (fun ω => ?_) s D
            obtain ⟨o, e, z⟩ := h ω
            simp only [ev, hk] at e
            exact ⟨o, e, z⟩
        | succ i =>
          cases hi : getC F S i with
          | none => obtain ⟨o, e, _⟩ := h0; simp [ev, hi] at e
          | some x =>
            have hg : ∀ ω, ∃ o, ev F n d Γ p (k (some x.2)) κ S hs ω ((.n a, .n x.1) :: acc) cs = some o ∧ Holds o ∧ Fn o := fun ω => by
              obtain ⟨o, e, z⟩ := h ω
              simp only [ev, hi] at e
              exact ⟨o, e, z⟩
            obtain ⟨o, e, hH, _⟩ := hg fun _ => 0
            have ea := hH.1 _ ((ev_grow hv _ _ _ _ _ _ _ _ _ _ _ _ e).1 _ (.head _))
            simp only [V.n.injEq] at ea
            rw [ea, getC_at D hkl hi]
            exact ih _ _ _ _ _ _ hs _ cs hd hκ hg s D
    | update a q f k =>
      rw [Sem.wp_update]
      cases hs with
      | nil => obtain ⟨o, e, _⟩ := h0; simp [ev] at e
      | cons b hs =>
        cases b with
        | zero => obtain ⟨o, e, _⟩ := h0; simp [ev] at e
        | succ i =>
          cases hi : gt S.T i with
          | none => obtain ⟨o, e, _⟩ := h0; simp [ev, hi] at e
          | some x =>
            cases hb : (alive (f x.2) && !frozen x.2) with
            | false => obtain ⟨o, e, _⟩ := h0; simp [ev, hi, hb] at e
            | true =>
              have hg : ∀ ω, ∃ o, ev F n d Γ p (k ()) κ ⟨st S.T i (f x.2), S.b, S.j, S.tb, S.ti⟩ hs ω ((.n a, .n x.1) :: acc) cs = some o ∧ Holds o ∧ Fn o := fun ω => by
                obtain ⟨o, e, z⟩ := h ω
                simp only [ev, hi, hb] at e
                exact ⟨o, e, z⟩
              obtain ⟨o, e, hH, _⟩ := hg fun _ => 0
              have ea := hH.1 _ ((ev_grow hv _ _ _ _ _ _ _ _ _ _ _ _ e).1 _ (.head _))
              simp only [V.n.injEq] at ea
              rw [ea]
              refine ⟨by rw [D.cell x (gt_mem hi)]; rfl, ?_⟩
              rw [← ea]
              have D' := D.update hi (Bool.and_eq_true_iff.mp hb).1 (by simpa using (Bool.and_eq_true_iff.mp hb).2)
              rw [← ea] at D'
              exact ih _ _ _ _ _ _ hs _ cs hd hκ hg _ D'
    | alloc o' k =>
      rw [Sem.wp_alloc]
      cases ha : alive o' with
      | false => obtain ⟨o, e, _⟩ := h0; simp [ev, ha] at e
      | true =>
        rw [D.size]
        refine ih _ _ _ _ _ _ hs acc cs hd hκ (fun ω => ?_) _ (D.alloc ha)
        obtain ⟨o, e, z⟩ := h ω
        simp only [ev, ha] at e
        exact ⟨o, e, z⟩
    | call c hd' g l k =>
      rw [Sem.wp_call]
      cases d with
      | zero => obtain ⟨o, e, _⟩ := h0; simp [ev] at e
      | succ d' =>
      have hb : loadOf (Γ.enter c hd' p).below + 16 * d' ≤ B := by
        show frameCount ((Γ.code, p) :: Γ.below) + unitsOf ((Γ.code, p) :: Γ.below) + 16 * d' ≤ B
        rw [frameCount_cons, unitsOf_cons]
        have h3 := units_le Γ.code
        have h4 : loadOf Γ.below = frameCount Γ.below + unitsOf Γ.below := rfl
        have h1 := hd.1
        have h2 := hd.2
        omega
      cases hs with
      | nil => obtain ⟨o, e, _⟩ := h0; simp [ev] at e
      | cons b hs =>
        cases b with
        | zero =>
          have hw : Code.weight c ≤ 5 := by
            cases hc : Code.isCaller c with
            | false => exact weight_le hc
            | true =>
              obtain ⟨w, ew⟩ := hden.caller c hc
              obtain ⟨o, e, _⟩ := h0
              simp only [ev, ew] at e
              cases n <;> simp [ev] at e
          refine hden.says (Γ := Γ.enter c hd' p) (Nat.le_trans (Nat.le_add_right _ _) hb) hw (ih d' (Γ.enter c hd' p) p (F.den c) (⟨Γ, p, k, d' + 1⟩ :: κ) S hs acc cs ⟨hb, hw⟩ (fun K hK => ?_) (fun ω => ?_) s D)
          · rcases List.mem_cons.mp hK with rfl | hK
            · exact hd
            · exact hκ K hK
          obtain ⟨o, e, z⟩ := h ω
          simp only [ev] at e
          exact ⟨o, e, z⟩
        | succ r =>
          refine hrule r (Γ.enter c hd' p) c hs κ p _ (fun o => ev F n (d' + 1) Γ p (k o.r) κ o.S o.hs o.ω o.acc o.cs) rfl (Nat.le_trans (Nat.le_add_right _ _) hb) (fun ω => ?_) (fun o o' e => ev_grow hv _ _ _ _ _ _ _ _ _ _ _ _ e) (fun o s' ho D' => ih _ _ _ _ _ _ _ _ _ hd hκ ho s' D')
          obtain ⟨o, e, z⟩ := h ω
          simp only [ev] at e
          exact ⟨o, e, z⟩
    | unsupported => obtain ⟨o, e, _⟩ := h0; simp [ev] at e
    | finish => obtain ⟨o, e, _⟩ := h0; simp [ev] at e
    | register => obtain ⟨o, e, _⟩ := h0; simp [ev] at e
    | choose => obtain ⟨o, e, _⟩ := h0; simp [ev] at e
    | os => obtain ⟨o, e, _⟩ := h0; simp [ev] at e
    | newGen => obtain ⟨o, e, _⟩ := h0; simp [ev] at e
    | genState => obtain ⟨o, e, _⟩ := h0; simp [ev] at e
    | resume => obtain ⟨o, e, _⟩ := h0; simp [ev] at e
    | yield => obtain ⟨o, e, _⟩ := h0; simp [ev] at e
    | fork => obtain ⟨o, e, _⟩ := h0; simp [ev] at e
    | thread => obtain ⟨o, e, _⟩ := h0; simp [ev] at e
    | await => obtain ⟨o, e, _⟩ := h0; simp [ev] at e
end
end Mine.R
end
section
namespace Mine.R
open PySem PySem.W PySem.W.X
noncomputable def enter2 : Sem Unit := do
  match ← PySem.W.Fast.tw13143150168775219229 cStatics "sys.recursionlimit" with
  | none => pure ()
  | some _ => unsupported "mine:limit"
noncomputable def nfe2 (scope : Scope) (globals : Addr) (closure : List (Str × Addr)) (binds : List (Str × Value)) (qual : Str)
    (func : Option Addr) (code : Value) (builtins : Addr) : Sem Env := do
  let locals ← alloc { cls := .type "frame", data := .dict #[] }
  let mut cells := closure
  for (name, kind) in scope.names do
    if kind == .cell then cells := (name, ← alloc { cls := .type "cell", data := .cell none }) :: cells
  let env : Env := { scope, locals, globals, cells, qual, func, code, frame := some locals, builtins }
  for (name, v) in binds do PySem.W.Fast.tw7998390705656384164 env name v
  return env
theorem nfe2_eq (scope : Scope) (globals : Addr) (closure : List (Str × Addr)) (binds : List (Str × Value)) (qual : Str) (func : Option Addr) (code : Value) (builtins : Addr) :
    newFunctionEnv scope globals closure binds qual func code none builtins = nfe2 scope globals closure binds qual func code builtins := by
  unfold nfe2 newFunctionEnv
  rw [← PySem.W.Fast.te7998390705656384164]
  rfl
noncomputable def callF2 (self : Addr) (fd : FuncData) (args : Args) : Sem Fin := do
  let compiled ← match fd.code with
    | .none => pure fd.qualname
    | c => do match ← PySem.W.Fast.tw6609576154772507232 c 1 with
      | .str q _ => pure q
      | _ => pure fd.qualname
  let env ← nfe2 fd.scope fd.globals fd.closure (← PySem.W.Fast.tw9782568553167038054 fd args) (compiled ++ ".<locals>.") (some self) fd.code fd.builtins
  enter2
  let code : Code := match fd.body with
    | .stmts b => .func b env
    | .expr e => .expr e env
  match fd.scope.isGenerator, fd.scope.isCoroutine with
  | false, false => again code
  | true, false => ret (← newGenerator code fd.name fd.qualname)
  | false, true => ret (← newCoroutine code fd.name fd.qualname)
  | true, true => ret (← newAsyncGenerator code fd.name fd.qualname)
noncomputable def iterOk (o : Obj) : Bool := match o.cls, o.data with
  | .type n, .fields ⟨[x, .int i t]⟩ => match i == 0 && t == 0 with
    | true => match x with
      | .ref _ => n == "list_iterator"
      | .str _ _ => n == "str_ascii_iterator" || n == "str_iterator"
      | _ => false
    | false => false
  | _, _ => false
noncomputable def comp2 (c : Code) (elt : Expr) (gens : List Comprehension) (sc : Scope) (pos : Pos) (depth : Nat) (a : Addr) (acc : Value) (env : Env) : Sem Fin := match gens[depth]? with
  | some g => match g.is_async == 0 with
    | true => standAt g.iter.pos >>= fun _ => load a >>= fun o => match iterOk o with
      | true => again (.compLoop (.ListComp elt gens sc pos) depth (.ref a) acc env)
      | false => unsupported "mine:iter"
    | false => denF c
  | none => denF c
noncomputable def den2 : Code → Sem Fin
  | .call (.ref a) args => load a >>= fun o => match o.data with
    | .func fd => callF2 a fd args
    | _ => denF (.call (.ref a) args)
  | .compStart (.ListComp elt gens sc pos) depth (.ref a) acc env => comp2 (.compStart (.ListComp elt gens sc pos) depth (.ref a) acc env) elt gens sc pos depth a acc env
  | c => denF c
theorem wp_enter2 {M : Model} {Γ : Ctx} {Q : Unit → Pos → Shared → Prop} {E : Value → Pos → Shared → Prop} {p : Pos} {s : Shared}
    (hd : frameCount Γ.below + Γ.code.weight < recursionLimit) (h : Sem.wp M Γ enter2 Q E p s) : Sem.wp M Γ (enterFrame 0) Q E p s := by
  have hΓ := ctx_in Γ
  have hsum : ((((Γ.code, p) :: Γ.below).map (·.1)).map (·.frames)).sum + ((((Γ.code, p) :: Γ.below).map (·.1)).filter Code.isCreation).length < recursionLimit := by
    have hge := frameCount_ge ((Γ.code, p) :: Γ.below)
    rw [frameCount_cons] at hge
    omega
  have hlt : ¬ ((((Γ.code, p) :: Γ.below).map (·.1)).map (·.frames)).sum ≥ recursionLimit := by omega
  have hlt' : ¬ ((((Γ.code, p) :: Γ.below).map (·.1)).map (·.frames)).sum + ((((Γ.code, p) :: Γ.below).map (·.1)).filter Code.isCreation).length ≥ recursionLimit := by omega
  simp only [enterFrame, currentRecursionLimit, Sem.wp_bind']
  show Sem.wp M Γ (nsGet cStatics "sys.recursionlimit") _ _ p s
  unfold enter2 at h
  rw [← PySem.W.Fast.te13143150168775219229, Sem.wp_bind'] at h
  refine Sem.wp_mono _ _ _ (fun r p' s' h' => ?_) (fun _ _ _ h => h) _ _ h
  cases r with
  | some v => exact absurd h' (by simp [Sem.wp_unsupported])
  | none =>
    have h'' : Q () p' s' := by simpa [Sem.wp_pure'] using h'
    show Sem.wp M Γ (if nearTheLimitUnderAClaim (((Γ.code, p) :: Γ.below).map (·.1)) (((((Γ.code, p) :: Γ.below).map (·.1)).map (·.frames)).sum + ((((Γ.code, p) :: Γ.below).map (·.1)).filter Code.isCreation).length) recursionLimit = true then _ else _) _ _ p' s'
    rw [if_neg (by rw [not_nearTheLimit hΓ hd]; exact Bool.false_ne_true)]
    show Sem.wp M Γ (if ((((Γ.code, p) :: Γ.below).map (·.1)).map (·.frames)).sum ≥ recursionLimit then _ else _) _ _ p' s'
    rw [if_neg hlt]
    show Sem.wp M Γ (if ((((Γ.code, p) :: Γ.below).map (·.1)).map (·.frames)).sum + ((((Γ.code, p) :: Γ.below).map (·.1)).filter Code.isCreation).length ≥ recursionLimit then _ else _) _ _ p' s'
    rw [if_neg hlt']; exact h''
theorem wp_callF2 {M : Model} {Γ : Ctx} {Q : Fin → Pos → Shared → Prop} {E : Value → Pos → Shared → Prop} {p : Pos} {s : Shared} {a : Addr} {fd : FuncData} {args : Args}
    (hd : frameCount Γ.below + Γ.code.weight < recursionLimit) (h : Sem.wp M Γ (callF2 a fd args) Q E p s) : Sem.wp M Γ (callFunction a fd args) Q E p s := by
  have key : ∀ (compiled : Str) (p : Pos) (s : Shared) (K : Env → Sem Fin),
      Sem.wp M Γ (bindArgs fd args >>= fun l => nfe2 fd.scope fd.globals fd.closure l (compiled ++ ".<locals>.") (some a) fd.code fd.builtins >>= fun env => enter2 >>= fun _ => K env) Q E p s →
      Sem.wp M Γ (bindArgs fd args >>= fun l => nfe2 fd.scope fd.globals fd.closure l (compiled ++ ".<locals>.") (some a) fd.code fd.builtins >>= fun env => enterFrame 0 >>= fun _ => K env) Q E p s := by
    intro compiled p s K h
    rw [Sem.wp_bind'] at h ⊢
    refine Sem.wp_mono _ _ _ (fun _ _ _ h => ?_) (fun _ _ _ h => h) _ _ h
    rw [Sem.wp_bind'] at h ⊢
    refine Sem.wp_mono _ _ _ (fun _ _ _ h => ?_) (fun _ _ _ h => h) _ _ h
    rw [Sem.wp_bind'] at h ⊢
    exact wp_enter2 hd h
  unfold callF2 at h
  rw [← PySem.W.Fast.te6609576154772507232, ← PySem.W.Fast.te9782568553167038054] at h
  unfold callFunction
  simp only [nfe2_eq]
  dsimp only at h ⊢
  split at h
  · rename_i hc
    simp only [hc] at h ⊢
    rw [Sem.wp_bind'] at h ⊢
    exact Sem.wp_mono _ _ _ (fun _ _ _ h => (by rw [← hc] at h ⊢; exact key _ _ _ _ h)) (fun _ _ _ h => h) _ _ h
  · rename_i x hc
    split
    · rename_i hc'
      exact absurd hc' (by intro q; exact hc q)
    · rw [Sem.wp_bind'] at h ⊢
      refine Sem.wp_mono _ _ _ (fun v _ _ h => ?_) (fun _ _ _ h => h) _ _ h
      split at h
      · rw [Sem.wp_bind'] at h ⊢
        exact Sem.wp_mono _ _ _ (fun _ _ _ h => key _ _ _ _ h) (fun _ _ _ h => h) _ _ h
      · rename_i hv
        split
        · exact absurd rfl (hv _ _)
        · rw [Sem.wp_bind'] at h ⊢
          exact Sem.wp_mono _ _ _ (fun _ _ _ h => key _ _ _ _ h) (fun _ _ _ h => h) _ _ h
theorem wp_load1 {M : Model} {Γ : Ctx} {α : Type} {f : Obj → Sem α} {Q : α → Pos → Shared → Prop} {E : Value → Pos → Shared → Prop} {p : Pos} {s : Shared} {a : Addr} :
    Sem.wp M Γ (load a >>= f) Q E p s ↔ ∃ o, s.heap.get? a = some o ∧ Sem.wp M Γ (f o) Q E p s := by
  show Sem.wp M Γ (.load a _ _) Q E p s ↔ _
  rw [Sem.wp_load]
  rfl
theorem entry_caller : entryFor table "claim.caller" = none := by rw [table_eq_tree]; kernel_rfl
theorem den_none {id : String} {a : Args} (h : entryFor table id = none) : ∃ w, denote table (.builtin id a) = .unsupported w := by
  have e : denote table (.builtin id a) = (match entryFor table id with | some b => b a | none => unsupported ((withoutEnding? id "#data").getD id)) := rfl
  rw [e, h]
  exact ⟨_, rfl⟩
theorem den2_caller (c : Code) (hc : Code.isCaller c = true) : ∃ w, den2 c = .unsupported w := by
  cases c with
  | builtin id a =>
    have e : id = "claim.caller" := by
      unfold Code.isCaller at hc
      split at hc
      · rename_i h; cases h; rfl
      · cases hc
    subst e
    obtain ⟨w, h⟩ := den_none (a := a) entry_caller
    exact ⟨w, (denF_eq (.builtin "claim.caller" a)).symm.trans h⟩
  | _ => cases hc
theorem loop_any {M : Model} (hden : M.den = denote table) {Γ : Ctx} {elt : Expr} {gens : List Comprehension} {sc : Scope} {pos : Pos} {depth : Nat} {it acc : Value} {env : Env} {g : Comprehension} (hc : Γ.code = .compLoop (.ListComp elt gens sc pos) depth it acc env)
    (hg : gens[depth]? = some g) {R : Result → Shared → Prop} {q p : Pos} {s : Shared} (h : wpCode M Γ R q s) : wpCode M Γ R p s := by
  rw [wpCode_iff_wp, hden, hc] at h ⊢
  have key : ∀ (Q : Fin → Pos → Shared → Prop) (E : Value → Pos → Shared → Prop) (p q : Pos), Sem.wp M Γ (compTurn (.ListComp elt gens sc pos) depth it acc env) Q E q s → Sem.wp M Γ (compTurn (.ListComp elt gens sc pos) depth it acc env) Q E p s := by
    intro Q E p q h
    unfold compTurn at h ⊢
    simp only [hg] at h ⊢
    rw [Sem.wp_bind'] at h ⊢
    exact h
  unfold denote at h ⊢
  dsimp only at h ⊢
  split at h
  · rename_i hf
    rw [if_pos hf]
    rw [Sem.wp_onRaise] at h ⊢
    exact key _ _ _ _ h
  · rename_i hf
    rw [if_neg hf]
    rw [Sem.wp_onRaise] at h ⊢
    exact key _ _ _ _ h
theorem iterOk_self {prog : Program} {w : World} {A : Around} {E : Value → Shared → Prop} {s : Shared} {a : Addr} {o : Obj} {Q : Value → Shared → Prop} (ho : s.heap.get? a = some o) (hi : iterOk o = true) (h : Q (.ref a) s) : wpAny (model prog w) A (pyIter (.ref a)) Q E s := by
  obtain ⟨cls, dd, data, sl⟩ := o
  unfold iterOk at hi
  dsimp only at hi
  split at hi
  · split at hi
    · rename_i n x i t he
      obtain ⟨e1, e2⟩ := Bool.and_eq_true_iff.mp he
      have e1 := beq_iff_eq.mp e1
      have e2 := beq_iff_eq.mp e2
      subst e1 e2
      split at hi
      · rename_i l
        have hn := beq_iff_eq.mp hi
        subst hn
        exact wpAny_pyIter_listiter (l := l) (i := 0) ⟨_, ho, rfl, rfl⟩ h
      · rename_i x t
        rcases Bool.or_eq_true_iff.mp hi with hn | hn
        · have hn := beq_iff_eq.mp hn
          subst hn
          exact wpAny_pyIter_striter_ascii (x := x) (t := t) (i := 0) ⟨_, ho, rfl, rfl⟩ h
        · have hn := beq_iff_eq.mp hn
          subst hn
          exact wpAny_pyIter_striter_wide (x := x) (t := t) (i := 0) ⟨_, ho, rfl, rfl⟩ h
      · cases hi
    · cases hi
  · cases hi
theorem comp2_ok {prog : Program} {w : World} {Γ : Ctx} {elt : Expr} {gens : List Comprehension} {sc : Scope} {pos : Pos} {depth : Nat} {a : Addr} {acc : Value} {env : Env} (hc : Γ.code = .compStart (.ListComp elt gens sc pos) depth (.ref a) acc env)
    {R : Result → Shared → Prop} {p : Pos} {s : Shared} (h : Sem.wp (model prog w) Γ (comp2 (.compStart (.ListComp elt gens sc pos) depth (.ref a) acc env) elt gens sc pos depth a acc env) (Sem.finPost (model prog w) Γ R) (fun e _ s' => R (.error e) s') p s) :
    Sem.wp (model prog w) Γ (denF Γ.code) (Sem.finPost (model prog w) Γ R) (fun e _ s' => R (.error e) s') p s := by
  unfold comp2 at h
  split at h
  · rename_i g hg
    split at h
    · rename_i hz
      have hz' : (g.is_async != 0) = false := by simpa using hz
      rw [Sem.wp_bind'] at h
      have h : Sem.wp (model prog w) Γ (load a >>= fun o => match iterOk o with
        | true => again (.compLoop (.ListComp elt gens sc pos) depth (.ref a) acc env)
        | false => unsupported "mine:iter") (Sem.finPost (model prog w) Γ R) (fun e _ s' => R (.error e) s') g.iter.pos s := h
      rw [wp_load1] at h
      obtain ⟨o, ho, h⟩ := h
      split at h
      · rename_i hi
        have h : (Code.compLoop (.ListComp elt gens sc pos) depth (.ref a) acc env).quiet = true ∧ wpCode (model prog w) (Γ.goto (.compLoop (.ListComp elt gens sc pos) depth (.ref a) acc env)) R g.iter.pos s := h
        obtain ⟨hq, hw⟩ := h
        have any : ∀ p, wpCode (model prog w) (Γ.goto (.compLoop (.ListComp elt gens sc pos) depth (.ref a) acc env)) R p s := fun p => loop_any rfl rfl hg hw
        rw [hc, ← denF_eq]
        have key : ∀ (E : Value → Pos → Shared → Prop), Sem.wp (model prog w) Γ (compStart (.ListComp elt gens sc pos) depth (.ref a) acc env) (Sem.finPost (model prog w) Γ R) E p s := by
          intro E
          unfold compStart
          have hcl : clausesOf (.ListComp elt gens sc pos) = gens := rfl
          simp only [hcl, hg, Option.elim, hz', Bool.false_eq_true, if_false]
          show Sem.wp (model prog w) Γ (.ask _) _ _ p s
          rw [Sem.wp_ask]
          show Sem.wp (model prog w) Γ (if _ then _ else _) _ _ p s
          by_cases hf : (model prog w).w.params.followText "comprehension-iter-twice" = true
          · rw [if_pos hf]
            exact ⟨hq, any p⟩
          · rw [if_neg hf]
            show Sem.wp (model prog w) Γ (.rule _ _) _ _ p s
            rw [Sem.wp_rule]
            show Sem.wp (model prog w) Γ (standAt g.iter.pos >>= fun _ => (pyIter (.ref a) >>= fun x => again (.compLoop (.ListComp elt gens sc pos) depth x acc env))) _ _ p s
            rw [Sem.wp_bind']
            show Sem.wp (model prog w) Γ (pyIter (.ref a) >>= fun x => again (.compLoop (.ListComp elt gens sc pos) depth x acc env)) _ _ g.iter.pos s
            rw [Sem.wp_bind']
            refine Sem.wp_mono _ _ _ (fun x p' s' h' => ?_) (fun e p' s' h' => ?_) _ _ (iterOk_self (E := fun _ _ => False) (Q := fun x s' => x = .ref a ∧ s' = s) ho hi ⟨rfl, rfl⟩ Γ g.iter.pos (ctx_in Γ))
            · obtain ⟨rfl, rfl⟩ := h'
              exact ⟨hq, any p'⟩
            · exact h'.elim
        unfold denote
        dsimp only
        split
        · rw [Sem.wp_onRaise]; exact key _
        · rw [Sem.wp_onRaise]; exact key _
      · exact absurd h (by simp [Sem.wp_unsupported])
    · rw [← hc] at h; exact h
  · rw [← hc] at h; exact h
theorem den2_ok {E : World0} {prog : Program} {w : World} (hM : E.M = model prog w) {B : Nat} (hB : B ≤ 990) : DenOk E den2 B := by
  have hden : ∀ c, (model prog w).den c = denF c := denF_eq
  refine ⟨den2_caller, fun {Γ p s R} hf hw h => ?_⟩
  · rw [hM] at h ⊢
    rw [wpCode_iff_wp]
    have hd : frameCount Γ.below + Γ.code.weight < recursionLimit := by have hf0 : frameCount Γ.below + unitsOf Γ.below ≤ B := hf; unfold recursionLimit; omega
    obtain ⟨c, hh, ho, bl, pa⟩ := Γ
    dsimp only at h hd ⊢
    rw [hden]
    unfold den2 at h
    split at h
    · rename_i a args
      rw [wp_load1] at h
      obtain ⟨o, hg, h⟩ := h
      split at h
      · rename_i fd hdt
        rw [← denF_eq]
        show Sem.wp _ _ (callAny (.ref a) args) _ _ p s
        unfold callAny
        dsimp only
        rw [wp_load1]
        refine ⟨o, hg, ?_⟩
        simp only [hdt]
        exact wp_callF2 hd h
      · exact h
    · exact comp2_ok rfl h
    · exact h
end Mine.R
end
section
namespace Mine.R
open PySem PySem.W PySem.W.X
theorem noRule_valid (E : World0) (B r : Nat) : Valid E B (noRule r) :=
  ⟨fun h => by simp [noRule] at h, fun _ _ _ h => by obtain ⟨o, e, _⟩ := h fun _ => 0; simp [noRule] at e⟩
theorem Rep.sub {E : World0} {S : SS} {s : Shared} (D : Rep E S s) {idx : List Nat} {T : Cells} {n t : Nat} (hi : idx.Nodup) (e : idx.map (gt S.T) = T.map some) (hn : S.b + S.j = n) (ht : S.tb + S.ti = t) : Rep E ⟨T, n, 0, t, 0⟩ s := by
  obtain ⟨h1, h2, _⟩ := sub_cells D.nodup hi e
  exact ⟨D.size.trans hn, D.toks.trans ht, fun x hx => D.cell x (h1 x hx), h2, fun x hx => D.own x (h1 x hx), D.known, D.keep, hn ▸ D.low, hn ▸ D.old, D.gens, D.drawn, D.os, D.froz, ht ▸ D.told⟩
structure Fits (E : World0) (F : Fixed) (B : Nat) : Prop where
  rules : ∀ r, Valid E B (F.rules r)
  den : DenOk E F.den B
  quiet : ∀ c, F.quiet c = true → c.quiet = true
  prog : F.prog = E.M.prog
  par : F.par = E.M.w.params
  kt : F.kt = E.kt
  kl : F.kl = E.K
theorem ev_wp {E : World0} {F : Fixed} {B : Nat} (H : Fits E F B) {n d : Nat} {Γ : Ctx} {p : Pos} {t0 : Sem Fin} {S : SS} {hs idx : List Nat} {r : (Nat → Nat) → Result} {T : (Nat → Nat) → Cells} {N t : (Nat → Nat) → Nat} {cs : (Nat → Nat) → List Prop}
    (hΓ : COk B Γ d) (h : ∀ ω, Checks (ev F n d Γ p t0 [] S hs ω [] []) idx (r ω) (T ω) (N ω) (t ω) (cs ω)) (hi : idx.Nodup) (hc : ∀ ω, ∀ q ∈ cs ω, q) {s : Shared} (D : Rep E S s) :
    Sem.wp E.M Γ t0 (Sem.finPost E.M Γ (fun r' s' => ∃ ω, r' = r ω ∧ Rep E ⟨T ω, N ω, 0, t ω, 0⟩ s')) (fun e _ s' => ∃ ω, .error e = r ω ∧ Rep E ⟨T ω, N ω, 0, t ω, 0⟩ s') p s :=
  ev_sound (F := F) H.rules H.den H.quiet H.prog H.par H.kt H.kl (R := fun r' s' => ∃ ω, r' = r ω ∧ Rep E ⟨T ω, N ω, 0, t ω, 0⟩ s')
    (Fn := fun o => ∃ ω, o.r = r ω ∧ idx.map (gt o.S.T) = (T ω).map some ∧ o.S.b + o.S.j = N ω ∧ o.S.tb + o.S.ti = t ω)
    (fun _ _ ⟨ω, h1, h2, h3, h4⟩ D => ⟨ω, h1, D.sub hi h2 h3 h4⟩) n d Γ p t0 [] S hs [] [] hΓ (fun _ h => (nomatch h))
    (fun ω => by obtain ⟨o, e, hH, h1, h2, h3, h4⟩ := checks_out (h ω) (hc ω); exact ⟨o, e, hH, ω, h1, h2, h3, h4⟩) s D
theorem seg_wp {E : World0} {F : Fixed} {B : Nat} (H : Fits E F B) {α : Type} {m : Sem α} {f : α → Flow} {n d : Nat} {Γ : Ctx} {p : Pos} {S : SS} {hs idx : List Nat} {r : (Nat → Nat) → Result} {T : (Nat → Nat) → Cells} {N t : (Nat → Nat) → Nat} {cs : (Nat → Nat) → List Prop}
    (hΓ : COk B Γ d) (h : ∀ ω, Checks (ev F n d Γ p (m.bind fun a => .pure (.done (f a))) [] S hs ω [] []) idx (r ω) (T ω) (N ω) (t ω) (cs ω)) (hi : idx.Nodup) (hc : ∀ ω, ∀ q ∈ cs ω, q) {s : Shared} (D : Rep E S s) :
    Sem.wp E.M Γ m (fun a _ s' => ∃ ω, .ok (f a) = r ω ∧ Rep E ⟨T ω, N ω, 0, t ω, 0⟩ s') (fun e _ s' => ∃ ω, .error e = r ω ∧ Rep E ⟨T ω, N ω, 0, t ω, 0⟩ s') p s := by
  have z := ev_wp H hΓ h hi hc D
  rw [Sem.wp_bind] at z
  refine Sem.wp_mono _ _ _ (fun a p' s' h' => ?_) (fun e p' s' h' => ?_) _ _ z
  · rw [Sem.wp_pure] at h'
    exact h'
  · exact h'
theorem code_wp {E : World0} {F : Fixed} {B : Nat} (H : Fits E F B) {n d : Nat} {Γ : Ctx} {p : Pos} {S : SS} {hs idx : List Nat} {r : (Nat → Nat) → Result} {T : (Nat → Nat) → Cells} {N t : (Nat → Nat) → Nat} {cs : (Nat → Nat) → List Prop}
    (hΓ : COk B Γ d) (h : ∀ ω, Checks (ev F n d Γ p (F.den Γ.code) [] S hs ω [] []) idx (r ω) (T ω) (N ω) (t ω) (cs ω)) (hi : idx.Nodup) (hc : ∀ ω, ∀ q ∈ cs ω, q) {s : Shared} (D : Rep E S s) :
    wpCode E.M Γ (fun r' s' => ∃ ω, r' = r ω ∧ Rep E ⟨T ω, N ω, 0, t ω, 0⟩ s') p s :=
  H.den.says (Nat.le_trans (Nat.le_add_right _ _) hΓ.1) hΓ.2 (ev_wp H hΓ h hi hc D)
noncomputable def World0.at (E : World0) (s : Shared) (K : Cells) (X : List Nat) : World0 := { E with K := K, h0 := s.heap, X := X, G := s.gens, D := s.drawn, O := s.os }
theorem Rep.at {E : World0} {S : SS} {s : Shared} (D : Rep E S s) {K T : Cells} (hK : ∀ x ∈ K, s.heap.get? x.1 = some x.2 ∧ frozen x.2 = true) (hT : ∀ x ∈ T, x ∈ S.T) (hn : (T.map (·.1)).Nodup) :
    Rep (E.at s K (T.map (·.1))) ⟨T, S.b, S.j, S.tb, S.ti⟩ s :=
  ⟨D.size, D.toks, fun x hx => D.cell x (hT x hx), hn, fun x hx => ⟨(D.own x (hT x hx)).1, .inl (List.mem_map_of_mem hx)⟩, D.known, fun _ _ e _ => e, D.low, Nat.le_of_eq D.size, rfl, rfl, rfl, hK, D.told⟩
theorem Rep.back {E : World0} {S S' : SS} {s s' : Shared} (D : Rep E S s) {K T T2 : Cells} (hT : ∀ x ∈ T, x ∈ S.T) (D' : Rep (E.at s K (T.map (·.1))) S' s')
    (h2 : ∀ x ∈ T2, x ∈ S.T ∧ x.1 ∉ T.map (·.1)) (hn2 : (T2.map (·.1)).Nodup) (hfz : ∀ x ∈ T, frozen x.2 = false) : Rep E ⟨S'.T ++ T2, S'.b, S'.j, S'.tb, S'.ti⟩ s' := by
  have keepS : ∀ b o, s.heap.get? b = some o → b ∉ T.map (·.1) → s'.heap.get? b = some o := D'.keep
  have own' : ∀ x ∈ S'.T, E.P0 ≤ x.1 ∧ (x.1 ∈ T.map (·.1) ∨ s.heap.get? x.1 = none) := D'.own
  refine ⟨D'.size, D'.toks, ?_, ?_, ?_, D'.known, ?_, D'.low, ?_, D'.gens.trans D.gens, D'.drawn.trans D.drawn, D'.os.trans D.os, ?_, D'.told⟩
  · intro x hx
    rcases List.mem_append.mp hx with hx | hx
    · exact D'.cell x hx
    · exact keepS _ _ (D.cell x (h2 x hx).1) (h2 x hx).2
  · rw [List.map_append]
    refine List.nodup_append.mpr ⟨D'.nodup, hn2, fun a ha b hb hab => ?_⟩
    obtain ⟨x, hx, rfl⟩ := List.mem_map.mp ha
    obtain ⟨y, hy, rfl⟩ := List.mem_map.mp hb
    rcases (own' x hx).2 with q | q
    · exact (h2 y hy).2 (hab ▸ q)
    · have := D.cell y (h2 y hy).1
      rw [← hab, q] at this
      cases this
  · intro x hx
    rcases List.mem_append.mp hx with hx | hx
    · refine ⟨(own' x hx).1, ?_⟩
      rcases (own' x hx).2 with q | q
      · obtain ⟨y, hy, e⟩ := List.mem_map.mp q
        exact e ▸ (D.own y (hT y hy)).2
      · by_cases hX : x.1 ∈ E.X
        · exact .inl hX
        · refine .inr ?_
          cases hh : E.h0.get? x.1 with
          | none => rfl
          | some o => rw [D.keep _ _ hh hX] at q; cases q
    · exact D.own x (h2 x hx).1
  · intro b o e hb
    refine keepS b o (D.keep b o e hb) fun hm => ?_
    obtain ⟨y, hy, rfl⟩ := List.mem_map.mp hm
    rcases (D.own y (hT y hy)).2 with q | q
    · exact hb q
    · rw [q] at e; cases e
  · exact Nat.le_trans D.old (by rw [← D.size]; exact D'.old)
  · intro x hx
    refine ⟨keepS _ _ (D.froz x hx).1 fun hm => ?_, (D.froz x hx).2⟩
    obtain ⟨y, hy, e⟩ := List.mem_map.mp hm
    have h1 := D.cell y (hT y hy)
    rw [e, (D.froz x hx).1] at h1
    have h2' := (D.froz x hx).2
    rw [Option.some.inj h1, hfz y hy] at h2'
    cases h2'
end Mine.R
end
section
namespace Mine.R
open PySem PySem.W PySem.W.X
noncomputable def nameT : Expr → Bool
  | .Name .. => true
  | _ => false
theorem for_list {prog : Program} {w : World} {Γ : Ctx} {target : Expr} {I l : Addr} {body : List Stmt} {env : Env} {R : Result → Shared → Prop} {xs : Array Value}
    (hc : Γ.code = .forLoop target (.ref I) body [] env) (hh : Γ.handled = none) (ht : nameT target = true) (Inv : Nat → Shared → Prop)
    (look : ∀ i s, Inv i s → s.heap.IsListIter I l i ∧ s.heap.IsList l xs)
    (turn : ∀ i x s, xs[i]? = some x → Inv i s → ∀ h', h'.IsListIter I l (i + 1) → Heap.SameBut I s.heap h' → ∀ p,
      Sem.wp (model prog w) Γ (assign target env x >>= fun _ => execs body env) (fun f _ s' => f = .next ∧ Inv (i + 1) s') (fun _ _ _ => False) p { s with heap := h' })
    (done : ∀ i s, xs.size = i → Inv i s → ∀ h', Heap.ExtBut I s.heap h' → R (.ok .next) { s with heap := h' }) :
    ∀ n i s p, xs.size = i + n → Inv i s → wpCode (model prog w) Γ R p s := by
  have hden : ∀ c, (model prog w).den c = denote table c := fun _ => rfl
  have hgo : Γ.goto (.forLoop target (.ref I) body [] env) = Γ := by rw [← hc]; rfl
  have hlet : ∀ v, letOwnedTupleGo target (.ref I) v = pure () := by
    intro v
    cases target <;> first | rfl | cases ht
  have hq : ∀ c : Code, (c = .forLoop target (.ref I) body [] env ∨ c = .block [] env) → c.quiet = true := by
    rintro c (rfl | rfl) <;> rfl
  intro n
  induction n with
  | zero =>
    intro i s p hn hI
    have hx : xs[i]? = none := by rw [Array.getElem?_eq_none_iff]; omega
    obtain ⟨h1, h2⟩ := look i s hI
    rw [wpCode_iff_wp, hden, hc]
    show Sem.wp _ _ ((forTurn target (.ref I) body [] env).onRaise _) _ _ p s
    rw [Sem.wp_onRaise]
    unfold forTurn
    rw [Sem.wp_bind']
    show Sem.wp _ _ _ _ _ target.pos s
    rw [Sem.wp_pure, Sem.wp_bind', Sem.wp_onRaise]
    refine Sem.wp_mono _ _ _ (fun r p' s' h' => ?_) (fun e p' s' h' => ?_) _ _ (wpAny_pyNext_list_end (prog := prog) (w := w) (E := fun _ _ => False) (Q := fun r s' => r = none ∧ ∃ h', Heap.ExtBut I s.heap h' ∧ s' = { s with heap := h' }) hh h1 h2 hx (fun h' e => ⟨rfl, h', e, rfl⟩) Γ target.pos (ctx_in Γ))
    · obtain ⟨rfl, h', e, rfl⟩ := h'
      show Code.quiet _ = true ∧ wpCode _ _ R p' _
      refine ⟨hq _ (.inr rfl), ?_⟩
      rw [wpCode_iff_wp, hden]
      show Sem.wp _ _ ((execs [] env).onRaise _ >>= fun f => (Sem.pure (PySem.Fin.done f) : Sem PySem.Fin)) _ _ p' _
      rw [Sem.wp_bind', Sem.wp_onRaise]
      exact done i s hn hI h' e
    · exact h'.elim
  | succ n ih =>
    intro i s p hn hI
    have hx : xs[i]? = some (xs[i]'(by omega)) := Array.getElem?_eq_getElem _
    generalize xs[i]'(by omega) = x at hx
    obtain ⟨h1, h2⟩ := look i s hI
    rw [wpCode_iff_wp, hden, hc]
    show Sem.wp _ _ ((forTurn target (.ref I) body [] env).onRaise _) _ _ p s
    rw [Sem.wp_onRaise]
    unfold forTurn
    rw [Sem.wp_bind']
    show Sem.wp _ _ _ _ _ target.pos s
    rw [Sem.wp_pure, Sem.wp_bind', Sem.wp_onRaise]
    refine Sem.wp_mono _ _ _ (fun r p' s' h' => ?_) (fun e p' s' h' => ?_) _ _ (wpAny_pyNext_list_item (prog := prog) (w := w) (E := fun _ _ => False) (Q := fun r s' => r = some x ∧ ∃ h', h'.IsListIter I l (i + 1) ∧ Heap.SameBut I s.heap h' ∧ s' = { s with heap := h' }) h1 h2 hx (fun h' e1 e2 => ⟨rfl, h', e1, e2, rfl⟩) Γ target.pos (ctx_in Γ))
    · obtain ⟨rfl, h', e1, e2, rfl⟩ := h'
      dsimp only
      rw [hlet, Sem.wp_bind']
      have z := turn i x s hx hI h' e1 e2 p'
      rw [Sem.wp_bind'] at z
      show Sem.wp _ _ (assign target env x >>= _) _ _ p' _
      rw [Sem.wp_bind']
      refine Sem.wp_mono _ _ _ (fun _ p2 s2 z2 => ?_) (fun _ _ _ h => h.elim) _ _ z
      rw [Sem.wp_bind']
      refine Sem.wp_mono _ _ _ (fun f p3 s3 z3 => ?_) (fun _ _ _ h => h.elim) _ _ z2
      obtain ⟨rfl, hI'⟩ := z3
      show Code.quiet _ = true ∧ wpCode _ _ R p3 s3
      rw [hgo]
      exact ⟨hq _ (.inl rfl), ih (i + 1) s3 p3 (by omega) hI'⟩
    · exact h'.elim
theorem Rep.same {E : World0} {S : SS} {s : Shared} (D : Rep E S s) {a : Nat} {o o' : Obj} {T' : Cells} {h' : Heap} (ha : (a, o) ∈ S.T) (hs : Heap.SameBut a s.heap h') (ho : h'.get? a = some o') (hz : frozen o = false)
    (hT : ∀ x ∈ T', x = (a, o') ∨ (x ∈ S.T ∧ x.1 ≠ a)) (hn : (T'.map (·.1)).Nodup) : Rep E ⟨T', S.b, S.j, S.tb, S.ti⟩ { s with heap := h' } := by
  have own := D.own _ ha
  have hx := D.cell _ ha
  refine ⟨hs.1.trans D.size, D.toks, fun x hx => ?_, hn, fun x hx => ?_, fun i o e => ⟨(D.known i o e).1, ?_⟩, fun b o e hb => ?_, D.low, D.old, D.gens, D.drawn, D.os, fun x hx' => ⟨?_, (D.froz x hx').2⟩, D.told⟩
  · rcases hT x hx with rfl | ⟨h1, h2⟩
    · exact ho
    · exact (hs.2 _ h2).trans (D.cell x h1)
  · rcases hT x hx with rfl | ⟨h1, h2⟩
    · exact own
    · exact D.own x h1
  · refine (hs.2 _ ?_).trans (D.known i o e).2
    have h1 := (D.known i o e).1
    have h2 := own.1
    intro q
    rw [q] at h1
    exact absurd h2 (Nat.not_le.mpr h1)
  · refine (hs.2 _ ?_).trans (D.keep b o e hb)
    rintro rfl
    rcases own.2 with h | h
    · exact hb h
    · rw [e] at h; cases h
  · refine (hs.2 _ ?_).trans (D.froz x hx').1
    intro q
    have h1 := (D.froz x hx').1
    rw [q, hx] at h1
    have h2 := (D.froz x hx').2
    rw [← Option.some.inj h1, hz] at h2
    cases h2
theorem Rep.ext {E : World0} {S : SS} {s : Shared} (D : Rep E S s) {a : Nat} {o : Obj} {T' : Cells} {h' : Heap} (ha : (a, o) ∈ S.T) (hs : Heap.ExtBut a s.heap h') (hz : frozen o = false)
    (hT : ∀ x ∈ T', x ∈ S.T ∧ x.1 ≠ a) (hn : (T'.map (·.1)).Nodup) (hl : E.P0 ≤ h'.objs.size) (hl2 : E.h0.objs.size ≤ h'.objs.size) : Rep E ⟨T', h'.objs.size, 0, S.tb, S.ti⟩ { s with heap := h' } := by
  have own := D.own _ ha
  have hx := D.cell _ ha
  refine ⟨rfl, D.toks, fun x hx => ?_, hn, fun x hx => D.own x (hT x hx).1, fun i o e => ⟨(D.known i o e).1, ?_⟩, fun b o e hb => ?_, hl, hl2, D.gens, D.drawn, D.os, fun x hx' => ⟨?_, (D.froz x hx').2⟩, D.told⟩
  · exact hs _ _ (hT x hx).2 (D.cell x (hT x hx).1)
  · refine hs _ _ ?_ (D.known i o e).2
    have h1 := (D.known i o e).1
    have h2 := own.1
    intro q
    rw [q] at h1
    exact absurd h2 (Nat.not_le.mpr h1)
  · refine hs _ _ ?_ (D.keep b o e hb)
    rintro rfl
    rcases own.2 with h | h
    · exact hb h
    · rw [e] at h; cases h
  · refine hs _ _ ?_ (D.froz x hx').1
    intro q
    have h1 := (D.froz x hx').1
    rw [q, hx] at h1
    have h2 := (D.froz x hx').2
    rw [← Option.some.inj h1, hz] at h2
    cases h2
end Mine.R
end
section
namespace Mine
open PySem PySem.W PyProof.Rows
noncomputable def intVals : Nat → List Int → List Value
  | _, [] => []
  | t, n :: ns => .int n t :: intVals (t + 1) ns
noncomputable def scriptObj (t : Nat) (ns : List Int) : Obj := { cls := .type "list", data := .seq (intVals t ns).toArray }
noncomputable def withScript (s : Shared) (ns : List Int) : Shared := { s with heap := s.heap.push (scriptObj s.toks ns), toks := s.toks + ns.length }
theorem lay_intVals {R : WRecords} {cl : Str → Option Addr} {P : Params} {ord : List DictEntry → List DictEntry} : ∀ (ns : List Int) (s : Shared), layAllW R cl P ord (ns.map WData.int) s = some (intVals s.toks ns, { s with toks := s.toks + ns.length })
  | [], s => by simp [layAllW, intVals]
  | n :: ns, s => by
    simp only [List.map_cons, layAllW, layW]
    have := lay_intVals (R := R) (cl := cl) (P := P) (ord := ord) ns { s with toks := s.toks + 1 }
    dsimp only at this
    rw [this]
    simp only [intVals, List.length_cons, Option.some.injEq, Prod.mk.injEq, true_and]
    congr 1
    omega
theorem lay_script {R : WRecords} {cl : Str → Option Addr} {P : Params} {ord : List DictEntry → List DictEntry} (ns : List Int) (s : Shared) :
    layAllW R cl P ord [.list (ns.map WData.int)] s = some ([.ref s.heap.objs.size], withScript s ns) := by
  simp only [layAllW, layW, lay_intVals]
  rfl
theorem items_ints {R : WRecords} : ∀ {xs : List WData}, WShape.hasItems R xs .int = true → ∃ ns : List Int, xs = ns.map WData.int
  | [], _ => ⟨[], rfl⟩
  | x :: xs, h => by
    simp only [WShape.hasItems, Bool.and_eq_true] at h
    obtain ⟨i, rfl⟩ := hasW_int h.1
    obtain ⟨ns, rfl⟩ := items_ints h.2
    exact ⟨i :: ns, rfl⟩
theorem law_args {l : OpenLaw} {args : List WData} (h : l.row.toRowW.claim.pre args = true) : ∃ ns : List Int, args = [.list (ns.map WData.int)] := by
  have h1 := (pre_splitW h).1
  obtain ⟨d, r, rfl, h2, h3⟩ := hasAllW_cons (es := []) (e := .list .int) h1
  obtain rfl := hasAllW_nil h3
  obtain ⟨xs, rfl, hx⟩ := hasW_list h2
  obtain ⟨ns, rfl⟩ := items_ints hx
  exact ⟨ns, rfl⟩
theorem law_most {l : OpenLaw} {ns : List Int} {m : Nat} (hm : l.most = some m) (h : l.row.toRowW.claim.pre [.list (ns.map WData.int)] = true) : ns.length ≤ m := by
  have h2 := (pre_splitW h).2
  have : (l.pre).holds [] { args := [.list (ns.map WData.int)] } = true := h2
  unfold OpenLaw.pre at this
  rw [hm] at this
  obtain ⟨h1, _⟩ := holds_andW this
  have e : (WTm.not (.lt (.lit (.int m)) (.len (.arg 0)))).value [] { args := [.list (ns.map WData.int)] } = some (.bool (!decide ((m : Int) < ((ns.map WData.int).length : Int)))) := rfl
  have := condW_of h1 e
  simp at this
  omega
noncomputable def rootK : Ctx := ⟨.builtin "claim.caller" {}, none, none, [], none⟩
theorem callFrom_root {c : ClaimW} {tree : List Value → Sem Fin} {w : World} {s : Shared} {free : Addr → Prop} {gens : Prop} {kept : Heap → Prop} (hz : s.asleep) (hgens : s.gens = #[])
    (hspec : ∀ args, c.pre args = true → WData.layableAll args = true →
      ∀ ord : List DictEntry → List DictEntry, (∀ l, (ord l).Perm l) →
      ∃ vs s₁, layAllW c.records (classAt s.heap) w.params ord args s = some (vs, s₁) ∧
        Sem.wp (model c.prog w) rootK (tree vs) (Sem.finPost (model c.prog w) rootK fun r s' => (c.Ends s args vs s₁ r s' ∧ s'.os = s.os ∧ kept s'.heap) ∧ leftWithCleanup s'.gens = false)
          (fun e _ s' => (c.Ends s args vs s₁ (.error e) s' ∧ s'.os = s.os ∧ kept s'.heap) ∧ leftWithCleanup s'.gens = false) default s₁) :
    c.CallFrom (fun vs => ⟨tree vs, .builtin "claim.caller" {}, default, []⟩) w free gens kept s := by
  intro args hpre hlay ord hord
  obtain ⟨vs, s₁, hlaid, hcode⟩ := hspec args hpre hlay ord hord
  have hal := layAllW_rest _ _ _ hlaid
  obtain ⟨k, r, s', s'', hsched, hrun, hfo, hcase, hos, hkp⟩ := wp_halts_full (M := model c.prog w) (R := fun r s' => c.Ends s args vs s₁ r s' ∧ s'.os = s.os ∧ kept s'.heap)
    (Shared.asleep_of_life hal.2.2.2 hz) hcode
  obtain ⟨eh, _, _, eo, _⟩ := Shared.forget_eq hfo
  have hcase := hcase.congr eh
  have hkp : kept s''.heap := by first | exact eh ▸ hkp | (rw [eh]; exact hkp) | (rw [← eh]; exact hkp)
  rw [← eo] at hos
  have hlife : s''.heap.life = s.heap.life := (runN_life _ _ _ hrun).trans hal.2.2.2
  refine ⟨vs, s₁, hlaid, k, _, s'', hsched, ?_, (fun _ i x hx => by rw [hgens] at hx; simp at hx), hkp, by rw [hlife], Shared.rest_eq hos⟩
  rcases hcase with ⟨v, rfl, d1, d2, d3, d4, d5⟩ | ⟨e, ob, cls, rfl, d1, d2, d3, d4, d5⟩
  · exact .inl ⟨v, rfl, d1, d2, d3, fun b o y _ => d4 b o y, d5⟩
  · exact .inr ⟨e, ob, cls, rfl, d1, d2, d3, d4, fun b o y _ => d5 b o y⟩
theorem holds_gen {l : OpenLaw} {law : Addr} {Good : World → Shared → Prop} (hb : l.prog.bare) (ow : opensWell l.prog = true) (wit : l.row.toRowW.promised) (hwr : l.writes = false)
    (behind : ∀ w, (∃ s, AfterRun (opening l.prog) w s) ∧ ∀ s, AfterRun (opening l.prog) w s → ∃ s₀, fenceModules? l.prog s = some s₀ ∧ s₀.gens = #[] ∧
      ∃ s₁, TopRan l.prog w s₀ s₁ ∧ s₁.asleep ∧ s₁.gens = #[] ∧ isTheDefsW l.prog s₁.heap l.name ∧ Good w s₁)
    (name : ∀ w s, Good w s → ∃ m, s.heap.Ns mainNs m ∧ m l.name = some (.ref law))
    (walk : ∀ w s ns, Good w s → (∀ m, l.most = some m → ns.length ≤ m) →
      Sem.wp (model l.prog w) rootK (PySem.call (.ref law) [.ref s.heap.objs.size]) (fun v _ s' => v = .bool true ∧ (∀ b o, (withScript s ns).heap.get? b = some o → s'.heap.get? b = some o) ∧ s'.os = s.os ∧ s'.gens = #[]) (fun _ _ _ => False) default (withScript s ns)) :
    l.row.toRowW.claim.HoldsOpenBy (callStub l.row.toRowW.name) (if l.row.pinned then [l.row.toRowW.name] else []) l.row.keeps l.row.writes := by
  have hwr' : l.row.writes = false := hwr
  refine ⟨⟨hb, ow, rfl⟩, wit.witness, fun w => ⟨(behind w).1, fun s' hs' => ?_⟩⟩
  obtain ⟨s₀, hf, hg0, s, hT, hz, hgens, hdef, G⟩ := (behind w).2 s' hs'
  refine ⟨s₀, hf, hg0, s, hT, fun n hn => ?_, fun x hx => (nomatch hx), fun x hx => (nomatch hx), ?_⟩
  · have : n = l.name := by simpa [OpenLaw.row] using hn
    subst this
    exact hdef
  refine callFrom_root (c := l.row.toRowW.claim) (tree := fun vs => do match ← nsGet mainNs l.name with
      | some f => do ret (← PySem.call f vs)
      | none => unsupported "claim.caller:no-such-global") hz hgens fun args hpre hlay ord hord => ?_
  obtain ⟨ns, rfl⟩ := law_args hpre
  have hlaid : layAllW l.row.toRowW.claim.records (classAt s.heap) w.params ord [.list (ns.map WData.int)] s = some ([.ref s.heap.objs.size], withScript s ns) := lay_script ns s
  have keeps := layAllW_keeps _ _ _ hlaid
  obtain ⟨as, hrd, hin, hold⟩ := reads_layAllW hord _ _ _ hlaid hlay (withScript s ns).heap (fun _ _ e => e)
  have L : Laid l.row.toRowW.claim.records w s (withScript s ns) [.list (ns.map WData.int)] [.ref s.heap.objs.size] as := ⟨⟨ord, hord, hlaid⟩, hrd, hin, hold, keeps, hgens, rfl⟩
  refine ⟨_, _, hlaid, ?_⟩
  obtain ⟨m, hN, hm⟩ := name w s G
  rw [Sem.wp_bind', Sem.wp_nsGet (hn := hN.keeps keeps), hm]
  dsimp only
  rw [Sem.wp_bind']
  refine Sem.wp_mono _ _ _ (fun v p' s₂ h => ?_) (fun _ _ _ h => h.elim) _ _ (walk w s ns G fun m hm => law_most hm hpre)
  obtain ⟨rfl, hk, hos, hg⟩ := h
  have g : GoodWG l.row.toRowW.claim (classAt s.heap) (ExcName.means s.heap) [.list (ns.map WData.int)] (withScript s ns) (.ok (.ret (.bool true))) s₂ :=
    ⟨.inl ⟨_, .bool true, [], rfl, fun _ => rfl, .bool true, ?_, fun _ => ⟨List.nodup_nil, fun _ h => (nomatch h)⟩⟩, .of_keep hk, hos, .of_eq hg⟩
  · have z := GoodWG.laid (c := l.row.toRowW.claim) rfl rfl (fun _ _ => ?_) L g
    · show Sem.finPost _ _ _ (.done (.ret (.bool true))) p' s₂
      exact ⟨⟨z.1, z.2.1, fun q => by rw [hwr'] at q; cases q⟩, leftWithCleanup_false_of_bare z.2.2⟩
    · exact (ident_freeW (r := l.row.toRowW) rfl rfl rfl) _ _
  · show (WShape.has [] (.bool true) .bool && WTm.holds [] (.eq .res (.lit (.bool true))) { args := [.list (ns.map WData.int)], res := some (.bool true), after := [.list (ns.map WData.int)] }) = true
    simp [WShape.has, WShape.arms, WTm.holds, WTm.value, W.same]
end Mine
end
section
namespace Mine.B
open PySem PySem.W PySem.W.X
noncomputable def noS : Stmt := .Pass ⟨0, 0, 0, 0⟩
noncomputable def tS (i : Nat) : Stmt := PySem.Challenge.pw_we0033_02.main.body.getD i noS
noncomputable def fdA : Stmt → Arguments
  | .FunctionDef _ a _ _ _ _ _ _ _ _ => a
  | _ => ⟨[], [], none, [], [], none, []⟩
noncomputable def fdB : Stmt → List Stmt
  | .FunctionDef _ _ b _ _ _ _ _ _ _ => b
  | .ClassDef _ _ _ b _ _ _ _ _ _ _ => b
  | _ => []
noncomputable def fdS : Stmt → Scope
  | .FunctionDef _ _ _ _ _ _ s _ _ _ => s
  | _ => default
noncomputable def mS (i : Nat) : Stmt := (fdB (tS 5)).getD i noS
noncomputable def s0 : Str := ⟨⟨[95, 95, 110, 97, 109, 101, 95, 95]⟩⟩
noncomputable def s1 : Str := ⟨⟨[98, 117, 105, 108, 116, 105, 110, 115]⟩⟩
noncomputable def s2 : Str := ⟨⟨[95, 95, 100, 111, 99, 95, 95]⟩⟩
noncomputable def s3 : Str := ⟨⟨[95, 95, 112, 97, 99, 107, 97, 103, 101, 95, 95]⟩⟩
noncomputable def s4 : Str := ⟨⟨[95, 95, 108, 111, 97, 100, 101, 114, 95, 95]⟩⟩
noncomputable def s5 : Str := ⟨⟨[95, 95, 115, 112, 101, 99, 95, 95]⟩⟩
noncomputable def s6 : Str := ⟨⟨[95, 95, 98, 117, 105, 108, 100, 95, 99, 108, 97, 115, 115, 95, 95]⟩⟩
noncomputable def s7 : Str := ⟨⟨[95, 95, 105, 109, 112, 111, 114, 116, 95, 95]⟩⟩
noncomputable def s8 : Str := ⟨⟨[97, 98, 115]⟩⟩
noncomputable def s9 : Str := ⟨⟨[97, 108, 108]⟩⟩
noncomputable def s10 : Str := ⟨⟨[97, 110, 121]⟩⟩
noncomputable def s11 : Str := ⟨⟨[97, 115, 99, 105, 105]⟩⟩
noncomputable def s12 : Str := ⟨⟨[98, 105, 110]⟩⟩
noncomputable def s13 : Str := ⟨⟨[98, 114, 101, 97, 107, 112, 111, 105, 110, 116]⟩⟩
noncomputable def s14 : Str := ⟨⟨[99, 97, 108, 108, 97, 98, 108, 101]⟩⟩
noncomputable def s15 : Str := ⟨⟨[99, 104, 114]⟩⟩
noncomputable def s16 : Str := ⟨⟨[99, 111, 109, 112, 105, 108, 101]⟩⟩
noncomputable def s17 : Str := ⟨⟨[100, 101, 108, 97, 116, 116, 114]⟩⟩
noncomputable def s18 : Str := ⟨⟨[100, 105, 114]⟩⟩
noncomputable def s19 : Str := ⟨⟨[100, 105, 118, 109, 111, 100]⟩⟩
noncomputable def s20 : Str := ⟨⟨[101, 118, 97, 108]⟩⟩
noncomputable def s21 : Str := ⟨⟨[101, 120, 101, 99]⟩⟩
noncomputable def s22 : Str := ⟨⟨[102, 111, 114, 109, 97, 116]⟩⟩
noncomputable def s23 : Str := ⟨⟨[103, 101, 116, 97, 116, 116, 114]⟩⟩
noncomputable def s24 : Str := ⟨⟨[103, 108, 111, 98, 97, 108, 115]⟩⟩
noncomputable def s25 : Str := ⟨⟨[104, 97, 115, 97, 116, 116, 114]⟩⟩
noncomputable def s26 : Str := ⟨⟨[104, 97, 115, 104]⟩⟩
noncomputable def s27 : Str := ⟨⟨[104, 101, 120]⟩⟩
noncomputable def s28 : Str := ⟨⟨[105, 100]⟩⟩
noncomputable def s29 : Str := ⟨⟨[105, 110, 112, 117, 116]⟩⟩
noncomputable def s30 : Str := ⟨⟨[105, 115, 105, 110, 115, 116, 97, 110, 99, 101]⟩⟩
noncomputable def s31 : Str := ⟨⟨[105, 115, 115, 117, 98, 99, 108, 97, 115, 115]⟩⟩
noncomputable def s32 : Str := ⟨⟨[105, 116, 101, 114]⟩⟩
noncomputable def s33 : Str := ⟨⟨[97, 105, 116, 101, 114]⟩⟩
noncomputable def s34 : Str := ⟨⟨[108, 101, 110]⟩⟩
noncomputable def s35 : Str := ⟨⟨[108, 111, 99, 97, 108, 115]⟩⟩
noncomputable def s36 : Str := ⟨⟨[109, 97, 120]⟩⟩
noncomputable def s37 : Str := ⟨⟨[109, 105, 110]⟩⟩
noncomputable def s38 : Str := ⟨⟨[110, 101, 120, 116]⟩⟩
noncomputable def s39 : Str := ⟨⟨[97, 110, 101, 120, 116]⟩⟩
noncomputable def s40 : Str := ⟨⟨[111, 99, 116]⟩⟩
noncomputable def s41 : Str := ⟨⟨[111, 114, 100]⟩⟩
noncomputable def s42 : Str := ⟨⟨[112, 111, 119]⟩⟩
noncomputable def s43 : Str := ⟨⟨[112, 114, 105, 110, 116]⟩⟩
noncomputable def s44 : Str := ⟨⟨[114, 101, 112, 114]⟩⟩
noncomputable def s45 : Str := ⟨⟨[114, 111, 117, 110, 100]⟩⟩
noncomputable def s46 : Str := ⟨⟨[115, 101, 116, 97, 116, 116, 114]⟩⟩
noncomputable def s47 : Str := ⟨⟨[115, 111, 114, 116, 101, 100]⟩⟩
noncomputable def s48 : Str := ⟨⟨[115, 117, 109]⟩⟩
noncomputable def s49 : Str := ⟨⟨[118, 97, 114, 115]⟩⟩
noncomputable def s50 : Str := ⟨⟨[78, 111, 110, 101]⟩⟩
noncomputable def s51 : Str := ⟨⟨[69, 108, 108, 105, 112, 115, 105, 115]⟩⟩
noncomputable def s52 : Str := ⟨⟨[78, 111, 116, 73, 109, 112, 108, 101, 109, 101, 110, 116, 101, 100]⟩⟩
noncomputable def s53 : Str := ⟨⟨[70, 97, 108, 115, 101]⟩⟩
noncomputable def s54 : Str := ⟨⟨[84, 114, 117, 101]⟩⟩
noncomputable def s55 : Str := ⟨⟨[98, 111, 111, 108]⟩⟩
noncomputable def s56 : Str := ⟨⟨[109, 101, 109, 111, 114, 121, 118, 105, 101, 119]⟩⟩
noncomputable def s57 : Str := ⟨⟨[98, 121, 116, 101, 97, 114, 114, 97, 121]⟩⟩
noncomputable def s58 : Str := ⟨⟨[98, 121, 116, 101, 115]⟩⟩
noncomputable def s59 : Str := ⟨⟨[99, 108, 97, 115, 115, 109, 101, 116, 104, 111, 100]⟩⟩
noncomputable def s60 : Str := ⟨⟨[99, 111, 109, 112, 108, 101, 120]⟩⟩
noncomputable def s61 : Str := ⟨⟨[100, 105, 99, 116]⟩⟩
noncomputable def s62 : Str := ⟨⟨[101, 110, 117, 109, 101, 114, 97, 116, 101]⟩⟩
noncomputable def s63 : Str := ⟨⟨[102, 105, 108, 116, 101, 114]⟩⟩
noncomputable def s64 : Str := ⟨⟨[102, 108, 111, 97, 116]⟩⟩
noncomputable def s65 : Str := ⟨⟨[102, 114, 111, 122, 101, 110, 115, 101, 116]⟩⟩
noncomputable def s66 : Str := ⟨⟨[112, 114, 111, 112, 101, 114, 116, 121]⟩⟩
noncomputable def s67 : Str := ⟨⟨[105, 110, 116]⟩⟩
noncomputable def s68 : Str := ⟨⟨[108, 105, 115, 116]⟩⟩
noncomputable def s69 : Str := ⟨⟨[109, 97, 112]⟩⟩
noncomputable def s70 : Str := ⟨⟨[111, 98, 106, 101, 99, 116]⟩⟩
noncomputable def s71 : Str := ⟨⟨[114, 97, 110, 103, 101]⟩⟩
noncomputable def s72 : Str := ⟨⟨[114, 101, 118, 101, 114, 115, 101, 100]⟩⟩
noncomputable def s73 : Str := ⟨⟨[115, 101, 116]⟩⟩
noncomputable def s74 : Str := ⟨⟨[115, 108, 105, 99, 101]⟩⟩
noncomputable def s75 : Str := ⟨⟨[115, 116, 97, 116, 105, 99, 109, 101, 116, 104, 111, 100]⟩⟩
noncomputable def s76 : Str := ⟨⟨[115, 116, 114]⟩⟩
noncomputable def s77 : Str := ⟨⟨[115, 117, 112, 101, 114]⟩⟩
noncomputable def s78 : Str := ⟨⟨[116, 117, 112, 108, 101]⟩⟩
noncomputable def s79 : Str := ⟨⟨[116, 121, 112, 101]⟩⟩
noncomputable def s80 : Str := ⟨⟨[122, 105, 112]⟩⟩
noncomputable def s81 : Str := ⟨⟨[95, 95, 100, 101, 98, 117, 103, 95, 95]⟩⟩
noncomputable def s82 : Str := ⟨⟨[66, 97, 115, 101, 69, 120, 99, 101, 112, 116, 105, 111, 110]⟩⟩
noncomputable def s83 : Str := ⟨⟨[66, 97, 115, 101, 69, 120, 99, 101, 112, 116, 105, 111, 110, 71, 114, 111, 117, 112]⟩⟩
noncomputable def s84 : Str := ⟨⟨[69, 120, 99, 101, 112, 116, 105, 111, 110]⟩⟩
noncomputable def s85 : Str := ⟨⟨[71, 101, 110, 101, 114, 97, 116, 111, 114, 69, 120, 105, 116]⟩⟩
noncomputable def s86 : Str := ⟨⟨[75, 101, 121, 98, 111, 97, 114, 100, 73, 110, 116, 101, 114, 114, 117, 112, 116]⟩⟩
noncomputable def s87 : Str := ⟨⟨[83, 121, 115, 116, 101, 109, 69, 120, 105, 116]⟩⟩
noncomputable def s88 : Str := ⟨⟨[65, 114, 105, 116, 104, 109, 101, 116, 105, 99, 69, 114, 114, 111, 114]⟩⟩
noncomputable def s89 : Str := ⟨⟨[65, 115, 115, 101, 114, 116, 105, 111, 110, 69, 114, 114, 111, 114]⟩⟩
noncomputable def s90 : Str := ⟨⟨[65, 116, 116, 114, 105, 98, 117, 116, 101, 69, 114, 114, 111, 114]⟩⟩
noncomputable def s91 : Str := ⟨⟨[66, 117, 102, 102, 101, 114, 69, 114, 114, 111, 114]⟩⟩
noncomputable def s92 : Str := ⟨⟨[69, 79, 70, 69, 114, 114, 111, 114]⟩⟩
noncomputable def s93 : Str := ⟨⟨[73, 109, 112, 111, 114, 116, 69, 114, 114, 111, 114]⟩⟩
noncomputable def s94 : Str := ⟨⟨[76, 111, 111, 107, 117, 112, 69, 114, 114, 111, 114]⟩⟩
noncomputable def s95 : Str := ⟨⟨[77, 101, 109, 111, 114, 121, 69, 114, 114, 111, 114]⟩⟩
noncomputable def s96 : Str := ⟨⟨[78, 97, 109, 101, 69, 114, 114, 111, 114]⟩⟩
noncomputable def s97 : Str := ⟨⟨[79, 83, 69, 114, 114, 111, 114]⟩⟩
noncomputable def s98 : Str := ⟨⟨[82, 101, 102, 101, 114, 101, 110, 99, 101, 69, 114, 114, 111, 114]⟩⟩
noncomputable def s99 : Str := ⟨⟨[82, 117, 110, 116, 105, 109, 101, 69, 114, 114, 111, 114]⟩⟩
noncomputable def s100 : Str := ⟨⟨[83, 116, 111, 112, 65, 115, 121, 110, 99, 73, 116, 101, 114, 97, 116, 105, 111, 110]⟩⟩
noncomputable def s101 : Str := ⟨⟨[83, 116, 111, 112, 73, 116, 101, 114, 97, 116, 105, 111, 110]⟩⟩
noncomputable def s102 : Str := ⟨⟨[83, 121, 110, 116, 97, 120, 69, 114, 114, 111, 114]⟩⟩
noncomputable def s103 : Str := ⟨⟨[83, 121, 115, 116, 101, 109, 69, 114, 114, 111, 114]⟩⟩
noncomputable def s104 : Str := ⟨⟨[84, 121, 112, 101, 69, 114, 114, 111, 114]⟩⟩
noncomputable def s105 : Str := ⟨⟨[86, 97, 108, 117, 101, 69, 114, 114, 111, 114]⟩⟩
noncomputable def s106 : Str := ⟨⟨[87, 97, 114, 110, 105, 110, 103]⟩⟩
noncomputable def s107 : Str := ⟨⟨[70, 108, 111, 97, 116, 105, 110, 103, 80, 111, 105, 110, 116, 69, 114, 114, 111, 114]⟩⟩
noncomputable def s108 : Str := ⟨⟨[79, 118, 101, 114, 102, 108, 111, 119, 69, 114, 114, 111, 114]⟩⟩
noncomputable def s109 : Str := ⟨⟨[90, 101, 114, 111, 68, 105, 118, 105, 115, 105, 111, 110, 69, 114, 114, 111, 114]⟩⟩
noncomputable def s110 : Str := ⟨⟨[66, 121, 116, 101, 115, 87, 97, 114, 110, 105, 110, 103]⟩⟩
noncomputable def s111 : Str := ⟨⟨[68, 101, 112, 114, 101, 99, 97, 116, 105, 111, 110, 87, 97, 114, 110, 105, 110, 103]⟩⟩
noncomputable def s112 : Str := ⟨⟨[69, 110, 99, 111, 100, 105, 110, 103, 87, 97, 114, 110, 105, 110, 103]⟩⟩
noncomputable def s113 : Str := ⟨⟨[70, 117, 116, 117, 114, 101, 87, 97, 114, 110, 105, 110, 103]⟩⟩
noncomputable def s114 : Str := ⟨⟨[73, 109, 112, 111, 114, 116, 87, 97, 114, 110, 105, 110, 103]⟩⟩
noncomputable def s115 : Str := ⟨⟨[80, 101, 110, 100, 105, 110, 103, 68, 101, 112, 114, 101, 99, 97, 116, 105, 111, 110, 87, 97, 114, 110, 105, 110, 103]⟩⟩
noncomputable def s116 : Str := ⟨⟨[82, 101, 115, 111, 117, 114, 99, 101, 87, 97, 114, 110, 105, 110, 103]⟩⟩
noncomputable def s117 : Str := ⟨⟨[82, 117, 110, 116, 105, 109, 101, 87, 97, 114, 110, 105, 110, 103]⟩⟩
noncomputable def s118 : Str := ⟨⟨[83, 121, 110, 116, 97, 120, 87, 97, 114, 110, 105, 110, 103]⟩⟩
noncomputable def s119 : Str := ⟨⟨[85, 110, 105, 99, 111, 100, 101, 87, 97, 114, 110, 105, 110, 103]⟩⟩
noncomputable def s120 : Str := ⟨⟨[85, 115, 101, 114, 87, 97, 114, 110, 105, 110, 103]⟩⟩
noncomputable def s121 : Str := ⟨⟨[66, 108, 111, 99, 107, 105, 110, 103, 73, 79, 69, 114, 114, 111, 114]⟩⟩
noncomputable def s122 : Str := ⟨⟨[67, 104, 105, 108, 100, 80, 114, 111, 99, 101, 115, 115, 69, 114, 114, 111, 114]⟩⟩
noncomputable def s123 : Str := ⟨⟨[67, 111, 110, 110, 101, 99, 116, 105, 111, 110, 69, 114, 114, 111, 114]⟩⟩
noncomputable def s124 : Str := ⟨⟨[70, 105, 108, 101, 69, 120, 105, 115, 116, 115, 69, 114, 114, 111, 114]⟩⟩
noncomputable def s125 : Str := ⟨⟨[70, 105, 108, 101, 78, 111, 116, 70, 111, 117, 110, 100, 69, 114, 114, 111, 114]⟩⟩
noncomputable def s126 : Str := ⟨⟨[73, 110, 116, 101, 114, 114, 117, 112, 116, 101, 100, 69, 114, 114, 111, 114]⟩⟩
noncomputable def s127 : Str := ⟨⟨[73, 115, 65, 68, 105, 114, 101, 99, 116, 111, 114, 121, 69, 114, 114, 111, 114]⟩⟩
noncomputable def s128 : Str := ⟨⟨[78, 111, 116, 65, 68, 105, 114, 101, 99, 116, 111, 114, 121, 69, 114, 114, 111, 114]⟩⟩
noncomputable def s129 : Str := ⟨⟨[80, 101, 114, 109, 105, 115, 115, 105, 111, 110, 69, 114, 114, 111, 114]⟩⟩
noncomputable def s130 : Str := ⟨⟨[80, 114, 111, 99, 101, 115, 115, 76, 111, 111, 107, 117, 112, 69, 114, 114, 111, 114]⟩⟩
noncomputable def s131 : Str := ⟨⟨[84, 105, 109, 101, 111, 117, 116, 69, 114, 114, 111, 114]⟩⟩
noncomputable def s132 : Str := ⟨⟨[73, 110, 100, 101, 110, 116, 97, 116, 105, 111, 110, 69, 114, 114, 111, 114]⟩⟩
noncomputable def s133 : Str := ⟨⟨[95, 73, 110, 99, 111, 109, 112, 108, 101, 116, 101, 73, 110, 112, 117, 116, 69, 114, 114, 111, 114]⟩⟩
noncomputable def s134 : Str := ⟨⟨[73, 110, 100, 101, 120, 69, 114, 114, 111, 114]⟩⟩
noncomputable def s135 : Str := ⟨⟨[75, 101, 121, 69, 114, 114, 111, 114]⟩⟩
noncomputable def s136 : Str := ⟨⟨[77, 111, 100, 117, 108, 101, 78, 111, 116, 70, 111, 117, 110, 100, 69, 114, 114, 111, 114]⟩⟩
noncomputable def s137 : Str := ⟨⟨[78, 111, 116, 73, 109, 112, 108, 101, 109, 101, 110, 116, 101, 100, 69, 114, 114, 111, 114]⟩⟩
noncomputable def s138 : Str := ⟨⟨[80, 121, 116, 104, 111, 110, 70, 105, 110, 97, 108, 105, 122, 97, 116, 105, 111, 110, 69, 114, 114, 111, 114]⟩⟩
noncomputable def s139 : Str := ⟨⟨[82, 101, 99, 117, 114, 115, 105, 111, 110, 69, 114, 114, 111, 114]⟩⟩
noncomputable def s140 : Str := ⟨⟨[85, 110, 98, 111, 117, 110, 100, 76, 111, 99, 97, 108, 69, 114, 114, 111, 114]⟩⟩
noncomputable def s141 : Str := ⟨⟨[85, 110, 105, 99, 111, 100, 101, 69, 114, 114, 111, 114]⟩⟩
noncomputable def s142 : Str := ⟨⟨[66, 114, 111, 107, 101, 110, 80, 105, 112, 101, 69, 114, 114, 111, 114]⟩⟩
noncomputable def s143 : Str := ⟨⟨[67, 111, 110, 110, 101, 99, 116, 105, 111, 110, 65, 98, 111, 114, 116, 101, 100, 69, 114, 114, 111, 114]⟩⟩
noncomputable def s144 : Str := ⟨⟨[67, 111, 110, 110, 101, 99, 116, 105, 111, 110, 82, 101, 102, 117, 115, 101, 100, 69, 114, 114, 111, 114]⟩⟩
noncomputable def s145 : Str := ⟨⟨[67, 111, 110, 110, 101, 99, 116, 105, 111, 110, 82, 101, 115, 101, 116, 69, 114, 114, 111, 114]⟩⟩
noncomputable def s146 : Str := ⟨⟨[84, 97, 98, 69, 114, 114, 111, 114]⟩⟩
noncomputable def s147 : Str := ⟨⟨[85, 110, 105, 99, 111, 100, 101, 68, 101, 99, 111, 100, 101, 69, 114, 114, 111, 114]⟩⟩
noncomputable def s148 : Str := ⟨⟨[85, 110, 105, 99, 111, 100, 101, 69, 110, 99, 111, 100, 101, 69, 114, 114, 111, 114]⟩⟩
noncomputable def s149 : Str := ⟨⟨[85, 110, 105, 99, 111, 100, 101, 84, 114, 97, 110, 115, 108, 97, 116, 101, 69, 114, 114, 111, 114]⟩⟩
noncomputable def s150 : Str := ⟨⟨[69, 120, 99, 101, 112, 116, 105, 111, 110, 71, 114, 111, 117, 112]⟩⟩
noncomputable def s151 : Str := ⟨⟨[69, 110, 118, 105, 114, 111, 110, 109, 101, 110, 116, 69, 114, 114, 111, 114]⟩⟩
noncomputable def s152 : Str := ⟨⟨[73, 79, 69, 114, 114, 111, 114]⟩⟩
noncomputable def s153 : Str := ⟨⟨[111, 112, 101, 110]⟩⟩
noncomputable def s154 : Str := ⟨⟨[113, 117, 105, 116]⟩⟩
noncomputable def s155 : Str := ⟨⟨[101, 120, 105, 116]⟩⟩
noncomputable def s156 : Str := ⟨⟨[99, 111, 112, 121, 114, 105, 103, 104, 116]⟩⟩
noncomputable def s157 : Str := ⟨⟨[99, 114, 101, 100, 105, 116, 115]⟩⟩
noncomputable def s158 : Str := ⟨⟨[108, 105, 99, 101, 110, 115, 101]⟩⟩
noncomputable def s159 : Str := ⟨⟨[104, 101, 108, 112]⟩⟩
noncomputable def s160 : Str := ⟨⟨[105, 109, 112, 111, 114, 116, 46, 108, 111, 97, 100, 101, 100, 46, 95, 115, 114, 101]⟩⟩
noncomputable def s161 : Str := ⟨⟨[99, 108, 97, 115, 115, 46, 95, 102, 114, 111, 122, 101, 110, 95, 105, 109, 112, 111, 114, 116, 108, 105, 98, 46, 66, 117, 105, 108, 116, 105, 110, 73, 109, 112, 111, 114, 116, 101, 114]⟩⟩
noncomputable def s162 : Str := ⟨⟨[119, 97, 116, 99, 104, 101, 100, 46, 105, 109, 112, 111, 114, 116]⟩⟩
noncomputable def s163 : Str := ⟨⟨[99, 108, 97, 115, 115, 46, 95, 102, 114, 111, 122, 101, 110, 95, 105, 109, 112, 111, 114, 116, 108, 105, 98, 46, 77, 111, 100, 117, 108, 101, 83, 112, 101, 99]⟩⟩
noncomputable def s164 : Str := ⟨⟨[115, 121, 115, 46, 109, 111, 100, 117, 108, 101, 115, 46, 98, 111, 111, 107, 101, 100, 45, 101, 112, 111, 99, 104]⟩⟩
noncomputable def s165 : Str := ⟨⟨[105, 109, 112, 111, 114, 116, 46, 108, 97, 116, 101, 114, 45, 108, 97, 105, 100, 46, 95, 115, 114, 101]⟩⟩
noncomputable def s166 : Str := ⟨⟨[119, 97, 116, 99, 104, 101, 100, 46, 108, 105, 98, 114, 97, 114, 121]⟩⟩
noncomputable def s167 : Str := ⟨⟨[119, 97, 116, 99, 104, 101, 100, 46, 108, 105, 98, 114, 97, 114, 121, 45, 111, 98, 106, 101, 99, 116, 115]⟩⟩
noncomputable def s168 : Str := ⟨⟨[12]⟩⟩
noncomputable def s169 : Str := ⟨⟨[119, 97, 116, 99, 104, 101, 100, 46, 108, 105, 98, 114, 97, 114, 121, 45, 100, 101, 101, 112, 46, 95, 115, 114, 101]⟩⟩
noncomputable def s170 : Str := ⟨⟨[4, 0, 0, 11, 4, 0, 0, 11, 4, 0, 0, 3, 4, 0, 0, 11, 8, 4, 100, 105, 99, 116, 2]⟩⟩
noncomputable def s171 : Str := ⟨⟨[108, 97, 119, 95, 119, 101, 48, 48, 51, 51, 95, 48, 50]⟩⟩
noncomputable def s172 : Str := ⟨⟨[95, 95, 97, 110, 110, 111, 116, 97, 116, 105, 111, 110, 115, 95, 95]⟩⟩
noncomputable def s173 : Str := ⟨⟨[95, 95, 98, 117, 105, 108, 116, 105, 110, 115, 95, 95]⟩⟩
noncomputable def s174 : Str := ⟨⟨[95, 95, 102, 105, 108, 101, 95, 95]⟩⟩
noncomputable def s175 : Str := ⟨⟨[47, 99, 108, 97, 105, 109, 47, 99, 117, 116, 46, 112, 121]⟩⟩
noncomputable def s176 : Str := ⟨⟨[95, 95, 99, 97, 99, 104, 101, 100, 95, 95]⟩⟩
noncomputable def s177 : Str := ⟨⟨[95, 115, 114, 101]⟩⟩
noncomputable def s178 : Str := ⟨⟨[95, 119, 97, 108, 108]⟩⟩
noncomputable def s179 : Str := ⟨⟨[95, 110, 97, 109, 101, 95, 100, 105, 115, 97, 108, 108, 111, 119, 101, 100, 95, 114, 101]⟩⟩
noncomputable def s180 : Str := ⟨⟨[95, 118, 97, 108, 117, 101, 95, 100, 105, 115, 97, 108, 108, 111, 119, 101, 100, 95, 114, 101]⟩⟩
noncomputable def s181 : Str := ⟨⟨[72, 101, 97, 100, 101, 114, 115]⟩⟩
noncomputable def s182 : Str := ⟨⟨[73, 110, 116, 50, 65, 80]⟩⟩
noncomputable def s183 : Str := ⟨⟨[98, 49, 95, 115, 101, 116]⟩⟩
noncomputable def s184 : Str := ⟨⟨[105, 110, 95, 116, 97, 98, 108, 101, 95, 98, 49]⟩⟩
noncomputable def s185 : Str := ⟨⟨[98, 51, 95, 101, 120, 99, 101, 112, 116, 105, 111, 110, 115]⟩⟩
noncomputable def s186 : Str := ⟨⟨[109, 97, 112, 95, 116, 97, 98, 108, 101, 95, 98, 51]⟩⟩
noncomputable def s187 : Str := ⟨⟨[95, 108, 97, 119, 95, 115, 112, 101, 108, 108, 101, 100]⟩⟩
noncomputable def s188 : Str := ⟨⟨[95, 108, 97, 119, 95, 112, 114, 101, 112, 97, 114, 101, 100]⟩⟩
noncomputable def s189 : Str := ⟨⟨[95, 108, 97, 119, 95, 110, 117, 109, 98, 101, 114]⟩⟩
noncomputable def s190 : Str := ⟨⟨[95, 108, 97, 119, 95, 104, 101, 97, 114]⟩⟩
noncomputable def s191 : Str := ⟨⟨[95, 108, 97, 119, 95, 116, 97, 107, 101]⟩⟩
noncomputable def s192 : Str := ⟨⟨[108, 97, 119]⟩⟩
noncomputable def s193 : Str := ⟨⟨[91, 92, 120, 48, 48, 45, 92, 120, 49, 70, 92, 120, 55, 70, 93]⟩⟩
noncomputable def s194 : Str := ⟨⟨[91, 92, 120, 48, 48, 45, 92, 120, 48, 56, 92, 120, 48, 65, 45, 92, 120, 49, 70, 92, 120, 55, 70, 93]⟩⟩
noncomputable def s195 : Str := ⟨⟨[95, 95, 105, 110, 105, 116, 95, 95]⟩⟩
noncomputable def s196 : Str := ⟨⟨[72, 101, 97, 100, 101, 114, 115, 46, 95, 95, 105, 110, 105, 116, 95, 95]⟩⟩
noncomputable def s201 : Str := ⟨⟨[107]⟩⟩
noncomputable def s202 : Str := ⟨⟨[118]⟩⟩
noncomputable def s203 : Str := ⟨⟨[95, 99, 111, 110, 118, 101, 114, 116, 95, 115, 116, 114, 105, 110, 103, 95, 116, 121, 112, 101]⟩⟩
noncomputable def s204 : Str := ⟨⟨[110, 97, 109, 101]⟩⟩
noncomputable def s205 : Str := ⟨⟨[99, 112, 121, 51, 49, 51, 46, 119, 115, 103, 105, 114, 101, 102, 46, 104, 101, 97, 100, 101, 114, 115]⟩⟩
noncomputable def s206 : Str := ⟨⟨[72, 101, 97, 100, 101, 114, 115, 46, 95, 99, 111, 110, 118, 101, 114, 116, 95, 115, 116, 114, 105, 110, 103, 95, 116, 121, 112, 101]⟩⟩
noncomputable def s212 : Str := ⟨⟨[95, 95, 115, 101, 116, 105, 116, 101, 109, 95, 95]⟩⟩
noncomputable def s213 : Str := ⟨⟨[72, 101, 97, 100, 101, 114, 115, 46, 95, 95, 115, 101, 116, 105, 116, 101, 109, 95, 95]⟩⟩
noncomputable def s216 : Str := ⟨⟨[95, 95, 100, 101, 108, 105, 116, 101, 109, 95, 95]⟩⟩
noncomputable def s217 : Str := ⟨⟨[72, 101, 97, 100, 101, 114, 115, 46, 95, 95, 100, 101, 108, 105, 116, 101, 109, 95, 95]⟩⟩
noncomputable def s219 : Str := ⟨⟨[107, 118]⟩⟩
noncomputable def s222 : Str := ⟨⟨[95, 95, 103, 101, 116, 105, 116, 101, 109, 95, 95]⟩⟩
noncomputable def s223 : Str := ⟨⟨[72, 101, 97, 100, 101, 114, 115, 46, 95, 95, 103, 101, 116, 105, 116, 101, 109, 95, 95]⟩⟩
noncomputable def s224 : Str := ⟨⟨[103, 101, 116]⟩⟩
noncomputable def s225 : Str := ⟨⟨[72, 101, 97, 100, 101, 114, 115, 46, 103, 101, 116]⟩⟩
noncomputable def s227 : Str := ⟨⟨[107, 101, 121, 115]⟩⟩
noncomputable def s228 : Str := ⟨⟨[72, 101, 97, 100, 101, 114, 115, 46, 107, 101, 121, 115]⟩⟩
noncomputable def s229 : Str := ⟨⟨[105, 116, 101, 109, 115]⟩⟩
noncomputable def s230 : Str := ⟨⟨[72, 101, 97, 100, 101, 114, 115, 46, 105, 116, 101, 109, 115]⟩⟩
noncomputable def s231 : Str := ⟨⟨[115, 101, 116, 100, 101, 102, 97, 117, 108, 116]⟩⟩
noncomputable def s232 : Str := ⟨⟨[72, 101, 97, 100, 101, 114, 115, 46, 115, 101, 116, 100, 101, 102, 97, 117, 108, 116]⟩⟩
noncomputable def s234 : Str := ⟨⟨[95, 95, 109, 111, 100, 117, 108, 101, 95, 95]⟩⟩
noncomputable def s235 : Str := ⟨⟨[95, 95, 102, 105, 114, 115, 116, 108, 105, 110, 101, 110, 111, 95, 95]⟩⟩
noncomputable def s236 : Str := ⟨⟨[95, 95, 108, 101, 110, 95, 95]⟩⟩
noncomputable def s237 : Str := ⟨⟨[95, 95, 99, 111, 110, 116, 97, 105, 110, 115, 95, 95]⟩⟩
noncomputable def s238 : Str := ⟨⟨[103, 101, 116, 95, 97, 108, 108]⟩⟩
noncomputable def s239 : Str := ⟨⟨[118, 97, 108, 117, 101, 115]⟩⟩
noncomputable def s240 : Str := ⟨⟨[95, 95, 114, 101, 112, 114, 95, 95]⟩⟩
noncomputable def s241 : Str := ⟨⟨[95, 95, 115, 116, 114, 95, 95]⟩⟩
noncomputable def s242 : Str := ⟨⟨[95, 95, 98, 121, 116, 101, 115, 95, 95]⟩⟩
noncomputable def s243 : Str := ⟨⟨[97, 100, 100, 95, 104, 101, 97, 100, 101, 114]⟩⟩
noncomputable def s244 : Str := ⟨⟨[95, 95, 115, 116, 97, 116, 105, 99, 95, 97, 116, 116, 114, 105, 98, 117, 116, 101, 115, 95, 95]⟩⟩
noncomputable def s245 : Str := ⟨⟨[95, 95, 100, 105, 99, 116, 95, 95]⟩⟩
noncomputable def s246 : Str := ⟨⟨[95, 95, 119, 101, 97, 107, 114, 101, 102, 95, 95]⟩⟩
noncomputable def s250 : Str := ⟨⟨[99, 112, 121, 51, 49, 51, 46, 105, 109, 97, 112, 108, 105, 98]⟩⟩
noncomputable def s252 : Str := ⟨⟨[99, 112, 121, 51, 49, 51, 46, 115, 116, 114, 105, 110, 103, 112, 114, 101, 112]⟩⟩
noncomputable def s253 : Str := ⟨⟨[956]⟩⟩
noncomputable def s254 : Str := ⟨⟨[115, 115]⟩⟩
noncomputable def s255 : Str := ⟨⟨[105, 775]⟩⟩
noncomputable def s256 : Str := ⟨⟨[700, 110]⟩⟩
noncomputable def s257 : Str := ⟨⟨[115]⟩⟩
noncomputable def s258 : Str := ⟨⟨[106, 780]⟩⟩
noncomputable def s259 : Str := ⟨⟨[953]⟩⟩
noncomputable def s260 : Str := ⟨⟨[32, 953]⟩⟩
noncomputable def s261 : Str := ⟨⟨[953, 776, 769]⟩⟩
noncomputable def s262 : Str := ⟨⟨[965, 776, 769]⟩⟩
noncomputable def s263 : Str := ⟨⟨[963]⟩⟩
noncomputable def s264 : Str := ⟨⟨[946]⟩⟩
noncomputable def s265 : Str := ⟨⟨[952]⟩⟩
noncomputable def s266 : Str := ⟨⟨[965]⟩⟩
noncomputable def s267 : Str := ⟨⟨[973]⟩⟩
noncomputable def s268 : Str := ⟨⟨[971]⟩⟩
noncomputable def s269 : Str := ⟨⟨[966]⟩⟩
noncomputable def s270 : Str := ⟨⟨[960]⟩⟩
noncomputable def s271 : Str := ⟨⟨[954]⟩⟩
noncomputable def s272 : Str := ⟨⟨[961]⟩⟩
noncomputable def s273 : Str := ⟨⟨[949]⟩⟩
noncomputable def s274 : Str := ⟨⟨[1381, 1410]⟩⟩
noncomputable def s275 : Str := ⟨⟨[104, 817]⟩⟩
noncomputable def s276 : Str := ⟨⟨[116, 776]⟩⟩
noncomputable def s277 : Str := ⟨⟨[119, 778]⟩⟩
noncomputable def s278 : Str := ⟨⟨[121, 778]⟩⟩
noncomputable def s279 : Str := ⟨⟨[97, 702]⟩⟩
noncomputable def s280 : Str := ⟨⟨[7777]⟩⟩
noncomputable def s281 : Str := ⟨⟨[965, 787]⟩⟩
noncomputable def s282 : Str := ⟨⟨[965, 787, 768]⟩⟩
noncomputable def s283 : Str := ⟨⟨[965, 787, 769]⟩⟩
noncomputable def s284 : Str := ⟨⟨[965, 787, 834]⟩⟩
noncomputable def s285 : Str := ⟨⟨[7936, 953]⟩⟩
noncomputable def s286 : Str := ⟨⟨[7937, 953]⟩⟩
noncomputable def s287 : Str := ⟨⟨[7938, 953]⟩⟩
noncomputable def s288 : Str := ⟨⟨[7939, 953]⟩⟩
noncomputable def s289 : Str := ⟨⟨[7940, 953]⟩⟩
noncomputable def s290 : Str := ⟨⟨[7941, 953]⟩⟩
noncomputable def s291 : Str := ⟨⟨[7942, 953]⟩⟩
noncomputable def s292 : Str := ⟨⟨[7943, 953]⟩⟩
noncomputable def s293 : Str := ⟨⟨[7968, 953]⟩⟩
noncomputable def s294 : Str := ⟨⟨[7969, 953]⟩⟩
noncomputable def s295 : Str := ⟨⟨[7970, 953]⟩⟩
noncomputable def s296 : Str := ⟨⟨[7971, 953]⟩⟩
noncomputable def s297 : Str := ⟨⟨[7972, 953]⟩⟩
noncomputable def s298 : Str := ⟨⟨[7973, 953]⟩⟩
noncomputable def s299 : Str := ⟨⟨[7974, 953]⟩⟩
noncomputable def s300 : Str := ⟨⟨[7975, 953]⟩⟩
noncomputable def s301 : Str := ⟨⟨[8032, 953]⟩⟩
noncomputable def s302 : Str := ⟨⟨[8033, 953]⟩⟩
noncomputable def s303 : Str := ⟨⟨[8034, 953]⟩⟩
noncomputable def s304 : Str := ⟨⟨[8035, 953]⟩⟩
noncomputable def s305 : Str := ⟨⟨[8036, 953]⟩⟩
noncomputable def s306 : Str := ⟨⟨[8037, 953]⟩⟩
noncomputable def s307 : Str := ⟨⟨[8038, 953]⟩⟩
noncomputable def s308 : Str := ⟨⟨[8039, 953]⟩⟩
noncomputable def s309 : Str := ⟨⟨[8048, 953]⟩⟩
noncomputable def s310 : Str := ⟨⟨[945, 953]⟩⟩
noncomputable def s311 : Str := ⟨⟨[940, 953]⟩⟩
noncomputable def s312 : Str := ⟨⟨[945, 834]⟩⟩
noncomputable def s313 : Str := ⟨⟨[945, 834, 953]⟩⟩
noncomputable def s314 : Str := ⟨⟨[8052, 953]⟩⟩
noncomputable def s315 : Str := ⟨⟨[951, 953]⟩⟩
noncomputable def s316 : Str := ⟨⟨[942, 953]⟩⟩
noncomputable def s317 : Str := ⟨⟨[951, 834]⟩⟩
noncomputable def s318 : Str := ⟨⟨[951, 834, 953]⟩⟩
noncomputable def s319 : Str := ⟨⟨[953, 776, 768]⟩⟩
noncomputable def s320 : Str := ⟨⟨[953, 834]⟩⟩
noncomputable def s321 : Str := ⟨⟨[953, 776, 834]⟩⟩
noncomputable def s322 : Str := ⟨⟨[965, 776, 768]⟩⟩
noncomputable def s323 : Str := ⟨⟨[961, 787]⟩⟩
noncomputable def s324 : Str := ⟨⟨[965, 834]⟩⟩
noncomputable def s325 : Str := ⟨⟨[965, 776, 834]⟩⟩
noncomputable def s326 : Str := ⟨⟨[8060, 953]⟩⟩
noncomputable def s327 : Str := ⟨⟨[969, 953]⟩⟩
noncomputable def s328 : Str := ⟨⟨[974, 953]⟩⟩
noncomputable def s329 : Str := ⟨⟨[969, 834]⟩⟩
noncomputable def s330 : Str := ⟨⟨[969, 834, 953]⟩⟩
noncomputable def s331 : Str := ⟨⟨[114, 115]⟩⟩
noncomputable def s332 : Str := ⟨⟨[99]⟩⟩
noncomputable def s333 : Str := ⟨⟨[176, 99]⟩⟩
noncomputable def s334 : Str := ⟨⟨[603]⟩⟩
noncomputable def s335 : Str := ⟨⟨[176, 102]⟩⟩
noncomputable def s336 : Str := ⟨⟨[104]⟩⟩
noncomputable def s337 : Str := ⟨⟨[105]⟩⟩
noncomputable def s338 : Str := ⟨⟨[108]⟩⟩
noncomputable def s339 : Str := ⟨⟨[110]⟩⟩
noncomputable def s340 : Str := ⟨⟨[110, 111]⟩⟩
noncomputable def s341 : Str := ⟨⟨[112]⟩⟩
noncomputable def s342 : Str := ⟨⟨[113]⟩⟩
noncomputable def s343 : Str := ⟨⟨[114]⟩⟩
noncomputable def s344 : Str := ⟨⟨[115, 109]⟩⟩
noncomputable def s345 : Str := ⟨⟨[116, 101, 108]⟩⟩
noncomputable def s346 : Str := ⟨⟨[116, 109]⟩⟩
noncomputable def s347 : Str := ⟨⟨[122]⟩⟩
noncomputable def s348 : Str := ⟨⟨[98]⟩⟩
noncomputable def s349 : Str := ⟨⟨[101]⟩⟩
noncomputable def s350 : Str := ⟨⟨[102]⟩⟩
noncomputable def s351 : Str := ⟨⟨[109]⟩⟩
noncomputable def s352 : Str := ⟨⟨[947]⟩⟩
noncomputable def s353 : Str := ⟨⟨[100]⟩⟩
noncomputable def s354 : Str := ⟨⟨[104, 112, 97]⟩⟩
noncomputable def s355 : Str := ⟨⟨[97, 117]⟩⟩
noncomputable def s356 : Str := ⟨⟨[111, 118]⟩⟩
noncomputable def s357 : Str := ⟨⟨[112, 97]⟩⟩
noncomputable def s358 : Str := ⟨⟨[110, 97]⟩⟩
noncomputable def s359 : Str := ⟨⟨[956, 97]⟩⟩
noncomputable def s360 : Str := ⟨⟨[109, 97]⟩⟩
noncomputable def s361 : Str := ⟨⟨[107, 97]⟩⟩
noncomputable def s362 : Str := ⟨⟨[107, 98]⟩⟩
noncomputable def s363 : Str := ⟨⟨[109, 98]⟩⟩
noncomputable def s364 : Str := ⟨⟨[103, 98]⟩⟩
noncomputable def s365 : Str := ⟨⟨[112, 102]⟩⟩
noncomputable def s366 : Str := ⟨⟨[110, 102]⟩⟩
noncomputable def s367 : Str := ⟨⟨[956, 102]⟩⟩
noncomputable def s368 : Str := ⟨⟨[104, 122]⟩⟩
noncomputable def s369 : Str := ⟨⟨[107, 104, 122]⟩⟩
noncomputable def s370 : Str := ⟨⟨[109, 104, 122]⟩⟩
noncomputable def s371 : Str := ⟨⟨[103, 104, 122]⟩⟩
noncomputable def s372 : Str := ⟨⟨[116, 104, 122]⟩⟩
noncomputable def s373 : Str := ⟨⟨[107, 112, 97]⟩⟩
noncomputable def s374 : Str := ⟨⟨[109, 112, 97]⟩⟩
noncomputable def s375 : Str := ⟨⟨[103, 112, 97]⟩⟩
noncomputable def s376 : Str := ⟨⟨[112, 118]⟩⟩
noncomputable def s377 : Str := ⟨⟨[110, 118]⟩⟩
noncomputable def s378 : Str := ⟨⟨[956, 118]⟩⟩
noncomputable def s379 : Str := ⟨⟨[109, 118]⟩⟩
noncomputable def s380 : Str := ⟨⟨[112, 119]⟩⟩
noncomputable def s381 : Str := ⟨⟨[110, 119]⟩⟩
noncomputable def s382 : Str := ⟨⟨[956, 119]⟩⟩
noncomputable def s383 : Str := ⟨⟨[109, 119]⟩⟩
noncomputable def s384 : Str := ⟨⟨[107, 119]⟩⟩
noncomputable def s385 : Str := ⟨⟨[107, 969]⟩⟩
noncomputable def s386 : Str := ⟨⟨[109, 969]⟩⟩
noncomputable def s387 : Str := ⟨⟨[98, 113]⟩⟩
noncomputable def s388 : Str := ⟨⟨[99, 8725, 107, 103]⟩⟩
noncomputable def s389 : Str := ⟨⟨[99, 111, 46]⟩⟩
noncomputable def s390 : Str := ⟨⟨[100, 98]⟩⟩
noncomputable def s391 : Str := ⟨⟨[103, 121]⟩⟩
noncomputable def s392 : Str := ⟨⟨[104, 112]⟩⟩
noncomputable def s393 : Str := ⟨⟨[107, 107]⟩⟩
noncomputable def s394 : Str := ⟨⟨[107, 109]⟩⟩
noncomputable def s395 : Str := ⟨⟨[112, 104]⟩⟩
noncomputable def s396 : Str := ⟨⟨[112, 112, 109]⟩⟩
noncomputable def s397 : Str := ⟨⟨[112, 114]⟩⟩
noncomputable def s398 : Str := ⟨⟨[115, 118]⟩⟩
noncomputable def s399 : Str := ⟨⟨[119, 98]⟩⟩
noncomputable def s400 : Str := ⟨⟨[102, 102]⟩⟩
noncomputable def s401 : Str := ⟨⟨[102, 105]⟩⟩
noncomputable def s402 : Str := ⟨⟨[102, 108]⟩⟩
noncomputable def s403 : Str := ⟨⟨[102, 102, 105]⟩⟩
noncomputable def s404 : Str := ⟨⟨[102, 102, 108]⟩⟩
noncomputable def s405 : Str := ⟨⟨[115, 116]⟩⟩
noncomputable def s406 : Str := ⟨⟨[1396, 1398]⟩⟩
noncomputable def s407 : Str := ⟨⟨[1396, 1381]⟩⟩
noncomputable def s408 : Str := ⟨⟨[1396, 1387]⟩⟩
noncomputable def s409 : Str := ⟨⟨[1406, 1398]⟩⟩
noncomputable def s410 : Str := ⟨⟨[1396, 1389]⟩⟩
noncomputable def s411 : Str := ⟨⟨[97]⟩⟩
noncomputable def s412 : Str := ⟨⟨[103]⟩⟩
noncomputable def s413 : Str := ⟨⟨[106]⟩⟩
noncomputable def s414 : Str := ⟨⟨[111]⟩⟩
noncomputable def s415 : Str := ⟨⟨[116]⟩⟩
noncomputable def s416 : Str := ⟨⟨[117]⟩⟩
noncomputable def s417 : Str := ⟨⟨[119]⟩⟩
noncomputable def s418 : Str := ⟨⟨[120]⟩⟩
noncomputable def s419 : Str := ⟨⟨[121]⟩⟩
noncomputable def s420 : Str := ⟨⟨[945]⟩⟩
noncomputable def s421 : Str := ⟨⟨[948]⟩⟩
noncomputable def s422 : Str := ⟨⟨[950]⟩⟩
noncomputable def s423 : Str := ⟨⟨[951]⟩⟩
noncomputable def s424 : Str := ⟨⟨[955]⟩⟩
noncomputable def s425 : Str := ⟨⟨[957]⟩⟩
noncomputable def s426 : Str := ⟨⟨[958]⟩⟩
noncomputable def s427 : Str := ⟨⟨[959]⟩⟩
noncomputable def s428 : Str := ⟨⟨[964]⟩⟩
noncomputable def s429 : Str := ⟨⟨[967]⟩⟩
noncomputable def s430 : Str := ⟨⟨[968]⟩⟩
noncomputable def s431 : Str := ⟨⟨[969]⟩⟩
noncomputable def s435 : Str := ⟨⟨[]⟩⟩
noncomputable def s469 : Str := ⟨⟨[95, 95, 109, 97, 105, 110, 95, 95]⟩⟩
noncomputable def s470 : Str := ⟨⟨[60, 109, 111, 100, 117, 108, 101, 62]⟩⟩
noncomputable def s471 : Str := ⟨⟨[116, 101, 109, 112, 108, 97, 116, 101]⟩⟩
noncomputable def s472 : Str := ⟨⟨[103, 101, 116, 99, 111, 100, 101, 115, 105, 122, 101]⟩⟩
noncomputable def s473 : Str := ⟨⟨[97, 115, 99, 105, 105, 95, 105, 115, 99, 97, 115, 101, 100]⟩⟩
noncomputable def s474 : Str := ⟨⟨[117, 110, 105, 99, 111, 100, 101, 95, 105, 115, 99, 97, 115, 101, 100]⟩⟩
noncomputable def s475 : Str := ⟨⟨[97, 115, 99, 105, 105, 95, 116, 111, 108, 111, 119, 101, 114]⟩⟩
noncomputable def s476 : Str := ⟨⟨[117, 110, 105, 99, 111, 100, 101, 95, 116, 111, 108, 111, 119, 101, 114]⟩⟩
noncomputable def s477 : Str := ⟨⟨[77, 65, 71, 73, 67]⟩⟩
noncomputable def s478 : Str := ⟨⟨[67, 79, 68, 69, 83, 73, 90, 69]⟩⟩
noncomputable def s479 : Str := ⟨⟨[77, 65, 88, 82, 69, 80, 69, 65, 84]⟩⟩
noncomputable def s480 : Str := ⟨⟨[77, 65, 88, 71, 82, 79, 85, 80, 83]⟩⟩
noncomputable def s481 : Str := ⟨⟨[32, 83, 82, 69, 32, 50, 46, 50, 46, 50, 32, 67, 111, 112, 121, 114, 105, 103, 104, 116, 32, 40, 99, 41, 32, 49, 57, 57, 55, 45, 50, 48, 48, 50, 32, 98, 121, 32, 83, 101, 99, 114, 101, 116, 32, 76, 97, 98, 115, 32, 65, 66, 32]⟩⟩
noncomputable def s482 : Str := ⟨⟨[95, 102, 114, 111, 122, 101, 110, 95, 105, 109, 112, 111, 114, 116, 108, 105, 98]⟩⟩
noncomputable def s483 : Str := ⟨⟨[95, 79, 82, 73, 71, 73, 78]⟩⟩
noncomputable def s484 : Str := ⟨⟨[98, 117, 105, 108, 116, 45, 105, 110]⟩⟩
noncomputable def s485 : Str := ⟨⟨[102, 105, 110, 100, 95, 115, 112, 101, 99]⟩⟩
noncomputable def s486 : Str := ⟨⟨[99, 114, 101, 97, 116, 101, 95, 109, 111, 100, 117, 108, 101]⟩⟩
noncomputable def s487 : Str := ⟨⟨[101, 120, 101, 99, 95, 109, 111, 100, 117, 108, 101]⟩⟩
noncomputable def s488 : Str := ⟨⟨[103, 101, 116, 95, 99, 111, 100, 101]⟩⟩
noncomputable def s489 : Str := ⟨⟨[103, 101, 116, 95, 115, 111, 117, 114, 99, 101]⟩⟩
noncomputable def s490 : Str := ⟨⟨[105, 115, 95, 112, 97, 99, 107, 97, 103, 101]⟩⟩
noncomputable def s491 : Str := ⟨⟨[108, 111, 97, 100, 95, 109, 111, 100, 117, 108, 101]⟩⟩
noncomputable def s492 : Str := ⟨⟨[66, 117, 105, 108, 116, 105, 110, 73, 109, 112, 111, 114, 116, 101, 114]⟩⟩
noncomputable def s493 : Str := ⟨⟨[6, 189, 10, 95, 95, 109, 111, 100, 117, 108, 101, 95, 95, 6, 186, 17, 95, 102, 114, 111, 122, 101, 110, 95, 105, 109, 112, 111, 114, 116, 108, 105, 98, 6, 190, 15, 95, 95, 102, 105, 114, 115, 116, 108, 105, 110, 101, 110, 111, 95, 95, 4, 187, 0, 971, 6, 191, 7, 95, 95, 100, 111, 99, 95, 95, 9, 52, 95, 102, 114, 111, 122, 101, 110, 95, 105, 109, 112, 111, 114, 116, 108, 105, 98, 46, 66, 117, 105, 108, 116, 105, 110, 73, 109, 112, 111, 114, 116, 101, 114, 46, 95, 95, 100, 111, 99, 95, 95, 58, 115, 116, 114, 35, 111, 112, 97, 113, 117, 101, 6, 192, 7, 95, 79, 82, 73, 71, 73, 78, 6, 188, 8, 98, 117, 105, 108, 116, 45, 105, 110, 6, 193, 9, 102, 105, 110, 100, 95, 115, 112, 101, 99, 9, 50, 95, 102, 114, 111, 122, 101, 110, 95, 105, 109, 112, 111, 114, 116, 108, 105, 98, 46, 66, 117, 105, 108, 116, 105, 110, 73, 109, 112, 111, 114, 116, 101, 114, 46, 102, 105, 110, 100, 95, 115, 112, 101, 99, 35, 111, 112, 97, 113, 117, 101, 6, 194, 13, 99, 114, 101, 97, 116, 101, 95, 109, 111, 100, 117, 108, 101, 9, 54, 95, 102, 114, 111, 122, 101, 110, 95, 105, 109, 112, 111, 114, 116, 108, 105, 98, 46, 66, 117, 105, 108, 116, 105, 110, 73, 109, 112, 111, 114, 116, 101, 114, 46, 99, 114, 101, 97, 116, 101, 95, 109, 111, 100, 117, 108, 101, 35, 111, 112, 97, 113, 117, 101, 6, 195, 11, 101, 120, 101, 99, 95, 109, 111, 100, 117, 108, 101, 9, 52, 95, 102, 114, 111, 122, 101, 110, 95, 105, 109, 112, 111, 114, 116, 108, 105, 98, 46, 66, 117, 105, 108, 116, 105, 110, 73, 109, 112, 111, 114, 116, 101, 114, 46, 101, 120, 101, 99, 95, 109, 111, 100, 117, 108, 101, 35, 111, 112, 97, 113, 117, 101, 6, 196, 8, 103, 101, 116, 95, 99, 111, 100, 101, 9, 49, 95, 102, 114, 111, 122, 101, 110, 95, 105, 109, 112, 111, 114, 116, 108, 105, 98, 46, 66, 117, 105, 108, 116, 105, 110, 73, 109, 112, 111, 114, 116, 101, 114, 46, 103, 101, 116, 95, 99, 111, 100, 101, 35, 111, 112, 97, 113, 117, 101, 6, 197, 10, 103, 101, 116, 95, 115, 111, 117, 114, 99, 101, 9, 51, 95, 102, 114, 111, 122, 101, 110, 95, 105, 109, 112, 111, 114, 116, 108, 105, 98, 46, 66, 117, 105, 108, 116, 105, 110, 73, 109, 112, 111, 114, 116, 101, 114, 46, 103, 101, 116, 95, 115, 111, 117, 114, 99, 101, 35, 111, 112, 97, 113, 117, 101, 6, 198, 10, 105, 115, 95, 112, 97, 99, 107, 97, 103, 101, 9, 51, 95, 102, 114, 111, 122, 101, 110, 95, 105, 109, 112, 111, 114, 116, 108, 105, 98, 46, 66, 117, 105, 108, 116, 105, 110, 73, 109, 112, 111, 114, 116, 101, 114, 46, 105, 115, 95, 112, 97, 99, 107, 97, 103, 101, 35, 111, 112, 97, 113, 117, 101, 6, 199, 11, 108, 111, 97, 100, 95, 109, 111, 100, 117, 108, 101, 9, 52, 95, 102, 114, 111, 122, 101, 110, 95, 105, 109, 112, 111, 114, 116, 108, 105, 98, 46, 66, 117, 105, 108, 116, 105, 110, 73, 109, 112, 111, 114, 116, 101, 114, 46, 108, 111, 97, 100, 95, 109, 111, 100, 117, 108, 101, 35, 111, 112, 97, 113, 117, 101, 6, 200, 21, 95, 95, 115, 116, 97, 116, 105, 99, 95, 97, 116, 116, 114, 105, 98, 117, 116, 101, 115, 95, 95, 4, 0, 0, 15, 6, 202, 8, 95, 95, 100, 105, 99, 116, 95, 95, 4, 0, 0, 16, 6, 204, 11, 95, 95, 119, 101, 97, 107, 114, 101, 102, 95, 95, 4, 0, 0, 17]⟩⟩
noncomputable def s494 : Str := ⟨⟨[6, 227, 10, 95, 95, 109, 111, 100, 117, 108, 101, 95, 95, 6, 217, 17, 95, 102, 114, 111, 122, 101, 110, 95, 105, 109, 112, 111, 114, 116, 108, 105, 98, 6, 228, 15, 95, 95, 102, 105, 114, 115, 116, 108, 105, 110, 101, 110, 111, 95, 95, 4, 218, 0, 562, 6, 229, 7, 95, 95, 100, 111, 99, 95, 95, 9, 47, 95, 102, 114, 111, 122, 101, 110, 95, 105, 109, 112, 111, 114, 116, 108, 105, 98, 46, 77, 111, 100, 117, 108, 101, 83, 112, 101, 99, 46, 95, 95, 100, 111, 99, 95, 95, 58, 115, 116, 114, 35, 111, 112, 97, 113, 117, 101, 6, 230, 8, 95, 95, 105, 110, 105, 116, 95, 95, 9, 44, 95, 102, 114, 111, 122, 101, 110, 95, 105, 109, 112, 111, 114, 116, 108, 105, 98, 46, 77, 111, 100, 117, 108, 101, 83, 112, 101, 99, 46, 95, 95, 105, 110, 105, 116, 95, 95, 35, 111, 112, 97, 113, 117, 101, 6, 231, 8, 95, 95, 114, 101, 112, 114, 95, 95, 9, 44, 95, 102, 114, 111, 122, 101, 110, 95, 105, 109, 112, 111, 114, 116, 108, 105, 98, 46, 77, 111, 100, 117, 108, 101, 83, 112, 101, 99, 46, 95, 95, 114, 101, 112, 114, 95, 95, 35, 111, 112, 97, 113, 117, 101, 6, 232, 6, 95, 95, 101, 113, 95, 95, 9, 42, 95, 102, 114, 111, 122, 101, 110, 95, 105, 109, 112, 111, 114, 116, 108, 105, 98, 46, 77, 111, 100, 117, 108, 101, 83, 112, 101, 99, 46, 95, 95, 101, 113, 95, 95, 35, 111, 112, 97, 113, 117, 101, 6, 233, 6, 99, 97, 99, 104, 101, 100, 9, 42, 95, 102, 114, 111, 122, 101, 110, 95, 105, 109, 112, 111, 114, 116, 108, 105, 98, 46, 77, 111, 100, 117, 108, 101, 83, 112, 101, 99, 46, 99, 97, 99, 104, 101, 100, 35, 111, 112, 97, 113, 117, 101, 6, 234, 6, 112, 97, 114, 101, 110, 116, 9, 42, 95, 102, 114, 111, 122, 101, 110, 95, 105, 109, 112, 111, 114, 116, 108, 105, 98, 46, 77, 111, 100, 117, 108, 101, 83, 112, 101, 99, 46, 112, 97, 114, 101, 110, 116, 35, 111, 112, 97, 113, 117, 101, 6, 235, 12, 104, 97, 115, 95, 108, 111, 99, 97, 116, 105, 111, 110, 9, 48, 95, 102, 114, 111, 122, 101, 110, 95, 105, 109, 112, 111, 114, 116, 108, 105, 98, 46, 77, 111, 100, 117, 108, 101, 83, 112, 101, 99, 46, 104, 97, 115, 95, 108, 111, 99, 97, 116, 105, 111, 110, 35, 111, 112, 97, 113, 117, 101, 6, 236, 21, 95, 95, 115, 116, 97, 116, 105, 99, 95, 97, 116, 116, 114, 105, 98, 117, 116, 101, 115, 95, 95, 4, 0, 0, 23, 6, 238, 8, 95, 95, 100, 105, 99, 116, 95, 95, 4, 0, 0, 24, 6, 240, 11, 95, 95, 119, 101, 97, 107, 114, 101, 102, 95, 95, 4, 0, 0, 25, 6, 241, 8, 95, 95, 104, 97, 115, 104, 95, 95, 0]⟩⟩
noncomputable def s495 : Str := ⟨⟨[108, 111, 97, 100, 101, 114]⟩⟩
noncomputable def s496 : Str := ⟨⟨[111, 114, 105, 103, 105, 110]⟩⟩
noncomputable def s497 : Str := ⟨⟨[108, 111, 97, 100, 101, 114, 95, 115, 116, 97, 116, 101]⟩⟩
noncomputable def s498 : Str := ⟨⟨[115, 117, 98, 109, 111, 100, 117, 108, 101, 95, 115, 101, 97, 114, 99, 104, 95, 108, 111, 99, 97, 116, 105, 111, 110, 115]⟩⟩
noncomputable def s499 : Str := ⟨⟨[95, 117, 110, 105, 110, 105, 116, 105, 97, 108, 105, 122, 101, 100, 95, 115, 117, 98, 109, 111, 100, 117, 108, 101, 115]⟩⟩
noncomputable def s500 : Str := ⟨⟨[95, 115, 101, 116, 95, 102, 105, 108, 101, 97, 116, 116, 114]⟩⟩
noncomputable def s501 : Str := ⟨⟨[95, 99, 97, 99, 104, 101, 100]⟩⟩
noncomputable def s502 : Str := ⟨⟨[95, 105, 110, 105, 116, 105, 97, 108, 105, 122, 105, 110, 103]⟩⟩
noncomputable def s503 : Str := ⟨⟨[95, 95, 101, 113, 95, 95]⟩⟩
noncomputable def s504 : Str := ⟨⟨[99, 97, 99, 104, 101, 100]⟩⟩
noncomputable def s505 : Str := ⟨⟨[112, 97, 114, 101, 110, 116]⟩⟩
noncomputable def s506 : Str := ⟨⟨[104, 97, 115, 95, 108, 111, 99, 97, 116, 105, 111, 110]⟩⟩
noncomputable def s507 : Str := ⟨⟨[95, 95, 104, 97, 115, 104, 95, 95]⟩⟩
noncomputable def s508 : Str := ⟨⟨[77, 111, 100, 117, 108, 101, 83, 112, 101, 99]⟩⟩
noncomputable def s509 : Str := ⟨⟨[6, 247, 8, 95, 95, 110, 97, 109, 101, 95, 95, 6, 246, 4, 95, 115, 114, 101, 6, 248, 7, 95, 95, 100, 111, 99, 95, 95, 0, 6, 250, 11, 95, 95, 112, 97, 99, 107, 97, 103, 101, 95, 95, 6, 249, 0, 6, 251, 10, 95, 95, 108, 111, 97, 100, 101, 114, 95, 95, 4, 0, 0, 14, 6, 252, 8, 95, 95, 115, 112, 101, 99, 95, 95, 4, 0, 0, 26, 6, 253, 7, 99, 111, 109, 112, 105, 108, 101, 9, 12, 95, 115, 114, 101, 46, 99, 111, 109, 112, 105, 108, 101, 6, 254, 8, 116, 101, 109, 112, 108, 97, 116, 101, 9, 13, 95, 115, 114, 101, 46, 116, 101, 109, 112, 108, 97, 116, 101, 6, 255, 11, 103, 101, 116, 99, 111, 100, 101, 115, 105, 122, 101, 9, 16, 95, 115, 114, 101, 46, 103, 101, 116, 99, 111, 100, 101, 115, 105, 122, 101, 6, 256, 13, 97, 115, 99, 105, 105, 95, 105, 115, 99, 97, 115, 101, 100, 9, 18, 95, 115, 114, 101, 46, 97, 115, 99, 105, 105, 95, 105, 115, 99, 97, 115, 101, 100, 6, 257, 15, 117, 110, 105, 99, 111, 100, 101, 95, 105, 115, 99, 97, 115, 101, 100, 9, 20, 95, 115, 114, 101, 46, 117, 110, 105, 99, 111, 100, 101, 95, 105, 115, 99, 97, 115, 101, 100, 6, 258, 13, 97, 115, 99, 105, 105, 95, 116, 111, 108, 111, 119, 101, 114, 9, 18, 95, 115, 114, 101, 46, 97, 115, 99, 105, 105, 95, 116, 111, 108, 111, 119, 101, 114, 6, 259, 15, 117, 110, 105, 99, 111, 100, 101, 95, 116, 111, 108, 111, 119, 101, 114, 9, 20, 95, 115, 114, 101, 46, 117, 110, 105, 99, 111, 100, 101, 95, 116, 111, 108, 111, 119, 101, 114, 6, 261, 5, 77, 65, 71, 73, 67, 4, 260, 0, 20230612, 6, 263, 8, 67, 79, 68, 69, 83, 73, 90, 69, 4, 262, 0, 4, 6, 265, 9, 77, 65, 88, 82, 69, 80, 69, 65, 84, 4, 264, 0, 4294967295, 6, 267, 9, 77, 65, 88, 71, 82, 79, 85, 80, 83, 4, 266, 0, 1073741823, 6, 269, 9, 99, 111, 112, 121, 114, 105, 103, 104, 116, 6, 268, 53, 32, 83, 82, 69, 32, 50, 46, 50, 46, 50, 32, 67, 111, 112, 121, 114, 105, 103, 104, 116, 32, 40, 99, 41, 32, 49, 57, 57, 55, 45, 50, 48, 48, 50, 32, 98, 121, 32, 83, 101, 99, 114, 101, 116, 32, 76, 97, 98, 115, 32, 65, 66, 32]⟩⟩
noncomputable def k0 (P : Params) : Obj := ⟨(.type "dict"), none, (.dict ⟨[⟨PyData.keyHash P s0, (.str s0 1), (.str s1 160)⟩, ⟨PyData.keyHash P s2, (.str s2 2), (.builtin "builtins.__doc__:str#opaque")⟩, ⟨PyData.keyHash P s3, (.str s3 3), (.builtin "builtins.__package__:str#opaque")⟩, ⟨PyData.keyHash P s4, (.str s4 4), (.builtin "builtins.__loader__:shared#opaque")⟩, ⟨PyData.keyHash P s5, (.str s5 5), (.builtin "builtins.__spec__#opaque")⟩, ⟨PyData.keyHash P s6, (.str s6 6), (.builtin "__build_class__")⟩, ⟨PyData.keyHash P s7, (.str s7 7), (.builtin "__import__")⟩, ⟨PyData.keyHash P s8, (.str s8 8), (.builtin "abs")⟩, ⟨PyData.keyHash P s9, (.str s9 9), (.builtin "all")⟩, ⟨PyData.keyHash P s10, (.str s10 10), (.builtin "any")⟩, ⟨PyData.keyHash P s11, (.str s11 11), (.builtin "ascii")⟩, ⟨PyData.keyHash P s12, (.str s12 12), (.builtin "bin")⟩, ⟨PyData.keyHash P s13, (.str s13 13), (.builtin "breakpoint")⟩, ⟨PyData.keyHash P s14, (.str s14 14), (.builtin "callable")⟩, ⟨PyData.keyHash P s15, (.str s15 15), (.builtin "chr")⟩, ⟨PyData.keyHash P s16, (.str s16 16), (.builtin "compile")⟩, ⟨PyData.keyHash P s17, (.str s17 17), (.builtin "delattr")⟩, ⟨PyData.keyHash P s18, (.str s18 18), (.builtin "dir")⟩, ⟨PyData.keyHash P s19, (.str s19 19), (.builtin "divmod")⟩, ⟨PyData.keyHash P s20, (.str s20 20), (.builtin "eval")⟩, ⟨PyData.keyHash P s21, (.str s21 21), (.builtin "exec")⟩, ⟨PyData.keyHash P s22, (.str s22 22), (.builtin "format")⟩, ⟨PyData.keyHash P s23, (.str s23 23), (.builtin "getattr")⟩, ⟨PyData.keyHash P s24, (.str s24 24), (.builtin "globals")⟩, ⟨PyData.keyHash P s25, (.str s25 25), (.builtin "hasattr")⟩, ⟨PyData.keyHash P s26, (.str s26 26), (.builtin "hash")⟩, ⟨PyData.keyHash P s27, (.str s27 27), (.builtin "hex")⟩, ⟨PyData.keyHash P s28, (.str s28 28), (.builtin "id")⟩, ⟨PyData.keyHash P s29, (.str s29 29), (.builtin "input")⟩, ⟨PyData.keyHash P s30, (.str s30 30), (.builtin "isinstance")⟩, ⟨PyData.keyHash P s31, (.str s31 31), (.builtin "issubclass")⟩, ⟨PyData.keyHash P s32, (.str s32 32), (.builtin "iter")⟩, ⟨PyData.keyHash P s33, (.str s33 33), (.builtin "aiter")⟩, ⟨PyData.keyHash P s34, (.str s34 34), (.builtin "len")⟩, ⟨PyData.keyHash P s35, (.str s35 35), (.builtin "locals")⟩, ⟨PyData.keyHash P s36, (.str s36 36), (.builtin "max")⟩, ⟨PyData.keyHash P s37, (.str s37 37), (.builtin "min")⟩, ⟨PyData.keyHash P s38, (.str s38 38), (.builtin "next")⟩, ⟨PyData.keyHash P s39, (.str s39 39), (.builtin "anext")⟩, ⟨PyData.keyHash P s40, (.str s40 40), (.builtin "oct")⟩, ⟨PyData.keyHash P s41, (.str s41 41), (.builtin "ord")⟩, ⟨PyData.keyHash P s42, (.str s42 42), (.builtin "pow")⟩, ⟨PyData.keyHash P s43, (.str s43 43), (.builtin "print")⟩, ⟨PyData.keyHash P s44, (.str s44 44), (.builtin "repr")⟩, ⟨PyData.keyHash P s45, (.str s45 45), (.builtin "round")⟩, ⟨PyData.keyHash P s46, (.str s46 46), (.builtin "setattr")⟩, ⟨PyData.keyHash P s47, (.str s47 47), (.builtin "sorted")⟩, ⟨PyData.keyHash P s48, (.str s48 48), (.builtin "sum")⟩, ⟨PyData.keyHash P s49, (.str s49 49), (.builtin "vars")⟩, ⟨PyData.keyHash P s50, (.str s50 50), .none⟩, ⟨PyData.keyHash P s51, (.str s51 51), .ellipsis⟩, ⟨PyData.keyHash P s52, (.str s52 52), .notImplemented⟩, ⟨PyData.keyHash P s53, (.str s53 53), (.bool false)⟩, ⟨PyData.keyHash P s54, (.str s54 54), (.bool true)⟩, ⟨PyData.keyHash P s55, (.str s55 55), (.type "bool")⟩, ⟨PyData.keyHash P s56, (.str s56 56), (.type "memoryview")⟩, ⟨PyData.keyHash P s57, (.str s57 57), (.type "bytearray")⟩, ⟨PyData.keyHash P s58, (.str s58 58), (.type "bytes")⟩, ⟨PyData.keyHash P s59, (.str s59 59), (.type "classmethod")⟩, ⟨PyData.keyHash P s60, (.str s60 60), (.type "complex")⟩, ⟨PyData.keyHash P s61, (.str s61 61), (.type "dict")⟩, ⟨PyData.keyHash P s62, (.str s62 62), (.type "enumerate")⟩, ⟨PyData.keyHash P s63, (.str s63 63), (.type "filter")⟩, ⟨PyData.keyHash P s64, (.str s64 64), (.type "float")⟩, ⟨PyData.keyHash P s65, (.str s65 65), (.type "frozenset")⟩, ⟨PyData.keyHash P s66, (.str s66 66), (.type "property")⟩, ⟨PyData.keyHash P s67, (.str s67 67), (.type "int")⟩, ⟨PyData.keyHash P s68, (.str s68 68), (.type "list")⟩, ⟨PyData.keyHash P s69, (.str s69 69), (.type "map")⟩, ⟨PyData.keyHash P s70, (.str s70 70), (.type "object")⟩, ⟨PyData.keyHash P s71, (.str s71 71), (.type "range")⟩, ⟨PyData.keyHash P s72, (.str s72 72), (.type "reversed")⟩, ⟨PyData.keyHash P s73, (.str s73 73), (.type "set")⟩, ⟨PyData.keyHash P s74, (.str s74 74), (.type "slice")⟩, ⟨PyData.keyHash P s75, (.str s75 75), (.type "staticmethod")⟩, ⟨PyData.keyHash P s76, (.str s76 76), (.type "str")⟩, ⟨PyData.keyHash P s77, (.str s77 77), (.type "super")⟩, ⟨PyData.keyHash P s78, (.str s78 78), (.type "tuple")⟩, ⟨PyData.keyHash P s79, (.str s79 79), (.type "type")⟩, ⟨PyData.keyHash P s80, (.str s80 80), (.type "zip")⟩, ⟨PyData.keyHash P s81, (.str s81 81), (.bool true)⟩, ⟨PyData.keyHash P s82, (.str s82 82), (.type "BaseException")⟩, ⟨PyData.keyHash P s83, (.str s83 83), (.type "BaseExceptionGroup")⟩, ⟨PyData.keyHash P s84, (.str s84 84), (.type "Exception")⟩, ⟨PyData.keyHash P s85, (.str s85 85), (.type "GeneratorExit")⟩, ⟨PyData.keyHash P s86, (.str s86 86), (.type "KeyboardInterrupt")⟩, ⟨PyData.keyHash P s87, (.str s87 87), (.type "SystemExit")⟩, ⟨PyData.keyHash P s88, (.str s88 88), (.type "ArithmeticError")⟩, ⟨PyData.keyHash P s89, (.str s89 89), (.type "AssertionError")⟩, ⟨PyData.keyHash P s90, (.str s90 90), (.type "AttributeError")⟩, ⟨PyData.keyHash P s91, (.str s91 91), (.type "BufferError")⟩, ⟨PyData.keyHash P s92, (.str s92 92), (.type "EOFError")⟩, ⟨PyData.keyHash P s93, (.str s93 93), (.type "ImportError")⟩, ⟨PyData.keyHash P s94, (.str s94 94), (.type "LookupError")⟩, ⟨PyData.keyHash P s95, (.str s95 95), (.type "MemoryError")⟩, ⟨PyData.keyHash P s96, (.str s96 96), (.type "NameError")⟩, ⟨PyData.keyHash P s97, (.str s97 97), (.type "OSError")⟩, ⟨PyData.keyHash P s98, (.str s98 98), (.type "ReferenceError")⟩, ⟨PyData.keyHash P s99, (.str s99 99), (.type "RuntimeError")⟩, ⟨PyData.keyHash P s100, (.str s100 100), (.type "StopAsyncIteration")⟩, ⟨PyData.keyHash P s101, (.str s101 101), (.type "StopIteration")⟩, ⟨PyData.keyHash P s102, (.str s102 102), (.type "SyntaxError")⟩, ⟨PyData.keyHash P s103, (.str s103 103), (.type "SystemError")⟩, ⟨PyData.keyHash P s104, (.str s104 104), (.type "TypeError")⟩, ⟨PyData.keyHash P s105, (.str s105 105), (.type "ValueError")⟩, ⟨PyData.keyHash P s106, (.str s106 106), (.type "Warning")⟩, ⟨PyData.keyHash P s107, (.str s107 107), (.type "FloatingPointError")⟩, ⟨PyData.keyHash P s108, (.str s108 108), (.type "OverflowError")⟩, ⟨PyData.keyHash P s109, (.str s109 109), (.type "ZeroDivisionError")⟩, ⟨PyData.keyHash P s110, (.str s110 110), (.type "BytesWarning")⟩, ⟨PyData.keyHash P s111, (.str s111 111), (.type "DeprecationWarning")⟩, ⟨PyData.keyHash P s112, (.str s112 112), (.type "EncodingWarning")⟩, ⟨PyData.keyHash P s113, (.str s113 113), (.type "FutureWarning")⟩, ⟨PyData.keyHash P s114, (.str s114 114), (.type "ImportWarning")⟩, ⟨PyData.keyHash P s115, (.str s115 115), (.type "PendingDeprecationWarning")⟩, ⟨PyData.keyHash P s116, (.str s116 116), (.type "ResourceWarning")⟩, ⟨PyData.keyHash P s117, (.str s117 117), (.type "RuntimeWarning")⟩, ⟨PyData.keyHash P s118, (.str s118 118), (.type "SyntaxWarning")⟩, ⟨PyData.keyHash P s119, (.str s119 119), (.type "UnicodeWarning")⟩, ⟨PyData.keyHash P s120, (.str s120 120), (.type "UserWarning")⟩, ⟨PyData.keyHash P s121, (.str s121 121), (.type "BlockingIOError")⟩, ⟨PyData.keyHash P s122, (.str s122 122), (.type "ChildProcessError")⟩, ⟨PyData.keyHash P s123, (.str s123 123), (.type "ConnectionError")⟩, ⟨PyData.keyHash P s124, (.str s124 124), (.type "FileExistsError")⟩, ⟨PyData.keyHash P s125, (.str s125 125), (.type "FileNotFoundError")⟩, ⟨PyData.keyHash P s126, (.str s126 126), (.type "InterruptedError")⟩, ⟨PyData.keyHash P s127, (.str s127 127), (.type "IsADirectoryError")⟩, ⟨PyData.keyHash P s128, (.str s128 128), (.type "NotADirectoryError")⟩, ⟨PyData.keyHash P s129, (.str s129 129), (.type "PermissionError")⟩, ⟨PyData.keyHash P s130, (.str s130 130), (.type "ProcessLookupError")⟩, ⟨PyData.keyHash P s131, (.str s131 131), (.type "TimeoutError")⟩, ⟨PyData.keyHash P s132, (.str s132 132), (.type "IndentationError")⟩, ⟨PyData.keyHash P s133, (.str s133 133), (.type "_IncompleteInputError")⟩, ⟨PyData.keyHash P s134, (.str s134 134), (.type "IndexError")⟩, ⟨PyData.keyHash P s135, (.str s135 135), (.type "KeyError")⟩, ⟨PyData.keyHash P s136, (.str s136 136), (.type "ModuleNotFoundError")⟩, ⟨PyData.keyHash P s137, (.str s137 137), (.type "NotImplementedError")⟩, ⟨PyData.keyHash P s138, (.str s138 138), (.type "PythonFinalizationError")⟩, ⟨PyData.keyHash P s139, (.str s139 139), (.type "RecursionError")⟩, ⟨PyData.keyHash P s140, (.str s140 140), (.type "UnboundLocalError")⟩, ⟨PyData.keyHash P s141, (.str s141 141), (.type "UnicodeError")⟩, ⟨PyData.keyHash P s142, (.str s142 142), (.type "BrokenPipeError")⟩, ⟨PyData.keyHash P s143, (.str s143 143), (.type "ConnectionAbortedError")⟩, ⟨PyData.keyHash P s144, (.str s144 144), (.type "ConnectionRefusedError")⟩, ⟨PyData.keyHash P s145, (.str s145 145), (.type "ConnectionResetError")⟩, ⟨PyData.keyHash P s146, (.str s146 146), (.type "TabError")⟩, ⟨PyData.keyHash P s147, (.str s147 147), (.type "UnicodeDecodeError")⟩, ⟨PyData.keyHash P s148, (.str s148 148), (.type "UnicodeEncodeError")⟩, ⟨PyData.keyHash P s149, (.str s149 149), (.type "UnicodeTranslateError")⟩, ⟨PyData.keyHash P s150, (.str s150 150), (.type "ExceptionGroup")⟩, ⟨PyData.keyHash P s151, (.str s151 151), (.type "OSError")⟩, ⟨PyData.keyHash P s152, (.str s152 152), (.type "OSError")⟩, ⟨PyData.keyHash P s153, (.str s153 153), (.builtin "open")⟩, ⟨PyData.keyHash P s154, (.str s154 154), (.builtin "builtins.quit#opaque")⟩, ⟨PyData.keyHash P s155, (.str s155 155), (.builtin "builtins.exit#opaque")⟩, ⟨PyData.keyHash P s156, (.str s156 156), (.builtin "builtins.copyright#opaque")⟩, ⟨PyData.keyHash P s157, (.str s157 157), (.builtin "builtins.credits#opaque")⟩, ⟨PyData.keyHash P s158, (.str s158 158), (.builtin "builtins.license#opaque")⟩, ⟨PyData.keyHash P s159, (.str s159 159), (.builtin "builtins.help#opaque")⟩]⟩ 159), ⟨[]⟩⟩
noncomputable def k2 (P : Params) : Obj := ⟨.none, none, (.dict ⟨[⟨PyData.keyHash P s160, (.str s160 183), (.bool true)⟩, ⟨PyData.keyHash P s161, (.str s161 185), (.ref 14)⟩, ⟨PyData.keyHash P s162, (.str s162 206), (.ref 18)⟩, ⟨PyData.keyHash P s163, (.str s163 216), (.ref 22)⟩, ⟨PyData.keyHash P s164, (.str s164 245), (.int 3 0)⟩, ⟨PyData.keyHash P s165, (.str s165 270), (.bool true)⟩, ⟨PyData.keyHash P s166, (.str s166 272), (.ref 27)⟩, ⟨PyData.keyHash P s167, (.str s167 0), (.str s168 0)⟩, ⟨PyData.keyHash P s169, (.str s169 273), (.str s170 0)⟩]⟩ 9), ⟨[]⟩⟩
noncomputable def k3 (P : Params) : Obj := ⟨(.type "dict"), none, (.dict ⟨[⟨PyData.keyHash P s0, (.str s0 165), (.str s171 2548)⟩, ⟨PyData.keyHash P s2, (.str s2 166), .none⟩, ⟨PyData.keyHash P s3, (.str s3 167), .none⟩, ⟨PyData.keyHash P s4, (.str s4 168), (.builtin "__main__.__loader__#opaque")⟩, ⟨PyData.keyHash P s5, (.str s5 169), .none⟩, ⟨PyData.keyHash P s172, (.str s172 170), (.ref 6)⟩, ⟨PyData.keyHash P s173, (.str s173 171), (.ref 4)⟩, ⟨PyData.keyHash P s174, (.str s174 173), (.str s175 172)⟩, ⟨PyData.keyHash P s176, (.str s176 174), .none⟩, ⟨PyData.keyHash P s177, (.str s177 275), (.ref 12)⟩, ⟨PyData.keyHash P s178, (.str s178 288), (.ref 38)⟩, ⟨PyData.keyHash P s179, (.str s179 316), (.ref 43)⟩, ⟨PyData.keyHash P s180, (.str s180 350), (.ref 48)⟩, ⟨PyData.keyHash P s181, (.str s181 507), (.ref 171)⟩, ⟨PyData.keyHash P s182, (.str s182 519), (.ref 182)⟩, ⟨PyData.keyHash P s183, (.str s183 581), (.ref 190)⟩, ⟨PyData.keyHash P s184, (.str s184 588), (.ref 200)⟩, ⟨PyData.keyHash P s185, (.str s185 2539), (.ref 201)⟩, ⟨PyData.keyHash P s186, (.str s186 2547), (.ref 246)⟩, ⟨PyData.keyHash P s187, (.str s187 2555), (.ref 251)⟩, ⟨PyData.keyHash P s188, (.str s188 2561), (.ref 256)⟩, ⟨PyData.keyHash P s189, (.str s189 2570), (.ref 263)⟩, ⟨PyData.keyHash P s190, (.str s190 2582), (.ref 270)⟩, ⟨PyData.keyHash P s191, (.str s191 2588), (.ref 275)⟩, ⟨PyData.keyHash P s192, (.str s192 2594), (.ref 280)⟩]⟩ 25), ⟨[]⟩⟩
noncomputable def k42 (P : Params) : Obj := ⟨(.type "tuple"), none, (.seq ⟨[(.int 14 0), (.int 10 0), (.int 4 0), (.int 1 0), (.int 1 0), (.int 22 0), (.int 0 0), (.int 31 0), (.int 16 0), (.int 127 0), (.int 0 0), (.int 13 0), (.int 7 0), (.int 22 0), (.int 0 0), (.int 31 0), (.int 16 0), (.int 127 0), (.int 0 0), (.int 1 0)]⟩ 0), ⟨[]⟩⟩
noncomputable def k43 (P : Params) : Obj := ⟨(.type "re.Pattern"), none, (.fields ⟨[(.str s193 292), (.int 32 315), (.int 0 0), .none, .none, (.ref 42), (.int 0 0)]⟩), ⟨[]⟩⟩
noncomputable def k47 (P : Params) : Obj := ⟨(.type "tuple"), none, (.seq ⟨[(.int 14 0), (.int 14 0), (.int 4 0), (.int 1 0), (.int 1 0), (.int 9 0), (.int 4294966783 0), (.int 0 0), (.int 0 0), (.int 2147483648 0), (.int 0 0), (.int 0 0), (.int 0 0), (.int 0 0), (.int 0 0), (.int 13 0), (.int 11 0), (.int 9 0), (.int 4294966783 0), (.int 0 0), (.int 0 0), (.int 2147483648 0), (.int 0 0), (.int 0 0), (.int 0 0), (.int 0 0), (.int 0 0), (.int 1 0)]⟩ 0), ⟨[]⟩⟩
noncomputable def k48 (P : Params) : Obj := ⟨(.type "re.Pattern"), none, (.fields ⟨[(.str s194 318), (.int 32 349), (.int 0 0), .none, .none, (.ref 47), (.int 0 0)]⟩), ⟨[]⟩⟩
noncomputable def k56 (P : Params) : Obj := ⟨(.type "tuple"), none, (.seq ⟨[.none]⟩ 0), ⟨[]⟩⟩
noncomputable def k62 (P : Params) : Obj := ⟨(.type "code"), none, (.fields ⟨[(.str s195 363), (.str s196 364), (.str s175 365), (.int 10 0), (.int 2 0), (.int 0 0), (.int 0 0), (.int 3 0), (.ref 57), (.bool true), (.int 276 0), (.ref 58), .none, (.ref 59), (.ref 60), (.ref 61), (.int 370 0), (.int 10 0), (.str s175 371)]⟩), ⟨[]⟩⟩
noncomputable def k63 (P : Params) : Obj := ⟨(.type "function"), none, (.func ⟨s195, s196, fdA (mS 0), .stmts (fdB (mS 0)), fdS (mS 0), 3, [], (.ref 56), .none, .none, (.str s205 289), none, (.ref 62), .none, 0⟩), ⟨[]⟩⟩
noncomputable def k69 (P : Params) : Obj := ⟨(.type "code"), none, (.fields ⟨[(.str s203 373), (.str s206 374), (.str s175 375), (.int 20 0), (.int 2 0), (.int 0 0), (.int 1 0), (.int 3 0), (.ref 64), (.bool true), (.int 276 0), (.ref 65), .none, (.ref 66), (.ref 67), (.ref 68), (.int 380 0), (.int 20 0), (.str s175 381)]⟩), ⟨[]⟩⟩
noncomputable def k70 (P : Params) : Obj := ⟨(.type "function"), none, (.func ⟨s203, s206, fdA (mS 1), .stmts (fdB (mS 1)), fdS (mS 1), 3, [], .none, .none, .none, (.str s205 289), none, (.ref 69), .none, 0⟩), ⟨[]⟩⟩
noncomputable def k83 (P : Params) : Obj := ⟨(.type "code"), none, (.fields ⟨[(.str s212 390), (.str s213 391), (.str s175 392), (.int 31 0), (.int 3 0), (.int 0 0), (.int 0 0), (.int 3 0), (.ref 78), (.bool true), (.int 276 0), (.ref 79), .none, (.ref 80), (.ref 81), (.ref 82), (.int 396 0), (.int 31 0), (.str s175 397)]⟩), ⟨[]⟩⟩
noncomputable def k84 (P : Params) : Obj := ⟨(.type "function"), none, (.func ⟨s212, s213, fdA (mS 3), .stmts (fdB (mS 3)), fdS (mS 3), 3, [], .none, .none, .none, (.str s205 289), none, (.ref 83), .none, 0⟩), ⟨[]⟩⟩
noncomputable def k88 (P : Params) : Obj := ⟨(.type "code"), none, (.fields ⟨[(.str s216 399), (.str s217 400), (.str s175 401), (.int 35 0), (.int 2 0), (.int 0 0), (.int 0 0), (.int 3 0), (.ref 85), (.bool true), (.int 276 0), (.ref 86), .none, .none, .none, (.ref 87), (.int 402 0), (.int 35 0), (.str s175 403)]⟩), ⟨[]⟩⟩
noncomputable def k89 (P : Params) : Obj := ⟨(.type "function"), none, (.func ⟨s216, s217, fdA (mS 4), .stmts (fdB (mS 4)), fdS (mS 4), 3, [], .none, .none, .none, (.str s205 289), none, (.ref 88), .none, 0⟩), ⟨[]⟩⟩
noncomputable def k95 (P : Params) : Obj := ⟨(.type "code"), none, (.fields ⟨[(.str s222 405), (.str s223 406), (.str s175 407), (.int 39 0), (.int 2 0), (.int 0 0), (.int 0 0), (.int 3 0), (.ref 90), (.bool true), (.int 276 0), (.ref 91), .none, (.ref 92), (.ref 93), (.ref 94), (.int 410 0), (.int 39 0), (.str s175 411)]⟩), ⟨[]⟩⟩
noncomputable def k96 (P : Params) : Obj := ⟨(.type "function"), none, (.func ⟨s222, s223, fdA (mS 5), .stmts (fdB (mS 5)), fdS (mS 5), 3, [], .none, .none, .none, (.str s205 289), none, (.ref 95), .none, 0⟩), ⟨[]⟩⟩
noncomputable def k111 (P : Params) : Obj := ⟨(.type "tuple"), none, (.seq ⟨[.none]⟩ 0), ⟨[]⟩⟩
noncomputable def k117 (P : Params) : Obj := ⟨(.type "code"), none, (.fields ⟨[(.str s224 429), (.str s225 430), (.str s175 431), (.int 48 0), (.int 3 0), (.int 0 0), (.int 0 0), (.int 3 0), (.ref 112), (.bool true), (.int 276 0), (.ref 113), .none, (.ref 114), (.ref 115), (.ref 116), (.int 437 0), (.int 48 0), (.str s175 438)]⟩), ⟨[]⟩⟩
noncomputable def k118 (P : Params) : Obj := ⟨(.type "function"), none, (.func ⟨s224, s225, fdA (mS 8), .stmts (fdB (mS 8)), fdS (mS 8), 3, [], (.ref 111), .none, .none, (.str s205 289), none, (.ref 117), .none, 0⟩), ⟨[]⟩⟩
noncomputable def k122 (P : Params) : Obj := ⟨(.type "code"), none, (.fields ⟨[(.str s227 440), (.str s228 441), (.str s175 442), (.int 55 0), (.int 1 0), (.int 0 0), (.int 0 0), (.int 3 0), (.ref 119), (.bool true), (.int 276 0), (.ref 120), .none, .none, .none, (.ref 121), (.int 443 0), (.int 55 0), (.str s175 444)]⟩), ⟨[]⟩⟩
noncomputable def k123 (P : Params) : Obj := ⟨(.type "function"), none, (.func ⟨s227, s228, fdA (mS 9), .stmts (fdB (mS 9)), fdS (mS 9), 3, [], .none, .none, .none, (.str s205 289), none, (.ref 122), .none, 0⟩), ⟨[]⟩⟩
noncomputable def k134 (P : Params) : Obj := ⟨(.type "code"), none, (.fields ⟨[(.str s229 452), (.str s230 453), (.str s175 454), (.int 61 0), (.int 1 0), (.int 0 0), (.int 0 0), (.int 3 0), (.ref 129), (.bool true), (.int 276 0), (.ref 130), .none, (.ref 131), (.ref 132), (.ref 133), (.int 456 0), (.int 61 0), (.str s175 457)]⟩), ⟨[]⟩⟩
noncomputable def k135 (P : Params) : Obj := ⟨(.type "function"), none, (.func ⟨s229, s230, fdA (mS 11), .stmts (fdB (mS 11)), fdS (mS 11), 3, [], .none, .none, .none, (.str s205 289), none, (.ref 134), .none, 0⟩), ⟨[]⟩⟩
noncomputable def k160 (P : Params) : Obj := ⟨(.type "code"), none, (.fields ⟨[(.str s231 479), (.str s232 480), (.str s175 481), (.int 73 0), (.int 3 0), (.int 0 0), (.int 0 0), (.int 3 0), (.ref 155), (.bool true), (.int 276 0), (.ref 156), .none, (.ref 157), (.ref 158), (.ref 159), (.int 486 0), (.int 73 0), (.str s175 487)]⟩), ⟨[]⟩⟩
noncomputable def k161 (P : Params) : Obj := ⟨(.type "function"), none, (.func ⟨s231, s232, fdA (mS 15), .stmts (fdB (mS 15)), fdS (mS 15), 3, [], .none, .none, .none, (.str s205 289), none, (.ref 160), .none, 0⟩), ⟨[]⟩⟩
noncomputable def k170 (P : Params) : Obj := ⟨(.type "dict"), none, (.dict ⟨[⟨PyData.keyHash P s234, (.str s234 358), (.str s205 289)⟩, ⟨PyData.keyHash P s235, (.str s235 362), (.int 8 361)⟩, ⟨PyData.keyHash P s195, (.str s195 372), (.ref 63)⟩, ⟨PyData.keyHash P s203, (.str s203 382), (.ref 70)⟩, ⟨PyData.keyHash P s236, (.str s236 389), (.ref 77)⟩, ⟨PyData.keyHash P s212, (.str s212 398), (.ref 84)⟩, ⟨PyData.keyHash P s216, (.str s216 404), (.ref 89)⟩, ⟨PyData.keyHash P s222, (.str s222 412), (.ref 96)⟩, ⟨PyData.keyHash P s237, (.str s237 420), (.ref 103)⟩, ⟨PyData.keyHash P s238, (.str s238 428), (.ref 110)⟩, ⟨PyData.keyHash P s224, (.str s224 439), (.ref 118)⟩, ⟨PyData.keyHash P s227, (.str s227 445), (.ref 123)⟩, ⟨PyData.keyHash P s239, (.str s239 451), (.ref 128)⟩, ⟨PyData.keyHash P s229, (.str s229 458), (.ref 135)⟩, ⟨PyData.keyHash P s240, (.str s240 465), (.ref 142)⟩, ⟨PyData.keyHash P s241, (.str s241 471), (.ref 147)⟩, ⟨PyData.keyHash P s242, (.str s242 478), (.ref 154)⟩, ⟨PyData.keyHash P s231, (.str s231 488), (.ref 161)⟩, ⟨PyData.keyHash P s243, (.str s243 498), (.ref 168)⟩, ⟨PyData.keyHash P s244, (.str s244 500), (.ref 169)⟩, ⟨PyData.keyHash P s245, (.str s245 502), (.ref 172)⟩, ⟨PyData.keyHash P s246, (.str s246 504), (.ref 173)⟩, ⟨PyData.keyHash P s2, (.str s2 505), .none⟩]⟩ 4), ⟨[]⟩⟩
noncomputable def k171 (P : Params) : Obj := ⟨(.type "type"), none, (.cls ⟨s181, [(.type "object")], [(.ref 171), (.type "object")], 170, s181, true, [], [], false, none, false⟩), ⟨[none, none, (some (.str s181 351)), (some (.str s181 359)), (some (.builtin "object.__new__")), (some (.bool true))]⟩⟩
noncomputable def k181 (P : Params) : Obj := ⟨(.type "code"), none, (.fields ⟨[(.str s182 510), (.str s182 511), (.str s175 512), (.int 84 0), (.int 1 0), (.int 0 0), (.int 0 0), (.int 3 0), (.ref 176), (.bool true), (.int 276 0), (.ref 177), .none, (.ref 178), (.ref 179), (.ref 180), (.int 517 0), (.int 84 0), (.str s175 518)]⟩), ⟨[]⟩⟩
noncomputable def k182 (P : Params) : Obj := ⟨(.type "function"), none, (.func ⟨s182, s182, fdA (tS 7), .stmts (fdB (tS 7)), fdS (tS 7), 3, [], .none, .none, .none, (.str s250 508), none, (.ref 181), .none, 0⟩), ⟨[]⟩⟩
noncomputable def k190 (P : Params) : Obj := ⟨(.type "set"), none, (.set ⟨[(65024, (.int 65024 538)), (65025, (.int 65025 539)), (65026, (.int 65026 540)), (65027, (.int 65027 541)), (65028, (.int 65028 542)), (65029, (.int 65029 543)), (6150, (.int 6150 524)), (65030, (.int 65030 544)), (65031, (.int 65031 545)), (65032, (.int 65032 546)), (65033, (.int 65033 547)), (6155, (.int 6155 525)), (6156, (.int 6156 526)), (6157, (.int 6157 527)), (8203, (.int 8203 528)), (8204, (.int 8204 529)), (8205, (.int 8205 530)), (65034, (.int 65034 548)), (65035, (.int 65035 549)), (65036, (.int 65036 550)), (65037, (.int 65037 551)), (65038, (.int 65038 552)), (65039, (.int 65039 553)), (173, (.int 173 522)), (847, (.int 847 523)), (8288, (.int 8288 531)), (65279, (.int 65279 532))]⟩ 29 ⟨127, ⟨[0, 1, 2, 3, 4, 5, 6, 7, 8, 9, 10, 11, 12, 13, 14, 15, 16, 17, 18, 19, 20, 21, 22, 45, 79, 96, 127]⟩, ⟨[]⟩, 0, !P.followText "set-order", 2, true⟩), ⟨[]⟩⟩
noncomputable def k199 (P : Params) : Obj := ⟨(.type "code"), none, (.fields ⟨[(.str s184 582), (.str s184 583), (.str s175 584), (.int 94 0), (.int 1 0), (.int 0 0), (.int 0 0), (.int 3 0), (.ref 194), (.bool true), (.int 276 0), (.ref 195), .none, (.ref 196), (.ref 197), (.ref 198), (.int 586 0), (.int 94 0), (.str s175 587)]⟩), ⟨[]⟩⟩
noncomputable def k200 (P : Params) : Obj := ⟨(.type "function"), none, (.func ⟨s184, s184, fdA (tS 10), .stmts (fdB (tS 10)), fdS (tS 10), 3, [], .none, .none, .none, (.str s252 520), none, (.ref 199), .none, 0⟩), ⟨[]⟩⟩
noncomputable def te (k t : Nat) (s : Str) : DictEntry := ⟨k, .int k t, .str s (t + 1)⟩
noncomputable def k201 (P : Params) : Obj := ⟨(.type "dict"), none, (.dict ⟨[te 181 589 s253, te 223 592 s254, te 304 595 s255, te 329 598 s256, te 383 601 s257, te 496 604 s258, te 837 607 s259, te 890 610 s260, te 912 613 s261, te 944 616 s262, te 962 619 s263, te 976 622 s264, te 977 625 s265, te 978 628 s266, te 979 631 s267, te 980 634 s268, te 981 637 s269, te 982 640 s270, te 1008 643 s271, te 1009 646 s272, te 1010 649 s263, te 1013 652 s273, te 1415 655 s274, te 7830 658 s275, te 7831 661 s276, te 7832 664 s277, te 7833 667 s278, te 7834 670 s279, te 7835 673 s280, te 8016 676 s281, te 8018 679 s282, te 8020 682 s283, te 8022 685 s284, te 8064 688 s285, te 8065 691 s286, te 8066 694 s287, te 8067 697 s288, te 8068 700 s289, te 8069 703 s290, te 8070 706 s291, te 8071 709 s292, te 8072 712 s285, te 8073 715 s286, te 8074 718 s287, te 8075 721 s288, te 8076 724 s289, te 8077 727 s290, te 8078 730 s291, te 8079 733 s292, te 8080 736 s293, te 8081 739 s294, te 8082 742 s295, te 8083 745 s296, te 8084 748 s297, te 8085 751 s298, te 8086 754 s299, te 8087 757 s300, te 8088 760 s293, te 8089 763 s294, te 8090 766 s295, te 8091 769 s296, te 8092 772 s297, te 8093 775 s298, te 8094 778 s299, te 8095 781 s300, te 8096 784 s301, te 8097 787 s302, te 8098 790 s303, te 8099 793 s304, te 8100 796 s305, te 8101 799 s306, te 8102 802 s307, te 8103 805 s308, te 8104 808 s301, te 8105 811 s302, te 8106 814 s303, te 8107 817 s304, te 8108 820 s305, te 8109 823 s306, te 8110 826 s307, te 8111 829 s308, te 8114 832 s309, te 8115 835 s310, te 8116 838 s311, te 8118 841 s312, te 8119 844 s313, te 8124 847 s310, te 8126 850 s259, te 8130 853 s314, te 8131 856 s315, te 8132 859 s316, te 8134 862 s317, te 8135 865 s318, te 8140 868 s315, te 8146 871 s319, te 8147 874 s261, te 8150 877 s320, te 8151 880 s321, te 8162 883 s322, te 8163 886 s262, te 8164 889 s323, te 8166 892 s324, te 8167 895 s325, te 8178 898 s326, te 8179 901 s327, te 8180 904 s328, te 8182 907 s329, te 8183 910 s330, te 8188 913 s327, te 8360 916 s331, te 8450 919 s332, te 8451 922 s333, te 8455 925 s334, te 8457 928 s335, te 8459 931 s336, te 8460 934 s336, te 8461 937 s336, te 8464 940 s337, te 8465 943 s337, te 8466 946 s338, te 8469 949 s339, te 8470 952 s340, te 8473 955 s341, te 8474 958 s342, te 8475 961 s343, te 8476 964 s343, te 8477 967 s343, te 8480 970 s344, te 8481 973 s345, te 8482 976 s346, te 8484 979 s347, te 8488 982 s347, te 8492 985 s348, te 8493 988 s332, te 8496 991 s349, te 8497 994 s350, te 8499 997 s351, te 8510 1000 s352, te 8511 1003 s270, te 8517 1006 s353, te 13169 1009 s354, te 13171 1012 s355, te 13173 1015 s356, te 13184 1018 s357, te 13185 1021 s358, te 13186 1024 s359, te 13187 1027 s360, te 13188 1030 s361, te 13189 1033 s362, te 13190 1036 s363, te 13191 1039 s364, te 13194 1042 s365, te 13195 1045 s366, te 13196 1048 s367, te 13200 1051 s368, te 13201 1054 s369, te 13202 1057 s370, te 13203 1060 s371, te 13204 1063 s372, te 13225 1066 s357, te 13226 1069 s373, te 13227 1072 s374, te 13228 1075 s375, te 13236 1078 s376, te 13237 1081 s377, te 13238 1084 s378, te 13239 1087 s379, te 13240 1090 s219, te 13241 1093 s379, te 13242 1096 s380, te 13243 1099 s381, te 13244 1102 s382, te 13245 1105 s383, te 13246 1108 s384, te 13247 1111 s383, te 13248 1114 s385, te 13249 1117 s386, te 13251 1120 s387, te 13254 1123 s388, te 13255 1126 s389, te 13256 1129 s390, te 13257 1132 s391, te 13259 1135 s392, te 13261 1138 s393, te 13262 1141 s394, te 13271 1144 s395, te 13273 1147 s396, te 13274 1150 s397, te 13276 1153 s398, te 13277 1156 s399, te 64256 1159 s400, te 64257 1162 s401, te 64258 1165 s402, te 64259 1168 s403, te 64260 1171 s404, te 64261 1174 s405, te 64262 1177 s405, te 64275 1180 s406, te 64276 1183 s407, te 64277 1186 s408, te 64278 1189 s409, te 64279 1192 s410, te 119808 1195 s411, te 119809 1198 s348, te 119810 1201 s332, te 119811 1204 s353, te 119812 1207 s349, te 119813 1210 s350, te 119814 1213 s412, te 119815 1216 s336, te 119816 1219 s337, te 119817 1222 s413, te 119818 1225 s201, te 119819 1228 s338, te 119820 1231 s351, te 119821 1234 s339, te 119822 1237 s414, te 119823 1240 s341, te 119824 1243 s342, te 119825 1246 s343, te 119826 1249 s257, te 119827 1252 s415, te 119828 1255 s416, te 119829 1258 s202, te 119830 1261 s417, te 119831 1264 s418, te 119832 1267 s419, te 119833 1270 s347, te 119860 1273 s411, te 119861 1276 s348, te 119862 1279 s332, te 119863 1282 s353, te 119864 1285 s349, te 119865 1288 s350, te 119866 1291 s412, te 119867 1294 s336, te 119868 1297 s337, te 119869 1300 s413, te 119870 1303 s201, te 119871 1306 s338, te 119872 1309 s351, te 119873 1312 s339, te 119874 1315 s414, te 119875 1318 s341, te 119876 1321 s342, te 119877 1324 s343, te 119878 1327 s257, te 119879 1330 s415, te 119880 1333 s416, te 119881 1336 s202, te 119882 1339 s417, te 119883 1342 s418, te 119884 1345 s419, te 119885 1348 s347, te 119912 1351 s411, te 119913 1354 s348, te 119914 1357 s332, te 119915 1360 s353, te 119916 1363 s349, te 119917 1366 s350, te 119918 1369 s412, te 119919 1372 s336, te 119920 1375 s337, te 119921 1378 s413, te 119922 1381 s201, te 119923 1384 s338, te 119924 1387 s351, te 119925 1390 s339, te 119926 1393 s414, te 119927 1396 s341, te 119928 1399 s342, te 119929 1402 s343, te 119930 1405 s257, te 119931 1408 s415, te 119932 1411 s416, te 119933 1414 s202, te 119934 1417 s417, te 119935 1420 s418, te 119936 1423 s419, te 119937 1426 s347, te 119964 1429 s411, te 119966 1432 s332, te 119967 1435 s353, te 119970 1438 s412, te 119973 1441 s413, te 119974 1444 s201, te 119977 1447 s339, te 119978 1450 s414, te 119979 1453 s341, te 119980 1456 s342, te 119982 1459 s257, te 119983 1462 s415, te 119984 1465 s416, te 119985 1468 s202, te 119986 1471 s417, te 119987 1474 s418, te 119988 1477 s419, te 119989 1480 s347, te 120016 1483 s411, te 120017 1486 s348, te 120018 1489 s332, te 120019 1492 s353, te 120020 1495 s349, te 120021 1498 s350, te 120022 1501 s412, te 120023 1504 s336, te 120024 1507 s337, te 120025 1510 s413, te 120026 1513 s201, te 120027 1516 s338, te 120028 1519 s351, te 120029 1522 s339, te 120030 1525 s414, te 120031 1528 s341, te 120032 1531 s342, te 120033 1534 s343, te 120034 1537 s257, te 120035 1540 s415, te 120036 1543 s416, te 120037 1546 s202, te 120038 1549 s417, te 120039 1552 s418, te 120040 1555 s419, te 120041 1558 s347, te 120068 1561 s411, te 120069 1564 s348, te 120071 1567 s353, te 120072 1570 s349, te 120073 1573 s350, te 120074 1576 s412, te 120077 1579 s413, te 120078 1582 s201, te 120079 1585 s338, te 120080 1588 s351, te 120081 1591 s339, te 120082 1594 s414, te 120083 1597 s341, te 120084 1600 s342, te 120086 1603 s257, te 120087 1606 s415, te 120088 1609 s416, te 120089 1612 s202, te 120090 1615 s417, te 120091 1618 s418, te 120092 1621 s419, te 120120 1624 s411, te 120121 1627 s348, te 120123 1630 s353, te 120124 1633 s349, te 120125 1636 s350, te 120126 1639 s412, te 120128 1642 s337, te 120129 1645 s413, te 120130 1648 s201, te 120131 1651 s338, te 120132 1654 s351, te 120134 1657 s414, te 120138 1660 s257, te 120139 1663 s415, te 120140 1666 s416, te 120141 1669 s202, te 120142 1672 s417, te 120143 1675 s418, te 120144 1678 s419, te 120172 1681 s411, te 120173 1684 s348, te 120174 1687 s332, te 120175 1690 s353, te 120176 1693 s349, te 120177 1696 s350, te 120178 1699 s412, te 120179 1702 s336, te 120180 1705 s337, te 120181 1708 s413, te 120182 1711 s201, te 120183 1714 s338, te 120184 1717 s351, te 120185 1720 s339, te 120186 1723 s414, te 120187 1726 s341, te 120188 1729 s342, te 120189 1732 s343, te 120190 1735 s257, te 120191 1738 s415, te 120192 1741 s416, te 120193 1744 s202, te 120194 1747 s417, te 120195 1750 s418, te 120196 1753 s419, te 120197 1756 s347, te 120224 1759 s411, te 120225 1762 s348, te 120226 1765 s332, te 120227 1768 s353, te 120228 1771 s349, te 120229 1774 s350, te 120230 1777 s412, te 120231 1780 s336, te 120232 1783 s337, te 120233 1786 s413, te 120234 1789 s201, te 120235 1792 s338, te 120236 1795 s351, te 120237 1798 s339, te 120238 1801 s414, te 120239 1804 s341, te 120240 1807 s342, te 120241 1810 s343, te 120242 1813 s257, te 120243 1816 s415, te 120244 1819 s416, te 120245 1822 s202, te 120246 1825 s417, te 120247 1828 s418, te 120248 1831 s419, te 120249 1834 s347, te 120276 1837 s411, te 120277 1840 s348, te 120278 1843 s332, te 120279 1846 s353, te 120280 1849 s349, te 120281 1852 s350, te 120282 1855 s412, te 120283 1858 s336, te 120284 1861 s337, te 120285 1864 s413, te 120286 1867 s201, te 120287 1870 s338, te 120288 1873 s351, te 120289 1876 s339, te 120290 1879 s414, te 120291 1882 s341, te 120292 1885 s342, te 120293 1888 s343, te 120294 1891 s257, te 120295 1894 s415, te 120296 1897 s416, te 120297 1900 s202, te 120298 1903 s417, te 120299 1906 s418, te 120300 1909 s419, te 120301 1912 s347, te 120328 1915 s411, te 120329 1918 s348, te 120330 1921 s332, te 120331 1924 s353, te 120332 1927 s349, te 120333 1930 s350, te 120334 1933 s412, te 120335 1936 s336, te 120336 1939 s337, te 120337 1942 s413, te 120338 1945 s201, te 120339 1948 s338, te 120340 1951 s351, te 120341 1954 s339, te 120342 1957 s414, te 120343 1960 s341, te 120344 1963 s342, te 120345 1966 s343, te 120346 1969 s257, te 120347 1972 s415, te 120348 1975 s416, te 120349 1978 s202, te 120350 1981 s417, te 120351 1984 s418, te 120352 1987 s419, te 120353 1990 s347, te 120380 1993 s411, te 120381 1996 s348, te 120382 1999 s332, te 120383 2002 s353, te 120384 2005 s349, te 120385 2008 s350, te 120386 2011 s412, te 120387 2014 s336, te 120388 2017 s337, te 120389 2020 s413, te 120390 2023 s201, te 120391 2026 s338, te 120392 2029 s351, te 120393 2032 s339, te 120394 2035 s414, te 120395 2038 s341, te 120396 2041 s342, te 120397 2044 s343, te 120398 2047 s257, te 120399 2050 s415, te 120400 2053 s416, te 120401 2056 s202, te 120402 2059 s417, te 120403 2062 s418, te 120404 2065 s419, te 120405 2068 s347, te 120432 2071 s411, te 120433 2074 s348, te 120434 2077 s332, te 120435 2080 s353, te 120436 2083 s349, te 120437 2086 s350, te 120438 2089 s412, te 120439 2092 s336, te 120440 2095 s337, te 120441 2098 s413, te 120442 2101 s201, te 120443 2104 s338, te 120444 2107 s351, te 120445 2110 s339, te 120446 2113 s414, te 120447 2116 s341, te 120448 2119 s342, te 120449 2122 s343, te 120450 2125 s257, te 120451 2128 s415, te 120452 2131 s416, te 120453 2134 s202, te 120454 2137 s417, te 120455 2140 s418, te 120456 2143 s419, te 120457 2146 s347, te 120488 2149 s420, te 120489 2152 s264, te 120490 2155 s352, te 120491 2158 s421, te 120492 2161 s273, te 120493 2164 s422, te 120494 2167 s423, te 120495 2170 s265, te 120496 2173 s259, te 120497 2176 s271, te 120498 2179 s424, te 120499 2182 s253, te 120500 2185 s425, te 120501 2188 s426, te 120502 2191 s427, te 120503 2194 s270, te 120504 2197 s272, te 120505 2200 s265, te 120506 2203 s263, te 120507 2206 s428, te 120508 2209 s266, te 120509 2212 s269, te 120510 2215 s429, te 120511 2218 s430, te 120512 2221 s431, te 120531 2224 s263, te 120546 2227 s420, te 120547 2230 s264, te 120548 2233 s352, te 120549 2236 s421, te 120550 2239 s273, te 120551 2242 s422, te 120552 2245 s423, te 120553 2248 s265, te 120554 2251 s259, te 120555 2254 s271, te 120556 2257 s424, te 120557 2260 s253, te 120558 2263 s425, te 120559 2266 s426, te 120560 2269 s427, te 120561 2272 s270, te 120562 2275 s272, te 120563 2278 s265, te 120564 2281 s263, te 120565 2284 s428, te 120566 2287 s266, te 120567 2290 s269, te 120568 2293 s429, te 120569 2296 s430, te 120570 2299 s431, te 120589 2302 s263, te 120604 2305 s420, te 120605 2308 s264, te 120606 2311 s352, te 120607 2314 s421, te 120608 2317 s273, te 120609 2320 s422, te 120610 2323 s423, te 120611 2326 s265, te 120612 2329 s259, te 120613 2332 s271, te 120614 2335 s424, te 120615 2338 s253, te 120616 2341 s425, te 120617 2344 s426, te 120618 2347 s427, te 120619 2350 s270, te 120620 2353 s272, te 120621 2356 s265, te 120622 2359 s263, te 120623 2362 s428, te 120624 2365 s266, te 120625 2368 s269, te 120626 2371 s429, te 120627 2374 s430, te 120628 2377 s431, te 120647 2380 s263, te 120662 2383 s420, te 120663 2386 s264, te 120664 2389 s352, te 120665 2392 s421, te 120666 2395 s273, te 120667 2398 s422, te 120668 2401 s423, te 120669 2404 s265, te 120670 2407 s259, te 120671 2410 s271, te 120672 2413 s424, te 120673 2416 s253, te 120674 2419 s425, te 120675 2422 s426, te 120676 2425 s427, te 120677 2428 s270, te 120678 2431 s272, te 120679 2434 s265, te 120680 2437 s263, te 120681 2440 s428, te 120682 2443 s266, te 120683 2446 s269, te 120684 2449 s429, te 120685 2452 s430, te 120686 2455 s431, te 120705 2458 s263, te 120720 2461 s420, te 120721 2464 s264, te 120722 2467 s352, te 120723 2470 s421, te 120724 2473 s273, te 120725 2476 s422, te 120726 2479 s423, te 120727 2482 s265, te 120728 2485 s259, te 120729 2488 s271, te 120730 2491 s424, te 120731 2494 s253, te 120732 2497 s425, te 120733 2500 s426, te 120734 2503 s427, te 120735 2506 s270, te 120736 2509 s272, te 120737 2512 s265, te 120738 2515 s263, te 120739 2518 s428, te 120740 2521 s266, te 120741 2524 s269, te 120742 2527 s429, te 120743 2529 s430, te 120744 2531 s431, te 120763 2533 s263]⟩ 650), ⟨[]⟩⟩
noncomputable def k245 (P : Params) : Obj := ⟨(.type "code"), none, (.fields ⟨[(.str s186 2540), (.str s186 2541), (.str s175 2542), (.int 97 0), (.int 1 0), (.int 0 0), (.int 0 0), (.int 3 0), (.ref 240), (.bool true), (.int 276 0), (.ref 241), .none, (.ref 242), (.ref 243), (.ref 244), (.int 2545 0), (.int 97 0), (.str s175 2546)]⟩), ⟨[]⟩⟩
noncomputable def k246 (P : Params) : Obj := ⟨(.type "function"), none, (.func ⟨s186, s186, fdA (tS 12), .stmts (fdB (tS 12)), fdS (tS 12), 3, [], .none, .none, .none, (.str s252 520), none, (.ref 245), .none, 0⟩), ⟨[]⟩⟩
noncomputable def k250 (P : Params) : Obj := ⟨(.type "code"), none, (.fields ⟨[(.str s187 2550), (.str s187 2551), (.str s175 2552), (.int 103 0), (.int 1 0), (.int 0 0), (.int 0 0), (.int 3 0), (.ref 247), (.bool true), (.int 276 0), (.ref 248), .none, .none, .none, (.ref 249), (.int 2553 0), (.int 103 0), (.str s175 2554)]⟩), ⟨[]⟩⟩
noncomputable def k251 (P : Params) : Obj := ⟨(.type "function"), none, (.func ⟨s187, s187, fdA (tS 14), .stmts (fdB (tS 14)), fdS (tS 14), 3, [], .none, .none, .none, (.str s171 2548), none, (.ref 250), .none, 0⟩), ⟨[]⟩⟩
noncomputable def k255 (P : Params) : Obj := ⟨(.type "code"), none, (.fields ⟨[(.str s188 2556), (.str s188 2557), (.str s175 2558), (.int 109 0), (.int 1 0), (.int 0 0), (.int 0 0), (.int 3 0), (.ref 252), (.bool true), (.int 276 0), (.ref 253), .none, .none, .none, (.ref 254), (.int 2559 0), (.int 109 0), (.str s175 2560)]⟩), ⟨[]⟩⟩
noncomputable def k256 (P : Params) : Obj := ⟨(.type "function"), none, (.func ⟨s188, s188, fdA (tS 15), .stmts (fdB (tS 15)), fdS (tS 15), 3, [], .none, .none, .none, (.str s171 2548), none, (.ref 255), .none, 0⟩), ⟨[]⟩⟩
noncomputable def k262 (P : Params) : Obj := ⟨(.type "code"), none, (.fields ⟨[(.str s189 2562), (.str s189 2563), (.str s175 2564), (.int 111 0), (.int 1 0), (.int 0 0), (.int 0 0), (.int 3 0), (.ref 257), (.bool true), (.int 276 0), (.ref 258), .none, (.ref 259), (.ref 260), (.ref 261), (.int 2568 0), (.int 111 0), (.str s175 2569)]⟩), ⟨[]⟩⟩
noncomputable def k263 (P : Params) : Obj := ⟨(.type "function"), none, (.func ⟨s189, s189, fdA (tS 16), .stmts (fdB (tS 16)), fdS (tS 16), 3, [], .none, .none, .none, (.str s171 2548), none, (.ref 262), .none, 0⟩), ⟨[]⟩⟩
noncomputable def k269 (P : Params) : Obj := ⟨(.type "code"), none, (.fields ⟨[(.str s190 2571), (.str s190 2572), (.str s175 2573), (.int 116 0), (.int 3 0), (.int 0 0), (.int 0 0), (.int 3 0), (.ref 264), (.bool true), (.int 276 0), (.ref 265), .none, (.ref 266), (.ref 267), (.ref 268), (.int 2580 0), (.int 116 0), (.str s175 2581)]⟩), ⟨[]⟩⟩
noncomputable def k270 (P : Params) : Obj := ⟨(.type "function"), none, (.func ⟨s190, s190, fdA (tS 17), .stmts (fdB (tS 17)), fdS (tS 17), 3, [], .none, .none, .none, (.str s171 2548), none, (.ref 269), .none, 0⟩), ⟨[]⟩⟩
noncomputable def k274 (P : Params) : Obj := ⟨(.type "code"), none, (.fields ⟨[(.str s191 2583), (.str s191 2584), (.str s175 2585), (.int 129 0), (.int 2 0), (.int 0 0), (.int 0 0), (.int 3 0), (.ref 271), (.bool true), (.int 276 0), (.ref 272), .none, .none, .none, (.ref 273), (.int 2586 0), (.int 129 0), (.str s175 2587)]⟩), ⟨[]⟩⟩
noncomputable def k275 (P : Params) : Obj := ⟨(.type "function"), none, (.func ⟨s191, s191, fdA (tS 18), .stmts (fdB (tS 18)), fdS (tS 18), 3, [], .none, .none, .none, (.str s171 2548), none, (.ref 274), .none, 0⟩), ⟨[]⟩⟩
noncomputable def k279 (P : Params) : Obj := ⟨(.type "code"), none, (.fields ⟨[(.str s192 2589), (.str s192 2590), (.str s175 2591), (.int 137 0), (.int 1 0), (.int 0 0), (.int 0 0), (.int 3 0), (.ref 276), (.bool true), (.int 276 0), (.ref 277), .none, .none, .none, (.ref 278), (.int 2592 0), (.int 137 0), (.str s175 2593)]⟩), ⟨[]⟩⟩
noncomputable def k280 (P : Params) : Obj := ⟨(.type "function"), none, (.func ⟨s192, s192, fdA (tS 19), .stmts (fdB (tS 19)), fdS (tS 19), 3, [], .none, .none, .none, (.str s171 2548), none, (.ref 279), .none, 0⟩), ⟨[]⟩⟩
noncomputable def h0 (P : Params) : Obj := ⟨(.type "dict"), none, (.dict ⟨[⟨PyData.keyHash P s0, (.str s0 1), (.str s1 160)⟩, ⟨PyData.keyHash P s2, (.str s2 2), (.builtin "builtins.__doc__:str#opaque")⟩, ⟨PyData.keyHash P s3, (.str s3 3), (.builtin "builtins.__package__:str#opaque")⟩, ⟨PyData.keyHash P s4, (.str s4 4), (.builtin "builtins.__loader__:shared#opaque")⟩, ⟨PyData.keyHash P s5, (.str s5 5), (.builtin "builtins.__spec__#opaque")⟩, ⟨PyData.keyHash P s6, (.str s6 6), (.builtin "__build_class__")⟩, ⟨PyData.keyHash P s7, (.str s7 7), (.builtin "__import__")⟩, ⟨PyData.keyHash P s8, (.str s8 8), (.builtin "abs")⟩, ⟨PyData.keyHash P s9, (.str s9 9), (.builtin "all")⟩, ⟨PyData.keyHash P s10, (.str s10 10), (.builtin "any")⟩, ⟨PyData.keyHash P s11, (.str s11 11), (.builtin "ascii")⟩, ⟨PyData.keyHash P s12, (.str s12 12), (.builtin "bin")⟩, ⟨PyData.keyHash P s13, (.str s13 13), (.builtin "breakpoint")⟩, ⟨PyData.keyHash P s14, (.str s14 14), (.builtin "callable")⟩, ⟨PyData.keyHash P s15, (.str s15 15), (.builtin "chr")⟩, ⟨PyData.keyHash P s16, (.str s16 16), (.builtin "compile")⟩, ⟨PyData.keyHash P s17, (.str s17 17), (.builtin "delattr")⟩, ⟨PyData.keyHash P s18, (.str s18 18), (.builtin "dir")⟩, ⟨PyData.keyHash P s19, (.str s19 19), (.builtin "divmod")⟩, ⟨PyData.keyHash P s20, (.str s20 20), (.builtin "eval")⟩, ⟨PyData.keyHash P s21, (.str s21 21), (.builtin "exec")⟩, ⟨PyData.keyHash P s22, (.str s22 22), (.builtin "format")⟩, ⟨PyData.keyHash P s23, (.str s23 23), (.builtin "getattr")⟩, ⟨PyData.keyHash P s24, (.str s24 24), (.builtin "globals")⟩, ⟨PyData.keyHash P s25, (.str s25 25), (.builtin "hasattr")⟩, ⟨PyData.keyHash P s26, (.str s26 26), (.builtin "hash")⟩, ⟨PyData.keyHash P s27, (.str s27 27), (.builtin "hex")⟩, ⟨PyData.keyHash P s28, (.str s28 28), (.builtin "id")⟩, ⟨PyData.keyHash P s29, (.str s29 29), (.builtin "input")⟩, ⟨PyData.keyHash P s30, (.str s30 30), (.builtin "isinstance")⟩, ⟨PyData.keyHash P s31, (.str s31 31), (.builtin "issubclass")⟩, ⟨PyData.keyHash P s32, (.str s32 32), (.builtin "iter")⟩, ⟨PyData.keyHash P s33, (.str s33 33), (.builtin "aiter")⟩, ⟨PyData.keyHash P s34, (.str s34 34), (.builtin "len")⟩, ⟨PyData.keyHash P s35, (.str s35 35), (.builtin "locals")⟩, ⟨PyData.keyHash P s36, (.str s36 36), (.builtin "max")⟩, ⟨PyData.keyHash P s37, (.str s37 37), (.builtin "min")⟩, ⟨PyData.keyHash P s38, (.str s38 38), (.builtin "next")⟩, ⟨PyData.keyHash P s39, (.str s39 39), (.builtin "anext")⟩, ⟨PyData.keyHash P s40, (.str s40 40), (.builtin "oct")⟩, ⟨PyData.keyHash P s41, (.str s41 41), (.builtin "ord")⟩, ⟨PyData.keyHash P s42, (.str s42 42), (.builtin "pow")⟩, ⟨PyData.keyHash P s43, (.str s43 43), (.builtin "print")⟩, ⟨PyData.keyHash P s44, (.str s44 44), (.builtin "repr")⟩, ⟨PyData.keyHash P s45, (.str s45 45), (.builtin "round")⟩, ⟨PyData.keyHash P s46, (.str s46 46), (.builtin "setattr")⟩, ⟨PyData.keyHash P s47, (.str s47 47), (.builtin "sorted")⟩, ⟨PyData.keyHash P s48, (.str s48 48), (.builtin "sum")⟩, ⟨PyData.keyHash P s49, (.str s49 49), (.builtin "vars")⟩, ⟨PyData.keyHash P s50, (.str s50 50), .none⟩, ⟨PyData.keyHash P s51, (.str s51 51), .ellipsis⟩, ⟨PyData.keyHash P s52, (.str s52 52), .notImplemented⟩, ⟨PyData.keyHash P s53, (.str s53 53), (.bool false)⟩, ⟨PyData.keyHash P s54, (.str s54 54), (.bool true)⟩, ⟨PyData.keyHash P s55, (.str s55 55), (.type "bool")⟩, ⟨PyData.keyHash P s56, (.str s56 56), (.type "memoryview")⟩, ⟨PyData.keyHash P s57, (.str s57 57), (.type "bytearray")⟩, ⟨PyData.keyHash P s58, (.str s58 58), (.type "bytes")⟩, ⟨PyData.keyHash P s59, (.str s59 59), (.type "classmethod")⟩, ⟨PyData.keyHash P s60, (.str s60 60), (.type "complex")⟩, ⟨PyData.keyHash P s61, (.str s61 61), (.type "dict")⟩, ⟨PyData.keyHash P s62, (.str s62 62), (.type "enumerate")⟩, ⟨PyData.keyHash P s63, (.str s63 63), (.type "filter")⟩, ⟨PyData.keyHash P s64, (.str s64 64), (.type "float")⟩, ⟨PyData.keyHash P s65, (.str s65 65), (.type "frozenset")⟩, ⟨PyData.keyHash P s66, (.str s66 66), (.type "property")⟩, ⟨PyData.keyHash P s67, (.str s67 67), (.type "int")⟩, ⟨PyData.keyHash P s68, (.str s68 68), (.type "list")⟩, ⟨PyData.keyHash P s69, (.str s69 69), (.type "map")⟩, ⟨PyData.keyHash P s70, (.str s70 70), (.type "object")⟩, ⟨PyData.keyHash P s71, (.str s71 71), (.type "range")⟩, ⟨PyData.keyHash P s72, (.str s72 72), (.type "reversed")⟩, ⟨PyData.keyHash P s73, (.str s73 73), (.type "set")⟩, ⟨PyData.keyHash P s74, (.str s74 74), (.type "slice")⟩, ⟨PyData.keyHash P s75, (.str s75 75), (.type "staticmethod")⟩, ⟨PyData.keyHash P s76, (.str s76 76), (.type "str")⟩, ⟨PyData.keyHash P s77, (.str s77 77), (.type "super")⟩, ⟨PyData.keyHash P s78, (.str s78 78), (.type "tuple")⟩, ⟨PyData.keyHash P s79, (.str s79 79), (.type "type")⟩, ⟨PyData.keyHash P s80, (.str s80 80), (.type "zip")⟩, ⟨PyData.keyHash P s81, (.str s81 81), (.bool true)⟩, ⟨PyData.keyHash P s82, (.str s82 82), (.type "BaseException")⟩, ⟨PyData.keyHash P s83, (.str s83 83), (.type "BaseExceptionGroup")⟩, ⟨PyData.keyHash P s84, (.str s84 84), (.type "Exception")⟩, ⟨PyData.keyHash P s85, (.str s85 85), (.type "GeneratorExit")⟩, ⟨PyData.keyHash P s86, (.str s86 86), (.type "KeyboardInterrupt")⟩, ⟨PyData.keyHash P s87, (.str s87 87), (.type "SystemExit")⟩, ⟨PyData.keyHash P s88, (.str s88 88), (.type "ArithmeticError")⟩, ⟨PyData.keyHash P s89, (.str s89 89), (.type "AssertionError")⟩, ⟨PyData.keyHash P s90, (.str s90 90), (.type "AttributeError")⟩, ⟨PyData.keyHash P s91, (.str s91 91), (.type "BufferError")⟩, ⟨PyData.keyHash P s92, (.str s92 92), (.type "EOFError")⟩, ⟨PyData.keyHash P s93, (.str s93 93), (.type "ImportError")⟩, ⟨PyData.keyHash P s94, (.str s94 94), (.type "LookupError")⟩, ⟨PyData.keyHash P s95, (.str s95 95), (.type "MemoryError")⟩, ⟨PyData.keyHash P s96, (.str s96 96), (.type "NameError")⟩, ⟨PyData.keyHash P s97, (.str s97 97), (.type "OSError")⟩, ⟨PyData.keyHash P s98, (.str s98 98), (.type "ReferenceError")⟩, ⟨PyData.keyHash P s99, (.str s99 99), (.type "RuntimeError")⟩, ⟨PyData.keyHash P s100, (.str s100 100), (.type "StopAsyncIteration")⟩, ⟨PyData.keyHash P s101, (.str s101 101), (.type "StopIteration")⟩, ⟨PyData.keyHash P s102, (.str s102 102), (.type "SyntaxError")⟩, ⟨PyData.keyHash P s103, (.str s103 103), (.type "SystemError")⟩, ⟨PyData.keyHash P s104, (.str s104 104), (.type "TypeError")⟩, ⟨PyData.keyHash P s105, (.str s105 105), (.type "ValueError")⟩, ⟨PyData.keyHash P s106, (.str s106 106), (.type "Warning")⟩, ⟨PyData.keyHash P s107, (.str s107 107), (.type "FloatingPointError")⟩, ⟨PyData.keyHash P s108, (.str s108 108), (.type "OverflowError")⟩, ⟨PyData.keyHash P s109, (.str s109 109), (.type "ZeroDivisionError")⟩, ⟨PyData.keyHash P s110, (.str s110 110), (.type "BytesWarning")⟩, ⟨PyData.keyHash P s111, (.str s111 111), (.type "DeprecationWarning")⟩, ⟨PyData.keyHash P s112, (.str s112 112), (.type "EncodingWarning")⟩, ⟨PyData.keyHash P s113, (.str s113 113), (.type "FutureWarning")⟩, ⟨PyData.keyHash P s114, (.str s114 114), (.type "ImportWarning")⟩, ⟨PyData.keyHash P s115, (.str s115 115), (.type "PendingDeprecationWarning")⟩, ⟨PyData.keyHash P s116, (.str s116 116), (.type "ResourceWarning")⟩, ⟨PyData.keyHash P s117, (.str s117 117), (.type "RuntimeWarning")⟩, ⟨PyData.keyHash P s118, (.str s118 118), (.type "SyntaxWarning")⟩, ⟨PyData.keyHash P s119, (.str s119 119), (.type "UnicodeWarning")⟩, ⟨PyData.keyHash P s120, (.str s120 120), (.type "UserWarning")⟩, ⟨PyData.keyHash P s121, (.str s121 121), (.type "BlockingIOError")⟩, ⟨PyData.keyHash P s122, (.str s122 122), (.type "ChildProcessError")⟩, ⟨PyData.keyHash P s123, (.str s123 123), (.type "ConnectionError")⟩, ⟨PyData.keyHash P s124, (.str s124 124), (.type "FileExistsError")⟩, ⟨PyData.keyHash P s125, (.str s125 125), (.type "FileNotFoundError")⟩, ⟨PyData.keyHash P s126, (.str s126 126), (.type "InterruptedError")⟩, ⟨PyData.keyHash P s127, (.str s127 127), (.type "IsADirectoryError")⟩, ⟨PyData.keyHash P s128, (.str s128 128), (.type "NotADirectoryError")⟩, ⟨PyData.keyHash P s129, (.str s129 129), (.type "PermissionError")⟩, ⟨PyData.keyHash P s130, (.str s130 130), (.type "ProcessLookupError")⟩, ⟨PyData.keyHash P s131, (.str s131 131), (.type "TimeoutError")⟩, ⟨PyData.keyHash P s132, (.str s132 132), (.type "IndentationError")⟩, ⟨PyData.keyHash P s133, (.str s133 133), (.type "_IncompleteInputError")⟩, ⟨PyData.keyHash P s134, (.str s134 134), (.type "IndexError")⟩, ⟨PyData.keyHash P s135, (.str s135 135), (.type "KeyError")⟩, ⟨PyData.keyHash P s136, (.str s136 136), (.type "ModuleNotFoundError")⟩, ⟨PyData.keyHash P s137, (.str s137 137), (.type "NotImplementedError")⟩, ⟨PyData.keyHash P s138, (.str s138 138), (.type "PythonFinalizationError")⟩, ⟨PyData.keyHash P s139, (.str s139 139), (.type "RecursionError")⟩, ⟨PyData.keyHash P s140, (.str s140 140), (.type "UnboundLocalError")⟩, ⟨PyData.keyHash P s141, (.str s141 141), (.type "UnicodeError")⟩, ⟨PyData.keyHash P s142, (.str s142 142), (.type "BrokenPipeError")⟩, ⟨PyData.keyHash P s143, (.str s143 143), (.type "ConnectionAbortedError")⟩, ⟨PyData.keyHash P s144, (.str s144 144), (.type "ConnectionRefusedError")⟩, ⟨PyData.keyHash P s145, (.str s145 145), (.type "ConnectionResetError")⟩, ⟨PyData.keyHash P s146, (.str s146 146), (.type "TabError")⟩, ⟨PyData.keyHash P s147, (.str s147 147), (.type "UnicodeDecodeError")⟩, ⟨PyData.keyHash P s148, (.str s148 148), (.type "UnicodeEncodeError")⟩, ⟨PyData.keyHash P s149, (.str s149 149), (.type "UnicodeTranslateError")⟩, ⟨PyData.keyHash P s150, (.str s150 150), (.type "ExceptionGroup")⟩, ⟨PyData.keyHash P s151, (.str s151 151), (.type "OSError")⟩, ⟨PyData.keyHash P s152, (.str s152 152), (.type "OSError")⟩, ⟨PyData.keyHash P s153, (.str s153 153), (.builtin "open")⟩, ⟨PyData.keyHash P s154, (.str s154 154), (.builtin "builtins.quit#opaque")⟩, ⟨PyData.keyHash P s155, (.str s155 155), (.builtin "builtins.exit#opaque")⟩, ⟨PyData.keyHash P s156, (.str s156 156), (.builtin "builtins.copyright#opaque")⟩, ⟨PyData.keyHash P s157, (.str s157 157), (.builtin "builtins.credits#opaque")⟩, ⟨PyData.keyHash P s158, (.str s158 158), (.builtin "builtins.license#opaque")⟩, ⟨PyData.keyHash P s159, (.str s159 159), (.builtin "builtins.help#opaque")⟩]⟩ 159), ⟨[]⟩⟩
noncomputable def h1 (P : Params) : Obj := ⟨(.type "dict"), none, (.dict ⟨[⟨PyData.keyHash P s1, (.str s1 162), (.ref 4)⟩, ⟨PyData.keyHash P s469, (.str s469 163), (.ref 5)⟩, ⟨PyData.keyHash P s177, (.str s177 244), (.ref 12)⟩]⟩ 3), ⟨[]⟩⟩
noncomputable def h2 (P : Params) : Obj := ⟨.none, none, (.dict ⟨[⟨PyData.keyHash P s160, (.str s160 183), (.bool true)⟩, ⟨PyData.keyHash P s161, (.str s161 185), (.ref 14)⟩, ⟨PyData.keyHash P s162, (.str s162 206), (.ref 18)⟩, ⟨PyData.keyHash P s163, (.str s163 216), (.ref 22)⟩, ⟨PyData.keyHash P s164, (.str s164 245), (.int 3 0)⟩, ⟨PyData.keyHash P s165, (.str s165 270), (.bool true)⟩, ⟨PyData.keyHash P s166, (.str s166 272), (.ref 27)⟩, ⟨PyData.keyHash P s167, (.str s167 0), (.str s168 0)⟩, ⟨PyData.keyHash P s169, (.str s169 273), (.str s170 0)⟩]⟩ 9), ⟨[]⟩⟩
noncomputable def h3 (P : Params) : Obj := ⟨(.type "dict"), none, (.dict ⟨[⟨PyData.keyHash P s0, (.str s0 165), (.str s469 164)⟩, ⟨PyData.keyHash P s2, (.str s2 166), .none⟩, ⟨PyData.keyHash P s3, (.str s3 167), .none⟩, ⟨PyData.keyHash P s4, (.str s4 168), (.builtin "__main__.__loader__#opaque")⟩, ⟨PyData.keyHash P s5, (.str s5 169), .none⟩, ⟨PyData.keyHash P s172, (.str s172 170), (.ref 6)⟩, ⟨PyData.keyHash P s173, (.str s173 171), (.ref 4)⟩, ⟨PyData.keyHash P s174, (.str s174 173), (.str s175 172)⟩, ⟨PyData.keyHash P s176, (.str s176 174), .none⟩, ⟨PyData.keyHash P s177, (.str s177 275), (.ref 12)⟩]⟩ 10), ⟨[]⟩⟩
noncomputable def h4 (P : Params) : Obj := ⟨(.type "module"), (some 0), .plain, ⟨[]⟩⟩
noncomputable def h5 (P : Params) : Obj := ⟨(.type "module"), (some 3), .plain, ⟨[]⟩⟩
noncomputable def h6 (P : Params) : Obj := ⟨(.type "dict"), none, (.dict ⟨[]⟩ 0), ⟨[]⟩⟩
noncomputable def h7 (P : Params) : Obj := ⟨(.type "tuple"), none, (.seq ⟨[]⟩ 0), ⟨[]⟩⟩
noncomputable def h8 (P : Params) : Obj := ⟨.none, none, (.fields ⟨[]⟩), ⟨[]⟩⟩
noncomputable def h9 (P : Params) : Obj := ⟨(.type "code"), none, (.fields ⟨[(.str s470 176), (.str s470 177), (.str s175 178), (.int 1 0), (.int 0 0), (.int 0 0), (.int 0 0), (.int 0 0), (.ref 7), (.bool false), (.int 175 0), (.ref 8), .none, .none, .none, .none, (.int 179 0), (.int 1 0), (.str s175 180)]⟩), ⟨[]⟩⟩
noncomputable def h10 (P : Params) : Obj := ⟨(.type "frame"), none, .plain, ⟨[(some (.ref 9)), (some (.ref 3)), (some (.ref 3)), none, (some (.str s469 164)), none, (some (.ref 0))]⟩⟩
noncomputable def h11 (P : Params) : Obj := ⟨(.type "dict"), none, (.dict ⟨[⟨PyData.keyHash P s0, (.str s0 247), (.str s177 246)⟩, ⟨PyData.keyHash P s2, (.str s2 248), .none⟩, ⟨PyData.keyHash P s3, (.str s3 250), (.str s435 249)⟩, ⟨PyData.keyHash P s4, (.str s4 251), (.builtin "off-the-table:_sre.__loader__:shared#opaque")⟩, ⟨PyData.keyHash P s5, (.str s5 252), (.builtin "off-the-table:_sre.__spec__:shared#opaque")⟩, ⟨PyData.keyHash P s16, (.str s16 253), (.builtin "_sre.compile")⟩, ⟨PyData.keyHash P s471, (.str s471 254), (.builtin "off-the-table:_sre.template:shared#opaque")⟩, ⟨PyData.keyHash P s472, (.str s472 255), (.builtin "off-the-table:_sre.getcodesize:shared#opaque")⟩, ⟨PyData.keyHash P s473, (.str s473 256), (.builtin "off-the-table:_sre.ascii_iscased:shared#opaque")⟩, ⟨PyData.keyHash P s474, (.str s474 257), (.builtin "off-the-table:_sre.unicode_iscased:shared#opaque")⟩, ⟨PyData.keyHash P s475, (.str s475 258), (.builtin "off-the-table:_sre.ascii_tolower:shared#opaque")⟩, ⟨PyData.keyHash P s476, (.str s476 259), (.builtin "off-the-table:_sre.unicode_tolower:shared#opaque")⟩, ⟨PyData.keyHash P s477, (.str s477 261), (.int 20230612 260)⟩, ⟨PyData.keyHash P s478, (.str s478 263), (.int 4 262)⟩, ⟨PyData.keyHash P s479, (.str s479 265), (.int 4294967295 264)⟩, ⟨PyData.keyHash P s480, (.str s480 267), (.int 1073741823 266)⟩, ⟨PyData.keyHash P s156, (.str s156 269), (.str s481 268)⟩]⟩ 17), ⟨[]⟩⟩
noncomputable def h12 (P : Params) : Obj := ⟨(.type "module"), (some 11), .plain, ⟨[]⟩⟩
noncomputable def h13 (P : Params) : Obj := ⟨(.type "dict"), none, (.dict ⟨[⟨PyData.keyHash P s234, (.str s234 189), (.str s482 186)⟩, ⟨PyData.keyHash P s235, (.str s235 190), (.int 971 187)⟩, ⟨PyData.keyHash P s2, (.str s2 191), (.builtin "_frozen_importlib.BuiltinImporter.__doc__:str#opaque")⟩, ⟨PyData.keyHash P s483, (.str s483 192), (.str s484 188)⟩, ⟨PyData.keyHash P s485, (.str s485 193), (.builtin "_frozen_importlib.BuiltinImporter.find_spec#opaque")⟩, ⟨PyData.keyHash P s486, (.str s486 194), (.builtin "_frozen_importlib.BuiltinImporter.create_module#opaque")⟩, ⟨PyData.keyHash P s487, (.str s487 195), (.builtin "_frozen_importlib.BuiltinImporter.exec_module#opaque")⟩, ⟨PyData.keyHash P s488, (.str s488 196), (.builtin "_frozen_importlib.BuiltinImporter.get_code#opaque")⟩, ⟨PyData.keyHash P s489, (.str s489 197), (.builtin "_frozen_importlib.BuiltinImporter.get_source#opaque")⟩, ⟨PyData.keyHash P s490, (.str s490 198), (.builtin "_frozen_importlib.BuiltinImporter.is_package#opaque")⟩, ⟨PyData.keyHash P s491, (.str s491 199), (.builtin "_frozen_importlib.BuiltinImporter.load_module#opaque")⟩, ⟨PyData.keyHash P s244, (.str s244 200), (.ref 15)⟩, ⟨PyData.keyHash P s245, (.str s245 202), (.ref 16)⟩, ⟨PyData.keyHash P s246, (.str s246 204), (.ref 17)⟩]⟩ 14), ⟨[]⟩⟩
noncomputable def h14 (P : Params) : Obj := ⟨(.type "type"), none, (.cls ⟨s492, [(.type "object")], [(.ref 14), (.type "object")], 13, s492, true, [], [], false, none, false⟩), ⟨[]⟩⟩
noncomputable def h15 (P : Params) : Obj := ⟨(.type "tuple"), none, (.seq ⟨[]⟩ 0), ⟨[]⟩⟩
noncomputable def h16 (P : Params) : Obj := ⟨(.type "getset_descriptor"), none, (.fields ⟨[(.str s245 201), (.ref 14), (.builtin "function.__dict__"), (.builtin "function.__dict__#set")]⟩), ⟨[]⟩⟩
noncomputable def h17 (P : Params) : Obj := ⟨(.type "getset_descriptor"), none, (.fields ⟨[(.str s246 203), (.ref 14), (.builtin "ExceptionGroup.__weakref__"), .none]⟩), ⟨[]⟩⟩
noncomputable def h18 (P : Params) : Obj := ⟨.none, none, (.seq ⟨[(.int 13 0), (.str s493 0), (.bool true), (.bool true), (.str s435 205), (.int 21 0), (.str s494 0), (.bool true), (.bool true), (.str s435 242)]⟩ 1), ⟨[]⟩⟩
noncomputable def h19 (P : Params) : Obj := ⟨(.type "list"), none, (.seq ⟨[]⟩ 0), ⟨[]⟩⟩
noncomputable def h20 (P : Params) : Obj := ⟨(.type "dict"), none, (.dict ⟨[⟨PyData.keyHash P s204, (.str s204 208), (.str s177 207)⟩, ⟨PyData.keyHash P s495, (.str s495 209), (.ref 14)⟩, ⟨PyData.keyHash P s496, (.str s496 210), (.str s484 184)⟩, ⟨PyData.keyHash P s497, (.str s497 211), .none⟩, ⟨PyData.keyHash P s498, (.str s498 212), .none⟩, ⟨PyData.keyHash P s499, (.str s499 213), (.ref 19)⟩, ⟨PyData.keyHash P s500, (.str s500 214), (.bool false)⟩, ⟨PyData.keyHash P s501, (.str s501 215), .none⟩, ⟨PyData.keyHash P s502, (.str s502 243), (.bool false)⟩]⟩ 9), ⟨[]⟩⟩
noncomputable def h21 (P : Params) : Obj := ⟨(.type "dict"), none, (.dict ⟨[⟨PyData.keyHash P s234, (.str s234 227), (.str s482 217)⟩, ⟨PyData.keyHash P s235, (.str s235 228), (.int 562 218)⟩, ⟨PyData.keyHash P s2, (.str s2 229), (.builtin "_frozen_importlib.ModuleSpec.__doc__:str#opaque")⟩, ⟨PyData.keyHash P s195, (.str s195 230), (.builtin "_frozen_importlib.ModuleSpec.__init__#opaque")⟩, ⟨PyData.keyHash P s240, (.str s240 231), (.builtin "_frozen_importlib.ModuleSpec.__repr__#opaque")⟩, ⟨PyData.keyHash P s503, (.str s503 232), (.builtin "_frozen_importlib.ModuleSpec.__eq__#opaque")⟩, ⟨PyData.keyHash P s504, (.str s504 233), (.builtin "_frozen_importlib.ModuleSpec.cached#opaque")⟩, ⟨PyData.keyHash P s505, (.str s505 234), (.builtin "_frozen_importlib.ModuleSpec.parent#opaque")⟩, ⟨PyData.keyHash P s506, (.str s506 235), (.builtin "_frozen_importlib.ModuleSpec.has_location#opaque")⟩, ⟨PyData.keyHash P s244, (.str s244 236), (.ref 23)⟩, ⟨PyData.keyHash P s245, (.str s245 238), (.ref 24)⟩, ⟨PyData.keyHash P s246, (.str s246 240), (.ref 25)⟩, ⟨PyData.keyHash P s507, (.str s507 241), .none⟩]⟩ 13), ⟨[]⟩⟩
noncomputable def h22 (P : Params) : Obj := ⟨(.type "type"), none, (.cls ⟨s508, [(.type "object")], [(.ref 22), (.type "object")], 21, s508, true, [], [], false, none, false⟩), ⟨[]⟩⟩
noncomputable def h23 (P : Params) : Obj := ⟨(.type "tuple"), none, (.seq ⟨[(.str s501 219), (.str s500 220), (.str s499 221), (.str s495 222), (.str s497 223), (.str s204 224), (.str s496 225), (.str s498 226)]⟩ 0), ⟨[]⟩⟩
noncomputable def h24 (P : Params) : Obj := ⟨(.type "getset_descriptor"), none, (.fields ⟨[(.str s245 237), (.ref 22), (.builtin "function.__dict__"), (.builtin "function.__dict__#set")]⟩), ⟨[]⟩⟩
noncomputable def h25 (P : Params) : Obj := ⟨(.type "getset_descriptor"), none, (.fields ⟨[(.str s246 239), (.ref 22), (.builtin "ExceptionGroup.__weakref__"), .none]⟩), ⟨[]⟩⟩
noncomputable def h26 (P : Params) : Obj := ⟨(.ref 22), (some 20), .plain, ⟨[]⟩⟩
noncomputable def h27 (P : Params) : Obj := ⟨.none, none, (.seq ⟨[(.int 11 0), (.str s509 0), (.bool true), (.bool false), (.str s177 271)]⟩ 0), ⟨[]⟩⟩
noncomputable def kt (P : Params) : KT := (.node (some (k0 P)) (.node none (.node (some (k3 P)) (.node none (.node none (.node none (.node (some (k63 P)) (.node none (.node (some (k255 P)) .nil .nil) .nil) .nil) (.node (some (k95 P)) .nil .nil)) (.node (some (k47 P)) .nil (.node (some (k111 P)) .nil .nil))) (.node none (.node none (.node none (.node (some (k135 P)) (.node (some (k263 P)) .nil .nil) .nil) (.node (some (k199 P)) .nil .nil)) .nil) (.node none (.node none (.node none (.node (some (k279 P)) .nil .nil) .nil) .nil) .nil))) (.node none (.node none .nil (.node none (.node (some (k83 P)) (.node none (.node (some (k275 P)) .nil .nil) .nil) .nil) .nil)) (.node none (.node (some (k43 P)) .nil (.node none (.node (some (k171 P)) .nil .nil) .nil)) (.node none .nil (.node (some (k123 P)) .nil (.node (some (k251 P)) .nil .nil)))))) (.node none (.node none (.node none (.node none .nil (.node none (.node (some (k161 P)) .nil .nil) .nil)) .nil) (.node none (.node none (.node none .nil (.node (some (k201 P)) .nil .nil)) .nil) (.node none (.node (some (k89 P)) .nil .nil) .nil))) (.node none (.node none (.node none (.node (some (k69 P)) .nil .nil) .nil) (.node none .nil (.node (some (k117 P)) (.node (some (k181 P)) .nil .nil) (.node (some (k245 P)) .nil .nil)))) (.node none (.node none (.node none (.node none (.node (some (k269 P)) .nil .nil) .nil) .nil) .nil) .nil)))) (.node (some (k2 P)) (.node none (.node none (.node none (.node none (.node none (.node none (.node (some (k256 P)) .nil .nil) .nil) .nil) (.node (some (k96 P)) (.node (some (k160 P)) .nil .nil) .nil)) (.node (some (k48 P)) .nil .nil)) (.node none (.node none (.node none .nil (.node (some (k200 P)) .nil .nil)) .nil) (.node (some (k56 P)) (.node (some (k88 P)) (.node none (.node (some (k280 P)) .nil .nil) .nil) .nil) .nil))) (.node none (.node none .nil (.node none (.node (some (k84 P)) .nil .nil) .nil)) .nil)) (.node none (.node none (.node none .nil (.node none (.node none (.node none (.node (some (k274 P)) .nil .nil) .nil) .nil) .nil)) (.node none (.node (some (k42 P)) .nil (.node none (.node (some (k170 P)) .nil .nil) .nil)) (.node none .nil (.node (some (k122 P)) .nil (.node (some (k250 P)) .nil .nil))))) (.node none (.node none (.node none (.node (some (k70 P)) (.node (some (k134 P)) (.node (some (k262 P)) .nil .nil) .nil) .nil) .nil) (.node none .nil (.node (some (k118 P)) (.node (some (k182 P)) .nil .nil) (.node (some (k246 P)) .nil .nil)))) (.node none (.node none (.node none (.node none (.node (some (k270 P)) .nil .nil) .nil) .nil) .nil) (.node (some (k62 P)) .nil (.node none (.node (some (k190 P)) .nil .nil) .nil)))))))
noncomputable def heap0 (P : Params) : Heap := ⟨⟨[h0 P, h1 P, h2 P, h3 P, h4 P, h5 P, h6 P, h7 P, h8 P, h9 P, h10 P, h11 P, h12 P, h13 P, h14 P, h15 P, h16 P, h17 P, h18 P, h19 P, h20 P, h21 P, h22 P, h23 P, h24 P, h25 P, h26 P, h27 P]⟩, {}⟩
noncomputable def T0 (P : Params) : Cells := [(27, h27 P), (26, h26 P), (25, h25 P), (24, h24 P), (23, h23 P), (22, h22 P), (21, h21 P), (20, h20 P), (19, h19 P), (18, h18 P), (17, h17 P), (16, h16 P), (15, h15 P), (14, h14 P), (13, h13 P), (12, h12 P), (11, h11 P), (10, h10 P), (9, h9 P), (8, h8 P), (7, h7 P), (6, h6 P), (5, h5 P), (4, h4 P), (3, h3 P), (2, h2 P), (1, h1 P), (0, h0 P)]
noncomputable def m0 (P : Params) : Obj := ⟨(.type "code"), none, (.fields ⟨[(.str s470 277), (.str s470 278), (.str s175 279), (.int 1 0), (.int 0 0), (.int 0 0), (.int 0 0), (.int 0 0), (.ref 28), (.bool false), (.int 276 0), (.ref 29), .none, .none, .none, .none, (.int 280 0), (.int 1 0), (.str s175 281)]⟩), ⟨[]⟩⟩
noncomputable def m1 (P : Params) : Obj := ⟨.none, none, (.fields ⟨[]⟩), ⟨[]⟩⟩
noncomputable def m2 (P : Params) : Obj := ⟨(.type "tuple"), none, (.seq ⟨[]⟩ 0), ⟨[]⟩⟩
noncomputable def m3 (P : Params) : Obj := ⟨(.type "frame"), none, .plain, ⟨[(some (.ref 30)), (some (.ref 3)), (some (.ref 3)), none, (some (.str s469 164)), none, (some (.ref 0))]⟩⟩
noncomputable def m4 (P : Params) : Obj := ⟨.none, none, (.fields ⟨[(.int 2 0), (.int 0 0), (.ref 37), (.int 8 0), (.int 0 0), (.ref 54), (.int 84 0), (.int 0 0), (.ref 181), (.int 94 0), (.int 0 0), (.ref 199)]⟩), ⟨[]⟩⟩
noncomputable def m5 (P : Params) : Obj := ⟨(.type "dict"), none, (.dict ⟨[⟨PyData.keyHash P s0, (.str s0 165), (.str s252 520)⟩, ⟨PyData.keyHash P s2, (.str s2 166), .none⟩, ⟨PyData.keyHash P s3, (.str s3 167), .none⟩, ⟨PyData.keyHash P s4, (.str s4 168), (.builtin "__main__.__loader__#opaque")⟩, ⟨PyData.keyHash P s5, (.str s5 169), .none⟩, ⟨PyData.keyHash P s172, (.str s172 170), (.ref 6)⟩, ⟨PyData.keyHash P s173, (.str s173 171), (.ref 4)⟩, ⟨PyData.keyHash P s174, (.str s174 173), (.str s175 172)⟩, ⟨PyData.keyHash P s176, (.str s176 174), .none⟩, ⟨PyData.keyHash P s177, (.str s177 275), (.ref 12)⟩, ⟨PyData.keyHash P s178, (.str s178 288), (.ref 38)⟩, ⟨PyData.keyHash P s179, (.str s179 316), (.ref 43)⟩, ⟨PyData.keyHash P s180, (.str s180 350), (.ref 48)⟩, ⟨PyData.keyHash P s181, (.str s181 507), (.ref 171)⟩, ⟨PyData.keyHash P s182, (.str s182 519), (.ref 182)⟩, ⟨PyData.keyHash P s183, (.str s183 581), (.ref 190)⟩, ⟨PyData.keyHash P s184, (.str s184 588), (.ref 200)⟩]⟩ 17), ⟨[]⟩⟩
end Mine.B
end
section
namespace Mine.B
open PySem PySem.W PySem.W.X
noncomputable def bodyB : List Stmt := behindTheImports PySem.Challenge.pw_we0033_02
noncomputable def bodyEnv : Env := { scope := PySem.Challenge.pw_we0033_02.main.scope, locals := mainNs, globals := mainNs, cells := [], code := (.ref 30), frame := some 31 }
noncomputable def rootC : Ctx := ⟨.builtin "claim.caller" {}, none, none, [], none⟩
noncomputable def bodyC (q : Pos) : Ctx := rootC.enter (.body bodyB bodyEnv) none q
noncomputable def FH (w : World) : Fixed := ⟨denF, Code.quiet, PySem.Challenge.pw_we0033_02, w.params, .nil, noRule⟩
noncomputable def sg1h : List Nat := []
noncomputable def sg1T (P : Params) : Cells := [(30, m0 P), (29, m1 P), (28, m2 P), (27, h27 P), (26, h26 P), (25, h25 P), (24, h24 P), (23, h23 P), (22, h22 P), (21, h21 P), (20, h20 P), (19, h19 P), (18, h18 P), (17, h17 P), (16, h16 P), (15, h15 P), (14, h14 P), (13, h13 P), (12, h12 P), (11, h11 P), (10, h10 P), (9, h9 P), (8, h8 P), (7, h7 P), (6, h6 P), (5, h5 P), (4, h4 P), (3, h3 P), (2, k2 P), (1, h1 P), (0, k0 P)]
noncomputable def sg1i : List Nat := [0,1,2,3,4,5,6,7,8,9,10,11,12,13,14,15,16,17,18,19,20,21,22,23,24,25,26,27,28,29,30]
theorem sg1 (w : World) (b1 b2 : Bool) (p q : Pos) (ω : Nat → Nat) : Checks (ev (FH (wb w b1 b2)) 1000000 rootC p ((moduleCode PySem.Challenge.pw_we0033_02.main).bind fun a => .pure (.done (.ret a))) [] ⟨T0 (wb w b1 b2).params, 28, 0, 276, 0⟩ sg1h ω [] []) sg1i (.ok (.ret (.ref 30))) (sg1T (wb w b1 b2).params) 31 282 [] := by cases b1 <;> kernel_rfl
noncomputable def sg2hx0 : List Nat := [28]
noncomputable def sg2h : List Nat := sg2hx0
noncomputable def sg2T (P : Params) : Cells := [(31, m3 P), (30, m0 P), (29, m1 P), (28, m2 P), (27, h27 P), (26, h26 P), (25, h25 P), (24, h24 P), (23, h23 P), (22, h22 P), (21, h21 P), (20, h20 P), (19, h19 P), (18, h18 P), (17, h17 P), (16, h16 P), (15, h15 P), (14, h14 P), (13, h13 P), (12, h12 P), (11, h11 P), (10, h10 P), (9, h9 P), (8, h8 P), (7, h7 P), (6, h6 P), (5, h5 P), (4, h4 P), (3, h3 P), (2, k2 P), (1, h1 P), (0, k0 P)]
noncomputable def sg2i : List Nat := [0,1,2,3,4,5,6,7,8,9,10,11,12,13,14,15,16,17,18,19,20,21,22,23,24,25,26,27,28,29,30,31]
theorem sg2 (w : World) (b1 b2 : Bool) (p q : Pos) (ω : Nat → Nat) : Checks (ev (FH (wb w b1 b2)) 1000000 rootC p ((newBodyFrame (.ref 30) mainNs mainNs).bind fun a => .pure (.done (.ret (.ref a)))) [] ⟨sg1T (wb w b1 b2).params, 31, 0, 282, 0⟩ sg2h ω [] []) sg2i (.ok (.ret (.ref 31))) (sg2T (wb w b1 b2).params) 32 282 [] := by cases b1 <;> kernel_rfl
noncomputable def sg3hx0 : List Nat := [2,3,9,9,9,35,34,35,36,36,36,36,36,27,27,0,27,0,27,27,0,27,27,27,28,0,0,3,2,1,3,2,41,41,41,32,32,0,32,0,32,32,0,32,32,32,33,0,0,3,2,1,3,2,46,46,49,0,0,0,0,0,1,0,1,22,23,26,26,26,52,51,52,54,5,5,53,5,5,5,5,5,5,5,5,5,0,3,4,10,10,10,60,59,60,13,13,13,10,11,17,17,17,67,66,67,20,20,20,17,18,24,24,24,74,73,74,27,27,27,24,25,31,31,31,81,80,81,34,34,34,31,32,36,36,36,86,85,86,39,39,39,36,37,43,43,43,93,92,93,46,46,46,43,44,50,50,50,100,99,100,53,53,53,50,51,57,57,57,107,106,107,60,60,60,58,59,65,65,65,115,114,115,68,68,68,65,66,70,70,70,120,119,120,73,73,73,70,71,75]
noncomputable def sg3hx1 : List Nat := [75,75,125,124,125,78,78,78,75,76,82,82,82,132,131,132,85,85,85,82,83,89,89,89,139,138,139,92,92,92,89,90,94,94,94,144,143,144,97,97,97,94,95,101,101,101,151,150,151,104,104,104,101,102,108,108,108,158,157,158,111,111,111,108,109,115,115,115,165,164,165,118,118,118,119,119,119,0,0,0,0,121,119,121,119,119,1,1,1,1,1,2,2,2,2,2,2,2,1,1,1,1,1,1,1,2,1,1,1,1,2,3,3,3,4,4,4,4,4,4,4,4,111,104,97,90,85,78,71,64,56,51,46,39,32,27,20,13,6,5,2,1,0,0,3,0,0,1,1,0,1,0,4,4,4,1,1,1,1,1,1,1,0,1,0,1,1,1,173,4,0,0,4,4,0,1,5,5,5,5,0,5,5,0,5,0,173,173,173,173,146,147,153,153,153,179,178,179,180,180]
noncomputable def sg3hx2 : List Nat := [180,180,180,183,181,184,181,184,0,0,0,0,1,1,0,1,0,1,0,0,0,0,1,1,0,1,0,1,1,1,1,2,2,2,0,2,0,2,2,2,1,3,3,0,0,3,0,3,0,3,3,3,2,2,2,2,2,2,0,1,0,1,0,1,1,1,1,1,1,1,2,2,2,0,1,0,1,0,1,1,1,1,1,1,1,2,2,2,0,1,0,1,0,1,1,1,1,1,1,1,2,2,2,0,1,0,1,0,1,1,1,1,1,1,1,2,2,2,0,1,0,1,0,1,1,1,1,1,1,1,2,2,2,0,1,0,1,0,1,1,1,1,1,1,1,2,2,2,0,1,0,1,0,1,1,1,1,1,1,1,2,2,2,0,1,0,1,0,1,1,1,1,1,1,1,2,2,2,0,1,0,1,0,1,1,1,1,1,1,1,2,2,2,0,1,0,1,0,1,1]
noncomputable def sg3hx3 : List Nat := [1,1,1,1,1,2,2,2,0,1,0,1,0,1,1,1,1,1,1,1,2,2,2,0,1,0,1,0,1,1,1,1,1,1,1,2,2,2,0,1,0,1,0,1,1,1,1,1,1,1,2,2,2,0,1,0,1,0,1,1,1,1,1,1,1,2,2,2,0,1,0,1,0,1,1,1,1,1,1,1,2,2,2,0,1,0,1,0,1,1,1,1,1,1,1,2,2,2,0,1,0,1,0,1,1,1,1,6,4,6,0,6,0,4,6,4,0,0,0,0,1,1,0,1,1,0,1,1,2,2,2,2,2,0,2,0,1,0,1,0,1,0,1,1,3,1,1,0,0,2,2,2,0,1,0,1,0,1,1,3,1,1,0,0,2,2,2,0,1,0,1,0,1,1,3,1,1,0,0,2,2,2,0,1,0,1,0,1,1,3,1,1,0,0,2,2,2,0,1,0]
noncomputable def sg3hx4 : List Nat := [1,0,1,1,3,1,1,0,0,2,2,2,2,2,0,1,0,1,0,1,1,3,1,1,0,0,2,2,2,0,1,0,1,0,1,1,3,1,1,0,0,2,2,2,0,1,0,1,0,1,1,3,1,1,0,0,2,2,2,0,1,0,1,0,1,1,3,1,1,0,0,2,2,2,0,1,0,1,0,1,1,3,1,1,0,0,2,2,2,0,1,0,1,0,1,1,3,1,1,0,0,2,2,2,0,1,0,1,0,1,1,3,1,1,0,0,2,2,2,0,1,0,1,0,1,1,3,1,1,0,0,2,2,2,0,1,0,1,0,1,1,3,1,1,0,0,2,2,2,0,1,0,1,0,1,1,3,1,1,0,0,2,2,2,0,1,0,1,0,1,1,3,1,1,0,0,2,2,2,0,1,0,1,0,1,1,3,1,1,0,0,2,2,2,0,1,0,1,0,1]
noncomputable def sg3hx5 : List Nat := [1,3,1,1,0,0,2,2,2,0,1,0,1,0,1,1,3,1,1,0,0,2,2,2,2,2,0,1,0,1,0,1,1,3,1,1,0,0,2,2,2,0,1,0,1,0,1,1,3,1,1,0,0,2,2,2,0,1,0,1,0,1,1,3,1,1,0,0,2,2,2,0,1,0,1,0,1,1,3,1,1,0,0,2,2,2,0,1,0,1,0,1,1,3,1,1,0,0,2,2,2,0,1,0,1,0,1,1,3,1,1,0,0,2,2,2,0,1,0,1,0,1,1,3,1,1,0,0,2,2,2,0,1,0,1,0,1,1,3,1,1,0,0,2,2,2,0,1,0,1,0,1,1,3,1,1,1,191,191,164,165,171,171,171,197,196,197,198,198]
noncomputable def sg3h : List Nat := sg3hx0 ++ sg3hx1 ++ sg3hx2 ++ sg3hx3 ++ sg3hx4 ++ sg3hx5
noncomputable def sg3T (P : Params) : Cells := [(200, k200 P), (199, k199 P), (190, k190 P), (182, k182 P), (181, k181 P), (171, k171 P), (170, k170 P), (161, k161 P), (160, k160 P), (135, k135 P), (134, k134 P), (123, k123 P), (122, k122 P), (118, k118 P), (117, k117 P), (111, k111 P), (96, k96 P), (95, k95 P), (89, k89 P), (88, k88 P), (84, k84 P), (83, k83 P), (70, k70 P), (69, k69 P), (63, k63 P), (62, k62 P), (56, k56 P), (48, k48 P), (47, k47 P), (43, k43 P), (42, k42 P), (30, m0 P), (29, m4 P), (27, h27 P), (26, h26 P), (25, h25 P), (24, h24 P), (23, h23 P), (22, h22 P), (21, h21 P), (20, h20 P), (19, h19 P), (18, h18 P), (17, h17 P), (16, h16 P), (15, h15 P), (14, h14 P), (13, h13 P), (12, h12 P), (11, h11 P), (10, h10 P), (9, h9 P), (8, h8 P), (7, h7 P), (6, h6 P), (5, h5 P), (4, h4 P), (3, m5 P), (2, k2 P), (1, h1 P), (0, k0 P)]
noncomputable def sg3i : List Nat := [0,1,10,18,19,29,30,39,40,65,66,77,78,82,83,89,104,105,111,112,116,117,130,131,137,138,144,152,153,157,158,170,171,173,174,175,176,177,178,179,180,181,182,183,184,185,186,187,188,189,190,191,192,193,194,195,196,197,198,199,200]
theorem sg3 (w : World) (b1 b2 : Bool) (p q : Pos) (ω : Nat → Nat) : Checks (ev (FH (wb w b1 b2)) 1000000 (bodyC q) p (((blockStart bodyB bodyEnv).bind fun _ => execs (bodyB.take 10) bodyEnv).bind fun f => .pure (.done f)) [] ⟨sg2T (wb w b1 b2).params, 32, 0, 282, 0⟩ sg3h ω [] []) sg3i (.ok .next) (sg3T (wb w b1 b2).params) 201 589 [] := by cases b1 <;> kernel_rfl
noncomputable def TB (P : Params) : Cells := [(201, k201 P), (200, k200 P), (199, k199 P), (190, k190 P), (182, k182 P), (181, k181 P), (171, k171 P), (170, k170 P), (161, k161 P), (160, k160 P), (135, k135 P), (134, k134 P), (123, k123 P), (122, k122 P), (118, k118 P), (117, k117 P), (111, k111 P), (96, k96 P), (95, k95 P), (89, k89 P), (88, k88 P), (84, k84 P), (83, k83 P), (70, k70 P), (69, k69 P), (63, k63 P), (62, k62 P), (56, k56 P), (48, k48 P), (47, k47 P), (43, k43 P), (42, k42 P), (30, m0 P), (29, m4 P), (27, h27 P), (26, h26 P), (25, h25 P), (24, h24 P), (23, h23 P), (22, h22 P), (21, h21 P), (20, h20 P), (19, h19 P), (18, h18 P), (17, h17 P), (16, h16 P), (15, h15 P), (14, h14 P), (13, h13 P), (12, h12 P), (11, h11 P), (10, h10 P), (9, h9 P), (8, h8 P), (7, h7 P), (6, h6 P), (5, h5 P), (4, h4 P), (3, m5 P), (2, k2 P), (1, h1 P), (0, k0 P)]
noncomputable def sg5hx0 : List Nat := [59,59,33,34,40,40,40,65,64,65,66,66,66,66,40,41,45,45,45,70,69,70,71,71,45,46,50,50,50,75,74,75,76,76,50,51,57,57,57,82,81,82,83,83,57,58,64,64,64,89,88,89,90,90,64,65,69,69,69,94,93,94,95,95,69,70,74,74,74,99,98,99,100,100]
noncomputable def sg5h : List Nat := sg5hx0
noncomputable def sg5T (P : Params) : Cells := [(280, k280 P), (279, k279 P), (275, k275 P), (274, k274 P), (270, k270 P), (269, k269 P), (263, k263 P), (262, k262 P), (256, k256 P), (255, k255 P), (251, k251 P), (250, k250 P), (246, k246 P), (245, k245 P), (201, k201 P), (200, k200 P), (199, k199 P), (190, k190 P), (182, k182 P), (181, k181 P), (171, k171 P), (170, k170 P), (161, k161 P), (160, k160 P), (135, k135 P), (134, k134 P), (123, k123 P), (122, k122 P), (118, k118 P), (117, k117 P), (111, k111 P), (96, k96 P), (95, k95 P), (89, k89 P), (88, k88 P), (84, k84 P), (83, k83 P), (70, k70 P), (69, k69 P), (63, k63 P), (62, k62 P), (56, k56 P), (48, k48 P), (47, k47 P), (43, k43 P), (42, k42 P), (27, h27 P), (26, h26 P), (25, h25 P), (24, h24 P), (23, h23 P), (22, h22 P), (21, h21 P), (20, h20 P), (19, h19 P), (18, h18 P), (17, h17 P), (16, h16 P), (15, h15 P), (14, h14 P), (13, h13 P), (12, h12 P), (11, h11 P), (10, h10 P), (9, h9 P), (8, h8 P), (7, h7 P), (6, h6 P), (5, h5 P), (4, h4 P), (3, k3 P), (2, k2 P), (1, h1 P), (0, k0 P)]
noncomputable def sg5i : List Nat := [0,1,5,6,10,11,17,18,24,25,29,30,34,35,41,42,43,44,45,46,47,48,49,50,51,52,53,54,55,56,57,58,59,60,61,62,63,64,65,66,67,68,69,70,71,72,75,76,77,78,79,80,81,82,83,84,85,86,87,88,89,90,91,92,93,94,95,96,97,98,99,100,101,102]
theorem sg5 (w : World) (b1 b2 : Bool) (p q : Pos) (ω : Nat → Nat) : Checks (ev (FH (wb w b1 b2)) 1000000 (bodyC q) p (((storeName bodyEnv s185 (.ref 201)).bind fun _ => execs (bodyB.drop 11) bodyEnv).bind fun f => .pure (.done f)) [] ⟨TB (wb w b1 b2).params, 240, 0, 2539, 0⟩ sg5h ω [] []) sg5i (.ok .next) (sg5T (wb w b1 b2).params) 281 2595 [] := by cases b1 <;> kernel_rfl
end Mine.B
end
section
namespace Mine.B
open PySem PySem.W PySem.W.X
noncomputable abbrev pw : Program := PySem.Challenge.pw_we0033_02
noncomputable def os0 : OsState := (start (opening pw)).1.os
noncomputable def E0 (w : World) : World0 := ⟨model pw w, .nil, 0, heap0 w.params, List.range 28, #[], {}, os0⟩
theorem fits0 (w : World) : Fits (E0 w) (FH w) := ⟨noRule_valid _, denF_eq, fun _ h => h, rfl, rfl, rfl⟩
noncomputable def st0 (w : World) : Shared := ⟨heap0 w.params, #[], {}, 276, os0⟩
theorem rep0 (w : World) : Rep (E0 w) ⟨T0 w.params, 28, 0, 276, 0⟩ (st0 w) := by
  refine ⟨rfl, rfl, rep_cells (h := heap0 w.params) (by kernel_rfl), ?_, ?_, fun i o h => by simp [E0, KT.get] at h, fun b o e _ => e, Nat.zero_le _, Nat.le_refl _, rfl, rfl, rfl⟩
  · show ((T0 w.params).map (·.1)).Nodup
    rw [show (T0 w.params).map (·.1) = (List.range 28).reverse from rfl]
    decide
  · intro x hx
    refine ⟨Nat.zero_le _, .inl ?_⟩
    have : x.1 ∈ (T0 w.params).map (·.1) := List.mem_map_of_mem hx
    rw [show (T0 w.params).map (·.1) = (List.range 28).reverse from rfl, List.mem_reverse] at this
    exact this
noncomputable def tableData (o : Obj) : List (Int × Str) := match o.data with
  | .dict es _ => es.toList.filterMap fun e => match e.key, e.val with
    | .int i _, .str x _ => some (i, x)
    | _, _ => none
  | _ => []
noncomputable def rising : List (Int × Str) → Bool
  | a :: b :: r => decide (a.1 < b.1) && rising (b :: r)
  | _ => true
theorem rising_lt : ∀ {l : List (Int × Str)} {a : Int × Str}, rising (a :: l) = true → ∀ x ∈ l, a.1 < x.1
  | [], _, _, _, hx => nomatch hx
  | b :: l, a, h, x, hx => by
    simp only [rising, Bool.and_eq_true, decide_eq_true_eq] at h
    rcases List.mem_cons.mp hx with rfl | hx
    · exact h.1
    · exact Int.lt_trans h.1 (rising_lt h.2 x hx)
theorem rising_tail : ∀ {l : List (Int × Str)} {a : Int × Str}, rising (a :: l) = true → rising l = true
  | [], _, _ => rfl
  | _ :: _, _, h => by simp only [rising, Bool.and_eq_true] at h; exact h.2
theorem rising_nodup : ∀ {l : List (Int × Str)}, rising l = true → (l.map (·.1)).Nodup
  | [], _ => List.nodup_nil
  | a :: l, h => by
    simp only [List.map_cons, List.nodup_cons]
    refine ⟨fun hm => ?_, rising_nodup (rising_tail h)⟩
    obtain ⟨x, hx, e⟩ := List.mem_map.mp hm
    have := rising_lt h x hx
    omega
theorem b3is (P : Params) : isTable (bodyB.getD 10 (.Pass ⟨0, 0, 0, 0⟩)) = some (s185, tableData (k201 P)) := by kernel_rfl
theorem b3len (P : Params) : (tableData (k201 P)).length = 650 := by kernel_rfl
theorem b3rise (P : Params) : rising (tableData (k201 P)) = true := by kernel_rfl
theorem b3obj (P : Params) : dO (dispE (tableData (k201 P)) 38 589).toArray 650 = k201 P := by kernel_rfl
theorem bodySplit : bodyB = bodyB.take 10 ++ (bodyB.getD 10 (.Pass ⟨0, 0, 0, 0⟩) :: bodyB.drop 11) := by kernel_rfl
theorem tb_is (P : Params) : TB P = (201, k201 P) :: sg3T P := rfl
theorem nd1 : (sg1i).Nodup := by decide
theorem nd2 : (sg2i).Nodup := by decide
theorem nd3 : (sg3i).Nodup := by decide
theorem nd5 : (sg5i).Nodup := by decide
theorem mE0 (w : World) : (E0 w).M = model pw w := rfl
theorem den_bodyC (w : World) (q : Pos) : (model pw w).den (bodyC q).code = (blockStart bodyB bodyEnv).bind fun _ => ((execs bodyB bodyEnv).onRaise (leaving bodyEnv)).bind fun f => (Sem.pure (PySem.Fin.done f) : Sem PySem.Fin) := rfl
theorem b_start (w : World) (b1 b2 : Bool) (p q : Pos) {s : Shared} (D : Rep (E0 (wb w b1 b2)) ⟨sg2T (wb w b1 b2).params, 32, 0, 282, 0⟩ s) :
    Sem.wp (model pw (wb w b1 b2)) (bodyC q) ((blockStart bodyB bodyEnv).bind fun _ => execs (bodyB.take 10) bodyEnv) (fun f _ s' => f = .next ∧ Rep (E0 (wb w b1 b2)) ⟨sg3T (wb w b1 b2).params, 201, 0, 589, 0⟩ s') (fun _ _ _ => False) p s :=
  seg_ok (fits0 (wb w b1 b2)) (mE0 _) (f := fun f => f) (fun ω => sg3 w b1 b2 p q ω) nd3 D
theorem b_end (w : World) (b1 b2 : Bool) (p q : Pos) {s : Shared} (D : Rep (E0 (wb w b1 b2)) ⟨TB (wb w b1 b2).params, 240, 0, 2539, 0⟩ s) :
    Sem.wp (model pw (wb w b1 b2)) (bodyC q) ((storeName bodyEnv s185 (.ref 201)).bind fun _ => execs (bodyB.drop 11) bodyEnv) (fun f _ s' => f = .next ∧ Rep (E0 (wb w b1 b2)) ⟨sg5T (wb w b1 b2).params, 281, 0, 2595, 0⟩ s') (fun _ _ _ => False) p s :=
  seg_ok (fits0 (wb w b1 b2)) (mE0 _) (f := fun f => f) (fun ω => sg5 w b1 b2 p q ω) nd5 D
theorem body_ran (w : World) (b1 b2 : Bool) (p q : Pos) {s : Shared} (D : Rep (E0 (wb w b1 b2)) ⟨sg2T (wb w b1 b2).params, 32, 0, 282, 0⟩ s) :
    wpCode (model pw (wb w b1 b2)) (bodyC q) (fun r s' => r = .ok .next ∧ Rep (E0 (wb w b1 b2)) ⟨sg5T (wb w b1 b2).params, 281, 0, 2595, 0⟩ s') p s :=
  body_gen (pw := pw) (w := wb w b1 b2) (E := E0 (wb w b1 b2)) (Γ := bodyC q) (env := bodyEnv) (B := bodyB) (m := 10) (st := bodyB.getD 10 (.Pass ⟨0, 0, 0, 0⟩)) (nm := s185) (data := tableData (k201 (wb w b1 b2).params)) (c0 := 38) (n := 650) (N := 201) (t := 589) (o := k201 (wb w b1 b2).params) (S2 := ⟨sg2T (wb w b1 b2).params, 32, 0, 282, 0⟩) (T3 := sg3T (wb w b1 b2).params) (T5 := sg5T (wb w b1 b2).params) (TB := TB (wb w b1 b2).params) (N4 := 240) (t4 := 2539) (N5 := 281) (t5 := 2595)
    (den_bodyC _ q) bodySplit (b3is _) (b3len _) (rising_nodup (b3rise _)) rfl (by decide) (by decide) (by decide) (b3obj _) (tb_is _) rfl rfl (fun p s D => b_start w b1 b2 p q D) (fun p s D => b_end w b1 b2 p q D) p s D
theorem envIs : ({ scope := pw.main.scope, locals := mainNs, globals := mainNs, cells := [], code := .ref 30, frame := some 31 } : Env) = bodyEnv := rfl
theorem bodyIs : behindTheImports pw = bodyB := rfl
theorem enterIs (q : Pos) : rootC.enter (.body bodyB bodyEnv) none q = bodyC q := rfl
theorem t_1 (w : World) (b1 b2 : Bool) (p : Pos) {s : Shared} (D : Rep (E0 (wb w b1 b2)) ⟨T0 (wb w b1 b2).params, 28, 0, 276, 0⟩ s) :
    Sem.wp (model pw (wb w b1 b2)) rootC (moduleCode pw.main) (fun a _ s' => Flow.ret a = .ret (.ref 30) ∧ Rep (E0 (wb w b1 b2)) ⟨sg1T (wb w b1 b2).params, 31, 0, 282, 0⟩ s') (fun _ _ _ => False) p s :=
  seg_ok (fits0 (wb w b1 b2)) (mE0 _) (f := fun a => Flow.ret a) (fun ω => sg1 w b1 b2 p p ω) nd1 D
theorem t_2 (w : World) (b1 b2 : Bool) (p : Pos) {s : Shared} (D : Rep (E0 (wb w b1 b2)) ⟨sg1T (wb w b1 b2).params, 31, 0, 282, 0⟩ s) :
    Sem.wp (model pw (wb w b1 b2)) rootC (newBodyFrame (.ref 30) mainNs mainNs) (fun a _ s' => Flow.ret (.ref a) = .ret (.ref 31) ∧ Rep (E0 (wb w b1 b2)) ⟨sg2T (wb w b1 b2).params, 32, 0, 282, 0⟩ s') (fun _ _ _ => False) p s :=
  seg_ok (fits0 (wb w b1 b2)) (mE0 _) (f := fun a => Flow.ret (.ref a)) (fun ω => sg2 w b1 b2 p p ω) nd2 D
theorem top_wpb (w : World) (b1 b2 : Bool) (p : Pos) : Sem.wp (model pw (wb w b1 b2)) rootC (topStub pw).cur (Sem.finPost (model pw (wb w b1 b2)) rootC fun r s' => (∃ f, r = .ok f) ∧ Rep (E0 (wb w b1 b2)) ⟨sg5T (wb w b1 b2).params, 281, 0, 2595, 0⟩ s' ∧ s'.gens = #[]) (fun _ _ _ => False) p (st0 (wb w b1 b2)) :=
  top_gen (pw := pw) (w := wb w b1 b2) (E := E0 (wb w b1 b2)) (Γ := rootC) (env := bodyEnv) (B := bodyB) (c := 30) (f := 31) (S0 := ⟨T0 (wb w b1 b2).params, 28, 0, 276, 0⟩) (S1 := ⟨sg1T (wb w b1 b2).params, 31, 0, 282, 0⟩) (S2 := ⟨sg2T (wb w b1 b2).params, 32, 0, 282, 0⟩) (S5 := ⟨sg5T (wb w b1 b2).params, 281, 0, 2595, 0⟩)
    envIs bodyIs (fun p s D => t_1 w b1 b2 p D) (fun p s D => t_2 w b1 b2 p D) (fun p q s D => enterIs q ▸ body_ran w b1 b2 p q D) rfl p _ (rep0 (wb w b1 b2))
theorem top_wp (w : World) (p : Pos) : Sem.wp (model pw w) rootC (topStub pw).cur (Sem.finPost (model pw w) rootC fun r s' => (∃ f, r = .ok f) ∧ Rep (E0 w) ⟨sg5T w.params, 281, 0, 2595, 0⟩ s' ∧ s'.gens = #[]) (fun _ _ _ => False) p (st0 w) := by
  obtain ⟨b1, b2, e⟩ := wb_self w
  rw [← e]
  exact top_wpb w b1 b2 p
end Mine.B
end
section
namespace Mine.B
open PySem PySem.W PySem.W.X
theorem fenced (w : World) : (importEnds treeTable (opening PySem.Challenge.pw_we0033_02) w 2000 (start (opening PySem.Challenge.pw_we0033_02)).1 (start (opening PySem.Challenge.pw_we0033_02)).2).bind (fenceModules? PySem.Challenge.pw_we0033_02) = some ⟨heap0 w.params, #[], {}, 276, (start (opening PySem.Challenge.pw_we0033_02)).1.os⟩ := by kernel_rfl
end Mine.B
end
section
namespace Mine.B
open PySem PySem.W PySem.W.X
noncomputable def LC (P : Params) : Cells := [(27, h27 P), (26, h26 P), (25, h25 P), (24, h24 P), (23, h23 P), (22, h22 P), (21, h21 P), (20, h20 P), (19, h19 P), (18, h18 P), (17, h17 P), (16, h16 P), (15, h15 P), (14, h14 P), (13, h13 P), (12, h12 P), (11, h11 P), (10, h10 P), (9, h9 P), (8, h8 P), (7, h7 P), (6, h6 P), (5, h5 P), (4, h4 P), (3, k3 P), (2, k2 P), (1, h1 P), (0, k0 P)]
theorem lc_is (P : Params) : (sg5T P).drop 46 = LC P := rfl
noncomputable def heapE (P : Params) : Heap := ⟨⟨[k0 P, h1 P, k2 P, k3 P, h4 P, h5 P, h6 P, h7 P, h8 P, h9 P, h10 P, h11 P, h12 P, h13 P, h14 P, h15 P, h16 P, h17 P, h18 P, h19 P, h20 P, h21 P, h22 P, h23 P, h24 P, h25 P, h26 P, h27 P]⟩, {}⟩
theorem lc_get (P : Params) : (LC P).map (fun x => (heapE P).get? x.1) = (LC P).map fun x => some x.2 := by kernel_rfl
theorem lc_keys (P : Params) : (LC P).map (·.1) = (List.range 28).reverse := by kernel_rfl
theorem top_same (P : Params) : (((List.range 28).filter fun b => b != 2 && b != 3).map fun b => (heapE P).get? b) = ((List.range 28).filter fun b => b != 2 && b != 3).map fun b => (heap0 P).get? b := by kernel_rfl
noncomputable abbrev Good (w : World) (s : Shared) : Prop := Rep (E0 w) ⟨sg5T w.params, 281, 0, 2595, 0⟩ s
theorem agree {w : World} {s : Shared} (D : Good w s) {a : Nat} (ha : a < 28) : s.heap.get? a = (heapE w.params).get? a := by
  have hm : a ∈ (LC w.params).map (·.1) := by
    rw [lc_keys, List.mem_reverse]
    exact List.mem_range.mpr ha
  obtain ⟨x, hx, rfl⟩ := List.mem_map.mp hm
  rw [rep_cells (lc_get w.params) x hx]
  exact D.cell x (List.mem_of_mem_drop (lc_is w.params ▸ hx))
theorem top_kept {w : World} {s : Shared} (D : Good w s) : ∀ b o, (heap0 w.params).get? b = some o → b ≠ mainNs → b ≠ cStatics → s.heap.get? b = some o := by
  intro b o e h3 h2
  have hb : b < 28 := Heap.lt_size e
  rw [agree D hb, ← e]
  have hm : b ∈ (List.range 28).filter fun b => b != 2 && b != 3 := by
    simp only [List.mem_filter, List.mem_range, Bool.and_eq_true, bne_iff_ne, ne_eq]
    exact ⟨hb, h2, h3⟩
  exact List.map_inj_left.mp (top_same w.params) b hm
theorem looks (P : Params) : (staticsOk (importedModules pw.main.body) (heap0 P) (heapE P) && (heapE P).accountedOkI (importedModules pw.main.body) && (heapE P).isNs mainNs && (heapE P).isNs builtinsNs && namesBound pw (heapE P) && laidKept (heap0 P) (heapE P) && bmAt (heapE P) 4 && bmIs (heapE P) 4) = true := by kernel_rfl
theorem looksB (P : Params) : (heapE P).bltView = bltViewBooted := by kernel_rfl
theorem mainM (P : Params) : (heapE P).nsMap mainNs "law" = some (.ref 280) := by kernel_rfl
theorem mainB (P : Params) : (heapE P).isNs mainNs = true := by kernel_rfl
theorem mainNs_of {w : World} {s : Shared} (D : Good w s) : ∃ m, s.heap.Ns mainNs m ∧ m "law" = some (.ref 280) :=
  ⟨_, .of_isNs ((isNs_eq (agree D (a := mainNs) (by decide))).trans (mainB w.params)), (congrFun (nsMap_eq (agree D (a := mainNs) (by decide))) _).trans (mainM w.params)⟩
theorem law_def (P : Params) : ∃ fd args body scope, (k280 P).data = .func fd ∧ pw.theDef "law" = some (args, body, scope) ∧ fd.name = "law" ∧ fd.qualname = "law" ∧ fd.params = args ∧ fd.body = .stmts body ∧ fd.scope = scope ∧ fd.globals = mainNs ∧ fd.closure = [] ∧ fd.builtins = builtinsNs ∧ args.defaults = [] ∧ fd.defaults = .none ∧ kwWritten? args.kwonlyargs args.kw_defaults = some [] ∧ fd.kwdefaults = .none := by
  refine ⟨_, _, _, _, rfl, ?_, rfl, rfl, rfl, rfl, rfl, rfl, rfl, rfl, rfl, rfl, rfl, rfl⟩
  kernel_rfl
theorem law_mem (P : Params) : (280, k280 P) ∈ sg5T P := by
  have e : gt (sg5T P) 0 = some (280, k280 P) := rfl
  exact gt_mem e
theorem law_is {w : World} {s : Shared} (D : Good w s) : isTheDefsW pw s.heap "law" := by
  obtain ⟨fd, args, body, scope, h1, h2, h3, h4, h5, h6, h7, h8, h9, h10, h11, h12, h13, h14⟩ := law_def w.params
  obtain ⟨m, hN, hm⟩ := mainNs_of D
  have hg : globalOf s.heap "law" = some (.ref 280) := by
    have hi := (isNs_eq (agree D (a := mainNs) (by decide))).trans (mainB w.params)
    rw [Pin.globalOf_eq hi]
    exact (congrFun (nsMap_eq (agree D (a := mainNs) (by decide))) _).trans (mainM w.params)
  exact ⟨280, _, fd, args, body, scope, hg, D.cell _ (law_mem _), h1, h2, h3, h4, h5, h6, h7, h8, h9, h10, .inl ⟨h11, h12⟩, [], h13, .inl ⟨rfl, h14⟩⟩
theorem st_asleep (w : World) : (st0 w).asleep := by first | exact ⟨rfl, rfl⟩ | exact ⟨rfl, rfl, rfl⟩ | (show _ = _; rfl) | (intro x; simp [st0, heap0])
theorem ran_top (w : World) : ∃ s, TopRan pw w (st0 w) s ∧ s.heap.life = (st0 w).heap.life ∧ s.gens = #[] ∧ Good w s := by
  have hz : (st0 w).asleep := st_asleep w
  obtain ⟨n, s₁, t₁, hs, ht, hR, hg, hl⟩ := top_sched (M := model pw w) (R := Good w) hz (top_wp w default)
  exact ⟨s₁, topRan_gen ⟨n, t₁, hs, ht⟩ hl hR.os hg (top_kept hR) (agree hR (by decide)) (agree hR (by decide)) (agree hR (by decide)) (agree hR (by decide)) (looks w.params) (looksB w.params), hl, hg, hR⟩
theorem behind (w : World) : (∃ s, AfterRun (opening pw) w s) ∧ ∀ s, AfterRun (opening pw) w s → ∃ s₀, fenceModules? pw s = some s₀ ∧ s₀.gens = #[] ∧
    ∃ s₁, TopRan pw w s₀ s₁ ∧ s₁.asleep ∧ s₁.gens = #[] ∧ isTheDefsW pw s₁.heap "law" ∧ Good w s₁ := by
  have h := fenced w
  rw [← table_eq_tree] at h
  obtain ⟨s, h1, h2⟩ := Option.bind_eq_some_iff.mp h
  have A := AfterImport.of_importEnds h1
  refine ⟨⟨s, A⟩, fun s' hs' => ?_⟩
  obtain rfl : s' = s := AfterImport.unique hs' A
  obtain ⟨s₁, hT, hl, hg, hG⟩ := ran_top w
  exact ⟨st0 w, h2, rfl, s₁, hT, Shared.asleep_of_life hl (st_asleep w), hg, law_is hG, hG⟩
end Mine.B
end
section
namespace Mine.B
open PySem PySem.W PySem.W.X
noncomputable abbrev rw := PySem.Challenge.rw_we0033_02
theorem bare : pw.bare := ⟨rfl, rfl, rfl, rfl, rfl, by decide +kernel⟩
theorem opensW : opensWell pw = true := by decide +kernel
theorem prom : rw.row.toRowW.promised := ⟨[.list []], by decide +kernel, by decide +kernel⟩
theorem rwMost : rw.most = some 63 := rfl
theorem rwWr : rw.writes = false := rfl
noncomputable abbrev Walk : Prop := ∀ w s ns, Good w s → ns.length ≤ 63 →
      Sem.wp (model pw w) rootK (PySem.call (.ref 280) [.ref s.heap.objs.size]) (fun v _ s' => v = .bool true ∧ (∀ b o, (withScript s ns).heap.get? b = some o → s'.heap.get? b = some o) ∧ s'.os = s.os ∧ s'.gens = #[]) (fun _ _ _ => False) default (withScript s ns)
theorem open_by (walk : Walk) : rw.row.toRowW.claim.HoldsOpenBy (callStub rw.row.toRowW.name) (if rw.row.pinned then [rw.row.toRowW.name] else []) rw.row.keeps rw.row.writes :=
  holds_gen (l := rw) (law := 280) (Good := Good) bare opensW prom rwWr behind (fun w s G => mainNs_of G) (fun w s ns G h => walk w s ns G (h 63 rwMost))
theorem wellSaid : rw.wellSaid = true := by kernel_rfl
theorem holds_of_walk (walk : Walk) : rw.Holds := PySem.W.holds_law wellSaid fun said => ⟨said, prom, open_by walk⟩
end Mine.B
end
section
namespace Mine.B
open PySem PySem.W PySem.W.X
noncomputable abbrev pw2 : Program := PySem.Challenge.pw_we0033_02
noncomputable def FW (w : World) (kl : Cells) (rules : Nat → Rule) : R.Fixed := ⟨R.den2, Code.quiet, pw2, w.params, kt w.params, kl, rules⟩
structure EOk (w : World) (E : R.World0) : Prop where
  M : E.M = model pw2 w
  kt : E.kt = kt w.params
  t0 : E.t0 = 2595
theorem fitsW {w : World} {E : R.World0} (h : EOk w E) {B : Nat} (hB : B ≤ 990) {kl : Cells} (hk : kl = E.K) {rules : Nat → Rule} (hr : ∀ r, R.Valid E B (rules r)) : R.Fits E (FW w kl rules) B :=
  ⟨hr, R.den2_ok h.M hB, fun _ h => h, by rw [h.M]; rfl, by rw [h.M]; rfl, h.kt.symm, hk⟩
end Mine.B
end
section
namespace Mine.R
open PySem PySem.W PySem.W.X
end Mine.R
end
section
namespace Mine.R
open PySem PySem.W PySem.W.X
theorem below_any (Γ : Ctx) : Γ.Below { handled := Γ.handled, depth := frameCount Γ.below, frames := none, guards := none, units := unitsOf Γ.below } :=
  ⟨rfl, Nat.le_refl _, fun _ h => (nomatch h), fun _ h => (nomatch h), Nat.le_refl _⟩
theorem leaf_of_gives {prog : Program} {w : World} {id : String} {args : Args} {b : Builtin} {made : Made} (hb : entryFor table id = some b) (hp : plainId id = true) (hg : Gives (b args) made)
    {Γ : Ctx} {p : Pos} {s : Shared} {R : Result → Shared → Prop} (hc : Γ.code = .builtin id args) (h : made.post (fun v s' => R (.ok (.ret v)) s') s) : wpCode (model prog w) Γ R p s :=
  codeAny_builtin (A := { handled := Γ.handled, depth := frameCount Γ.below, frames := none, guards := none, units := unitsOf Γ.below }) hb (by rw [Around.under_plainId hp _]; exact hg prog w _ R s h) Γ p hc (below_any Γ)
noncomputable def LeafCall (M : Model) (c : Code) (v : Nat → Value) (d : Nat) : Prop :=
  ∀ {Γ : Ctx} {p : Pos} {s : Shared}, Γ.code = c → wpCode M Γ (fun r s' => r = .ok (.ret (v s.toks)) ∧ s' = { s with toks := s.toks + d }) p s
noncomputable def leafRule (sel : Code → List Nat → Option ((Nat → Value) × Nat × List Nat × Prop)) : Rule := fun _ c S hs ω acc cs => match sel c hs with
  | none => none
  | some (v, d, rest, q) => some ⟨.ok (.ret (v (S.tb + S.ti))), ⟨S.T, S.b, S.j, S.tb, S.ti + d⟩, rest, shift ω, acc, q :: cs⟩
theorem leafRule_valid {E : World0} {B : Nat} {sel : Code → List Nat → Option ((Nat → Value) × Nat × List Nat × Prop)} (h : ∀ c hs v d rest q, sel c hs = some (v, d, rest, q) → q → LeafCall E.M c v d) : Valid E B (leafRule sel) := by
  refine ⟨fun {Γ c S hs ω acc cs o} e => ?_, fun {Γ c S hs acc cs p s} hc _ D hh => ?_⟩
  · unfold leafRule at e
    split at e
    · cases e
    · cases e
      exact ⟨fun _ x => x, fun _ x => .tail _ x⟩
  · obtain ⟨o, e, hH⟩ := hh fun _ => 0
    unfold leafRule at e
    split at e
    · cases e
    · rename_i v d rest q hs'
      cases e
      have hq : q := hH.2 q (.head _)
      refine wpCode_mono ?_ (h c hs v d rest q hs' hq hc (p := p) (s := s))
      rintro r s' ⟨rfl, rfl⟩
      refine ⟨fun _ => 0, ⟨.ok (.ret (v (S.tb + S.ti))), ⟨S.T, S.b, S.j, S.tb, S.ti + d⟩, rest, fun _ => 0, acc, q :: cs⟩, fun ω => ?_, ?_, ?_⟩
      · unfold leafRule
        rw [hs', shift_mix]
      · show Except.ok (Flow.ret (v (S.tb + S.ti))) = _
        rw [D.toks]
      · exact ⟨D.size, by show s.toks + d = S.tb + (S.ti + d); rw [D.toks]; omega, D.cell, D.nodup, D.own, D.known, D.keep, D.low, D.old, D.gens, D.drawn, D.os, D.froz, Nat.le_trans D.told (by show S.tb + S.ti ≤ S.tb + (S.ti + d); omega)⟩
end Mine.R
end
section
namespace Mine.R
open PySem PySem.W PySem.W.X
noncomputable def selCmp (id : String) (rel : Int → Int → Prop) : Code → List Nat → Option ((Nat → Value) × Nat × List Nat × Prop)
  | .builtin i ⟨[.int a _, .int b _], []⟩, h :: hs => match i == id with
    | true => match h with
      | 0 => some (fun _ => .bool false, 0, hs, ¬ rel a b)
      | _ => some (fun _ => .bool true, 0, hs, rel a b)
    | false => none
  | _, _ => none
theorem selCmp_ok {prog : Program} {w : World} {id : String} {rel : Int → Int → Prop} {f : Int → Int → Bool} {b : Builtin} (hb : entryFor table id = some b) (hp : plainId id = true)
    (hg : ∀ x t y u, Gives (b ⟨[.int x t, .int y u], []⟩) (.val (.bool (f x y)))) (hf : ∀ x y, f x y = true ↔ rel x y) :
    ∀ c hs v d rest q, selCmp id rel c hs = some (v, d, rest, q) → q → LeafCall (model prog w) c v d := by
  intro c hs v d rest q h hq
  unfold selCmp at h
  split at h
  · rename_i i a t b' u hh hs'
    split at h
    · rename_i hi
      obtain rfl : i = id := beq_iff_eq.mp hi
      split at h
      · simp only [Option.some.injEq, Prod.mk.injEq] at h
        obtain ⟨rfl, rfl, rfl, rfl⟩ := h
        intro Γ p s hc
        refine leaf_of_gives hb hp (hg a t b' u) hc ?_
        have e : f a b' = false := by
          cases q : f a b' with
          | false => rfl
          | true => exact absurd ((hf a b').mp q) hq
        show _ ∧ _
        exact ⟨by rw [e], rfl⟩
      · simp only [Option.some.injEq, Prod.mk.injEq] at h
        obtain ⟨rfl, rfl, rfl, rfl⟩ := h
        intro Γ p s hc
        refine leaf_of_gives hb hp (hg a t b' u) hc ?_
        show _ ∧ _
        exact ⟨by rw [(hf a b').mpr hq], rfl⟩
    · cases h
  · cases h
theorem e_lt : entryFor table "int.__lt__" = some Builtin.«int.__lt__» := entryFor_of_tree (by kernel_rfl)
theorem e_le : entryFor table "int.__le__" = some Builtin.«int.__le__» := entryFor_of_tree (by kernel_rfl)
theorem e_gt : entryFor table "int.__gt__" = some Builtin.«int.__gt__» := entryFor_of_tree (by kernel_rfl)
theorem e_eq : entryFor table "int.__eq__" = some Builtin.«int.__eq__» := entryFor_of_tree (by kernel_rfl)
end Mine.R
end
section
namespace Mine.R
open PySem PySem.W PySem.W.X
noncomputable def selMod : Code → List Nat → Option ((Nat → Value) × Nat × List Nat × Prop)
  | .builtin i ⟨[.int a _, .int b _], []⟩, h :: hs => match i == "int.__mod__" with
    | true => some (fun t => .int (Int.ofNat h) t, 1, hs, (b == 0) = false ∧ a.fmod b = Int.ofNat h)
    | false => none
  | _, _ => none
theorem selMod_ok {prog : Program} {w : World} : ∀ c hs v d rest q, selMod c hs = some (v, d, rest, q) → q → LeafCall (model prog w) c v d := by
  intro c hs v d rest q h hq
  unfold selMod at h
  split at h
  · rename_i i a t b' u hh hs'
    split at h
    · rename_i hi
      obtain rfl : i = "int.__mod__" := beq_iff_eq.mp hi
      simp only [Option.some.injEq, Prod.mk.injEq] at h
      obtain ⟨rfl, rfl, rfl, rfl⟩ := h
      intro Γ p s hc
      refine leaf_of_gives (b := Builtin.«int.__mod__») (entryFor_of_tree (by kernel_rfl)) (by decide +kernel) (PySem.AutoIntG6.int___mod___int_int_1 a t b' u (by rw [hq.1]; exact Bool.false_ne_true)) hc ?_
      show _ ∧ _
      exact ⟨by rw [hq.2], rfl⟩
    · cases h
  · cases h
end Mine.R
end
section
namespace Mine.R
open PySem PySem.W PySem.W.X
theorem g_str_eq (a : Str) (t : Tok) (b : Str) (u : Tok) : Gives (Builtin.«str.__eq__» ⟨[.str a t, .str b u], []⟩) (.val (.bool (a.cps.toList == b.cps.toList))) :=
  .of_wp fun M A E s Q h => by obtain ⟨hp, g, d, tk, os⟩ := s; wp_walk; exact ⟨_, rfl, h⟩
theorem g_str_ne (a : Str) (t : Tok) (b : Str) (u : Tok) : Gives (Builtin.«str.__ne__» ⟨[.str a t, .str b u], []⟩) (.val (.bool (a.cps.toList != b.cps.toList))) :=
  .of_wp fun M A E s Q h => by obtain ⟨hp, g, d, tk, os⟩ := s; wp_walk; exact ⟨_, rfl, h⟩
noncomputable def selStr (id : String) (pos : Bool) : Code → List Nat → Option ((Nat → Value) × Nat × List Nat × Prop)
  | .builtin i ⟨[.str a _, .str b _], []⟩, h :: hs => match i == id with
    | true => match h with
      | 0 => some (fun _ => .bool (!pos), 0, hs, a ≠ b)
      | _ => some (fun _ => .bool pos, 0, hs, a = b)
    | false => none
  | _, _ => none
theorem str_cps {a b : Str} : (a.cps.toList == b.cps.toList) = true ↔ a = b := by
  obtain ⟨⟨a⟩⟩ := a
  obtain ⟨⟨b⟩⟩ := b
  simp
theorem selStr_ok {prog : Program} {w : World} {id : String} {pos : Bool} {b : Builtin} (hb : entryFor table id = some b) (hp : plainId id = true)
    (hg : ∀ x t y u, Gives (b ⟨[.str x t, .str y u], []⟩) (.val (.bool ((x.cps.toList == y.cps.toList) == pos)))) :
    ∀ c hs v d rest q, selStr id pos c hs = some (v, d, rest, q) → q → LeafCall (model prog w) c v d := by
  intro c hs v d rest q h hq
  unfold selStr at h
  split at h
  · rename_i i a t b' u hh hs'
    split at h
    · rename_i hi
      obtain rfl : i = id := beq_iff_eq.mp hi
      split at h
      · simp only [Option.some.injEq, Prod.mk.injEq] at h
        obtain ⟨rfl, rfl, rfl, rfl⟩ := h
        intro Γ p s hc
        refine leaf_of_gives hb hp (hg a t b' u) hc ?_
        have e : (a.cps.toList == b'.cps.toList) = false := by
          cases q : (a.cps.toList == b'.cps.toList) with
          | false => rfl
          | true => exact absurd (str_cps.mp q) hq
        show _ ∧ _
        exact ⟨by rw [e]; cases pos <;> rfl, rfl⟩
      · simp only [Option.some.injEq, Prod.mk.injEq] at h
        obtain ⟨rfl, rfl, rfl, rfl⟩ := h
        intro Γ p s hc
        refine leaf_of_gives hb hp (hg a t b' u) hc ?_
        show _ ∧ _
        exact ⟨by rw [str_cps.mpr hq]; cases pos <;> rfl, rfl⟩
    · cases h
  · cases h
end Mine.R
end
section
namespace Mine.R
open PySem PySem.W PySem.W.X
structure Ans where
  v : Value
  S : SS
  rest : List Nat
  ob : List (V × V)
  q : Prop
noncomputable def exactRule (sel : Code → SS → List Nat → Option Ans) : Rule := fun Γ c S hs ω acc cs => match Γ.handled with
  | some _ => none
  | none => match Γ.own with
    | some _ => none
    | none => match sel c S hs with
      | none => none
      | some x => some ⟨.ok (.ret x.v), x.S, x.rest, shift ω, x.ob ++ acc, x.q :: cs⟩
theorem exactRule_valid {E : World0} {B : Nat} {sel : Code → SS → List Nat → Option Ans}
    (h : ∀ {Γ : Ctx} {c S hs x p s}, sel c S hs = some x → (∀ y ∈ x.ob, y.1 = y.2) → x.q → Γ.code = c → Γ.handled = none → Γ.own = none → loadOf Γ.below ≤ B → Rep E S s →
      wpCode E.M Γ (fun r s' => r = .ok (.ret x.v) ∧ Rep E x.S s') p s) : Valid E B (exactRule sel) := by
  refine ⟨fun {Γ c S hs ω acc cs o} e => ?_, fun {Γ c S hs acc cs p s} hc hf D hh => ?_⟩
  · unfold exactRule at e
    split at e
    · cases e
    · split at e
      · cases e
      · split at e
        · cases e
        · cases e
          exact ⟨fun _ x => List.mem_append_right _ x, fun _ x => .tail _ x⟩
  · obtain ⟨o, e, hH⟩ := hh fun _ => 0
    unfold exactRule at e
    split at e
    · cases e
    · rename_i h1
      split at e
      · cases e
      · rename_i h2
        split at e
        · cases e
        · rename_i x hs'
          cases e
          refine wpCode_mono ?_ (h hs' (fun y hy => hH.1 y (List.mem_append_left _ hy)) (hH.2 _ (.head _)) hc h1 h2 hf D (p := p))
          rintro r s' ⟨rfl, D'⟩
          refine ⟨fun _ => 0, ⟨.ok (.ret x.v), x.S, x.rest, fun _ => 0, x.ob ++ acc, x.q :: cs⟩, fun ω => ?_, rfl, D'⟩
          unfold exactRule
          rw [h1, h2, hs', shift_mix]
noncomputable def rd (kl : Cells) (S : SS) : Nat → Option (Nat × Obj)
  | 0 => none
  | i + 1 => match Nat.ble 100000 i with
    | true => gt kl (i - 100000)
    | false => gt S.T i
theorem rd_at {E : World0} {S : SS} {s : Shared} (D : Rep E S s) {kl : Cells} (hk : kl = E.K) {i : Nat} {x : Nat × Obj} (h : rd kl S i = some x) : s.heap.get? x.1 = some x.2 := by
  unfold rd at h
  split at h
  · cases h
  · split at h
    · exact (D.froz x (hk ▸ gt_mem h)).1
    · exact D.cell x (gt_mem h)
theorem leaf_of_meets {prog : Program} {w : World} {id : String} {args : Args} {b : Builtin} {Z : Spec} (hb : entryFor table id = some b) (hp : plainId id = true) (hg : Meets (b args) Z)
    {Γ : Ctx} {p : Pos} {s : Shared} {R : Result → Shared → Prop} (hc : Γ.code = .builtin id args) (h : Z { handled := Γ.handled, depth := frameCount Γ.below, frames := none, guards := none, units := unitsOf Γ.below } R s) : wpCode (model prog w) Γ R p s :=
  codeAny_builtin (A := { handled := Γ.handled, depth := frameCount Γ.below, frames := none, guards := none, units := unitsOf Γ.below }) hb (by rw [Around.under_plainId hp _]; exact hg prog w _ R s h) Γ p hc (below_any Γ)
noncomputable def listR (as : List Nat) (n : Nat) : Obj := { cls := .type "list", data := .seq (as.map Value.ref).toArray n }
noncomputable def tupO (x : Int) (t : Nat) (y : Int) (u : Nat) : Obj := { cls := .type "tuple", data := .seq #[.int x t, .int y u] }
noncomputable def plainItems (o : Obj) : Option (Array Value × Nat) := match o with
  | ⟨.type c, none, .seq xs n, sl⟩ => match c == "list" && sl.isEmpty with
    | true => some (xs, n)
    | false => none
  | _ => none
theorem plainItems_ok {o : Obj} {xs : Array Value} {n : Nat} (h : plainItems o = some (xs, n)) : o = { cls := .type "list", dict := none, data := .seq xs n, slots := #[] } := by
  unfold plainItems at h
  split at h
  · split at h
    · rename_i c xs' n' sl hc
      simp only [Option.some.injEq, Prod.mk.injEq] at h
      obtain ⟨rfl, rfl⟩ := h
      obtain ⟨h1, h2⟩ := Bool.and_eq_true_iff.mp hc
      rw [beq_iff_eq.mp h1, Array.isEmpty_iff.mp h2]
    · cases h
  · cases h
noncomputable def intsOf : List Value → Option (List Int)
  | [] => some []
  | .int i _ :: r => match intsOf r with
    | some l => some (i :: l)
    | none => none
  | _ => none
theorem intsOf_ok : ∀ {vs : List Value} {l : List Int}, intsOf vs = some l → vs.length = l.length ∧ ∀ j (h1 : j < vs.length) (h2 : j < l.length), ∃ t, vs[j] = .int l[j] t
  | [], l, h => by simp only [intsOf, Option.some.injEq] at h; subst h; exact ⟨rfl, fun _ h => absurd h (Nat.not_lt_zero _)⟩
  | v :: r, l, h => by
    cases v with
    | int i t =>
      simp only [intsOf] at h
      cases hr : intsOf r with
      | none => rw [hr] at h; cases h
      | some l' =>
        rw [hr] at h
        simp only [Option.some.injEq] at h
        subst h
        obtain ⟨e, g⟩ := intsOf_ok hr
        refine ⟨by simp [e], fun j h1 h2 => ?_⟩
        cases j with
        | zero => exact ⟨t, rfl⟩
        | succ j => exact g j (Nat.lt_of_succ_lt_succ h1) (Nat.lt_of_succ_lt_succ h2)
    | _ => simp [intsOf] at h
noncomputable def IdxL (l : List Int) (x : Int) (j : Nat) : Prop := j < 1000 ∧ l[j]? = some x ∧ ∀ m, m < j → l[m]? ≠ some x
noncomputable def selIndex (kl : Cells) : Code → SS → List Nat → Option Ans
  | .builtin i ⟨[.ref a, .int x _], []⟩, S, h :: j :: hs => match i == "list.index" with
    | true => match rd kl S h with
      | some y => match plainItems y.2 with
        | some p => match intsOf p.1.toList with
          | some l => some ⟨.int (Int.ofNat j) (S.tb + S.ti), ⟨S.T, S.b, S.j, S.tb, S.ti + 1⟩, hs, [(.n a, .n y.1)], IdxL l x j⟩
          | none => none
        | none => none
      | none => none
    | false => none
  | _, _, _ => none
theorem selIndex_valid {E : World0} {prog : Program} {w : World} (hM : E.M = model prog w) {B : Nat} {kl : Cells} (hk : kl = E.K) : Valid E B (exactRule (selIndex kl)) := by
  refine exactRule_valid fun {Γ c S hs x p s} h hob hq hc h1 h2 hf D => ?_
  unfold selIndex at h
  split at h
  · rename_i i a z t h' j hs'
    split at h
    · rename_i hi
      obtain rfl : i = "list.index" := beq_iff_eq.mp hi
      split at h
      · rename_i y hy
        split at h
        · rename_i pr hp
          split at h
          · rename_i l hl
            cases h
            have ea := hob _ (.head _)
            simp only [V.n.injEq] at ea
            obtain ⟨hj0, hj, hno⟩ := hq
            obtain ⟨xs, n⟩ := pr
            have hcell := rd_at D hk hy
            rw [plainItems_ok hp, ← ea] at hcell
            obtain ⟨el, gl⟩ := intsOf_ok hl
            have hlen : j < l.length := by
              rcases Nat.lt_or_ge j l.length with q | q
              · exact q
              · rw [List.getElem?_eq_none q] at hj; cases hj
            have hjv : l[j] = z := by rw [List.getElem?_eq_getElem hlen] at hj; exact Option.some.inj hj
            have sz : xs.size = l.length := by rw [← el]; simp
            have at' : ∀ m (hm : m < xs.size) (hm' : m < l.length), ∃ t, xs[m] = .int l[m] t := fun m hm hm' => by
              obtain ⟨t, e⟩ := gl m (by simpa using hm) hm'
              exact ⟨t, by simpa using e⟩
            have hg := MeetsSeq.list_index a xs n (.int z t) (fun v => match v with | .int i _ => i == z | _ => false)
              (fun y hy => by
                obtain ⟨m, hm, e⟩ := Array.getElem_of_mem hy
                obtain ⟨t, e'⟩ := at' m hm (sz ▸ hm)
                rw [← e, e']
                exact MeetsSeq.EqGives.int _ _ _ _) j (sz ▸ hlen) (by omega) (by
                  obtain ⟨t, e'⟩ := at' j (sz ▸ hlen) hlen
                  rw [e']; simp [hjv])
              (fun m hm hlt => by
                obtain ⟨t, e'⟩ := at' m hm (sz ▸ hm)
                rw [e']
                have z0 := hno m hlt
                rw [List.getElem?_eq_getElem (sz ▸ hm)] at z0
                simpa using z0)
            rw [hM]
            refine leaf_of_meets (b := Builtin.«list.index») (entryFor_of_tree (by kernel_rfl)) (by decide +kernel) hg hc ⟨hcell, ?_, ?_⟩
            · rw [D.toks]; rfl
            · have z := D.fresh
              rw [← D.toks]
              exact z
          · cases h
        · cases h
      · cases h
    · cases h
  · cases h
noncomputable def CountL (xs : Array Value) (x : Int) (h : Nat) : Prop := ∃ vs : List (Int × Nat), xs = (vs.map fun p => Value.int p.1 p.2).toArray ∧ h = (vs.map (·.1)).count x
noncomputable def selCount (kl : Cells) : Code → SS → List Nat → Option Ans
  | .builtin i ⟨[.ref a, .int x _], []⟩, S, h :: j :: hs => match i == "list.count" with
    | true => match rd kl S h with
      | some y => match plainItems y.2 with
        | some p => some ⟨.int (Int.ofNat j) (S.tb + S.ti), ⟨S.T, S.b, S.j, S.tb, S.ti + 1⟩, hs, [(.n a, .n y.1)], CountL p.1 x j⟩
        | none => none
      | none => none
    | false => none
  | _, _, _ => none
theorem selCount_valid {E : World0} {prog : Program} {w : World} (hM : E.M = model prog w) {B : Nat} {kl : Cells} (hk : kl = E.K) : Valid E B (exactRule (selCount kl)) := by
  refine exactRule_valid fun {Γ c S hs x p s} h hob hq hc h1 h2 hf D => ?_
  unfold selCount at h
  split at h
  · rename_i i a z t h' j hs'
    split at h
    · rename_i hi
      obtain rfl : i = "list.count" := beq_iff_eq.mp hi
      split at h
      · rename_i y hy
        split at h
        · rename_i pr hp
          cases h
          have ea := hob _ (.head _)
          simp only [V.n.injEq] at ea
          obtain ⟨xs, n⟩ := pr
          obtain ⟨vs, ho, rfl⟩ := hq
          have ho : xs = _ := ho
          have hcell := rd_at D hk hy
          rw [plainItems_ok hp, ← ea, ho] at hcell
          have hg := MeetsSeq.list_count a (vs.map fun p => Value.int p.1 p.2).toArray n (.int z t) (fun v => match v with | .int i _ => i == z | _ => false)
            (fun y hy => by
              have hy' : y ∈ vs.map fun p => Value.int p.1 p.2 := by simpa using hy
              obtain ⟨q, _, rfl⟩ := List.mem_map.mp hy'
              exact MeetsSeq.EqGives.int _ _ _ _)
          have ec : ((vs.map fun p => Value.int p.1 p.2).toArray).toList.countP (fun v => match v with | .int i _ => i == z | _ => false) = (vs.map (·.1)).count z := by
            simp only [List.countP_map, List.count]
            rfl
          rw [ec] at hg
          rw [hM]
          refine leaf_of_meets (b := Builtin.«list.count») (entryFor_of_tree (by kernel_rfl)) (by decide +kernel) hg hc ⟨hcell, ?_, ?_⟩
          · rw [D.toks]; rfl
          · have z := D.fresh
            rw [← D.toks]
            exact z
        · cases h
      · cases h
    · cases h
  · cases h
end Mine.R
end
section
namespace Mine.R
open PySem PySem.W PySem.W.X
noncomputable def selAppend : Code → SS → List Nat → Option Ans
  | .builtin i ⟨[.ref a, .int x t], []⟩, S, h :: hs => match i == "list.append" with
    | true => match gt S.T h with
      | some y => match plainItems y.2 with
        | some p => some ⟨.none, ⟨st S.T h (Obj.mapSeq (fun xs => xs.push (.int x t)) y.2), S.b, S.j, S.tb, S.ti⟩, hs, [(.n a, .n y.1)], p.1.size < 1000⟩
        | none => none
      | none => none
    | false => none
  | _, _, _ => none
theorem selAppend_valid {E : World0} {prog : Program} {w : World} (hM : E.M = model prog w) {B : Nat} : Valid E B (exactRule selAppend) := by
  refine exactRule_valid fun {Γ c S hs x p s} h hob hq hc h1 h2 hf D => ?_
  unfold selAppend at h
  split at h
  · rename_i i a z t h' hs'
    split at h
    · rename_i hi
      obtain rfl : i = "list.append" := beq_iff_eq.mp hi
      split at h
      · rename_i y hy
        split at h
        · rename_i pr hp
          cases h
          have ea := hob _ (.head _)
          simp only [V.n.injEq] at ea
          obtain ⟨xs, n⟩ := pr
          have ho := plainItems_ok hp
          have hl : xs.size < 1000 := hq
          have hcell := D.cell y (gt_mem hy)
          rw [ho, ← ea] at hcell
          have hg := AutoListH.list_append_list_int_0 a xs n z t (by simp only [sizeLine]; omega)
          rw [hM]
          refine leaf_of_meets (b := Builtin.«list.append») (entryFor_of_tree (by kernel_rfl)) (by decide +kernel) hg hc ⟨hcell, rfl, ?_⟩
          have z := D.update (f := Obj.mapSeq fun xs => xs.push (.int z t)) hy (by rw [ho]; rfl) (by rw [ho]; rfl)
          rw [← ea] at z
          exact z
        · cases h
      · cases h
    · cases h
  · cases h
noncomputable def rdAll (kl : Cells) (S : SS) : List Value → List Nat → Option (List Obj × List Nat × List Nat × List (V × V))
  | [], hs => some ([], [], hs, [])
  | .ref a :: vs, h :: hs => match rd kl S h with
    | some y => match rdAll kl S vs hs with
      | some (os, as, r, ob) => some (y.2 :: os, a :: as, r, (.n a, .n y.1) :: ob)
      | none => none
    | none => none
  | _, _ => none
theorem rdAll_ok {E : World0} {S : SS} {s : Shared} (D : Rep E S s) {kl : Cells} (hk : kl = E.K) : ∀ (vs : List Value) (hs : List Nat) {os : List Obj} {as r : List Nat} {ob : List (V × V)}, rdAll kl S vs hs = some (os, as, r, ob) → (∀ y ∈ ob, y.1 = y.2) →
    vs = as.map Value.ref ∧ as.map s.heap.get? = os.map some
  | [], hs, os, as, r, ob, h, _ => by simp only [rdAll, Option.some.injEq, Prod.mk.injEq] at h; obtain ⟨rfl, rfl, rfl, rfl⟩ := h; exact ⟨rfl, rfl⟩
  | v :: vs, hs, os, as, r, ob, h, hob => by
    cases v with
    | ref a =>
      cases hs with
      | nil => simp [rdAll] at h
      | cons h' hs =>
        simp only [rdAll] at h
        cases hy : rd kl S h' with
        | none => rw [hy] at h; cases h
        | some y =>
          rw [hy] at h
          dsimp only at h
          cases hr : rdAll kl S vs hs with
          | none => rw [hr] at h; cases h
          | some z =>
            obtain ⟨os', as', r', ob'⟩ := z
            rw [hr] at h
            simp only [Option.some.injEq, Prod.mk.injEq] at h
            obtain ⟨rfl, rfl, rfl, rfl⟩ := h
            obtain ⟨e1, e2⟩ := rdAll_ok D hk vs hs hr fun q hq => hob q (.tail _ hq)
            have ea := hob _ (.head _)
            simp only [V.n.injEq] at ea
            refine ⟨by rw [e1]; rfl, ?_⟩
            rw [List.map_cons, List.map_cons, e2, ea, rd_at D hk hy]
    | _ => simp [rdAll] at h
structure RL where
  os : List Obj
  as : List Nat
  n : Nat
  rest : List Nat
  ob : List (V × V)
noncomputable def rdList (kl : Cells) (S : SS) (a : Nat) : List Nat → Option RL
  | [] => none
  | h :: hs => match rd kl S h with
    | none => none
    | some y => match plainItems y.2 with
      | none => none
      | some p => match rdAll kl S p.1.toList hs with
        | none => none
        | some z => some ⟨z.1, z.2.1, p.2, z.2.2.1, (.n a, .n y.1) :: z.2.2.2⟩
theorem get_of_maps {h : Nat → Option Obj} {as : List Nat} {os : List Obj} (e : as.map h = os.map some) : as.length = os.length ∧ ∀ j (h1 : j < as.length) (h2 : j < os.length), h as[j] = some os[j] := by
  have el : as.length = os.length := by have := congrArg List.length e; simpa using this
  refine ⟨el, fun j h1 h2 => ?_⟩
  have := congrArg (fun l => l[j]?) e
  simpa [h1, h2] using this
theorem rdList_ok {E : World0} {S : SS} {s : Shared} (D : Rep E S s) {kl : Cells} (hk : kl = E.K) {a : Nat} {hs : List Nat} {x : RL} (h : rdList kl S a hs = some x) (hob : ∀ y ∈ x.ob, y.1 = y.2) :
    s.heap.get? a = some (listR x.as x.n) ∧ x.as.length = x.os.length ∧ ∀ j (h1 : j < x.as.length) (h2 : j < x.os.length), s.heap.get? x.as[j] = some x.os[j] := by
  cases hs with
  | nil => simp [rdList] at h
  | cons i hs =>
    simp only [rdList] at h
    cases hy : rd kl S i with
    | none => rw [hy] at h; cases h
    | some y =>
      rw [hy] at h
      dsimp only at h
      split at h
      · cases h
      · rename_i pr hd
        obtain ⟨xs, n⟩ := pr
        cases hr : rdAll kl S xs.toList hs with
        | none => rw [hr] at h; cases h
        | some z =>
          rw [hr] at h
          simp only [Option.some.injEq] at h
          subst h
          obtain ⟨os, as, r, ob⟩ := z
          obtain ⟨e1, e2⟩ := rdAll_ok D hk _ _ hr fun y hy => hob y (.tail _ hy)
          have ea := hob _ (.head _)
          simp only [V.n.injEq] at ea
          have c := rd_at D hk hy
          have ex : xs = (as.map Value.ref).toArray := by rw [← e1]
          rw [plainItems_ok hd, ← ea, ex] at c
          exact ⟨c, get_of_maps e2⟩
noncomputable def pairOf (o : Obj) : Option (Int × Int) := match o with
  | ⟨.type c, none, .seq ⟨[.int p _, .int q _]⟩ 0, sl⟩ => match c == "tuple" && sl.isEmpty with
    | true => some (p, q)
    | false => none
  | _ => none
theorem pairOf_ok {o : Obj} {p q : Int} (h : pairOf o = some (p, q)) : ∃ t u, o = tupO p t q u := by
  unfold pairOf at h
  split at h
  · split at h
    · rename_i c t p' u q' sl hc
      simp only [Option.some.injEq, Prod.mk.injEq] at h
      obtain ⟨rfl, rfl⟩ := h
      obtain ⟨h1, h2⟩ := Bool.and_eq_true_iff.mp hc
      refine ⟨t, u, ?_⟩
      rw [beq_iff_eq.mp h1, Array.isEmpty_iff.mp h2]
      rfl
    · cases h
  · cases h
noncomputable def pairsOf : List Obj → Option (List (Int × Int))
  | [] => some []
  | o :: r => match pairOf o with
    | none => none
    | some p => match pairsOf r with
      | some l => some (p :: l)
      | none => none
theorem pairsOf_ok : ∀ {os : List Obj} {l : List (Int × Int)}, pairsOf os = some l → os.length = l.length ∧ ∀ j (h1 : j < os.length) (h2 : j < l.length), ∃ t u, os[j] = tupO l[j].1 t l[j].2 u
  | [], l, h => by simp only [pairsOf, Option.some.injEq] at h; subst h; exact ⟨rfl, fun _ h => absurd h (Nat.not_lt_zero _)⟩
  | o :: r, l, h => by
    simp only [pairsOf] at h
    cases ho : pairOf o with
    | none => rw [ho] at h; cases h
    | some p =>
      rw [ho] at h
      dsimp only at h
      cases hr : pairsOf r with
      | none => rw [hr] at h; cases h
      | some l' =>
        rw [hr] at h
        simp only [Option.some.injEq] at h
        subst h
        obtain ⟨e, g⟩ := pairsOf_ok hr
        refine ⟨by simp [e], fun j h1 h2 => ?_⟩
        cases j with
        | zero => exact pairOf_ok ho
        | succ j => exact g j (Nat.lt_of_succ_lt_succ h1) (Nat.lt_of_succ_lt_succ h2)
noncomputable def selNe (kl : Cells) : Code → SS → List Nat → Option Ans
  | .builtin i ⟨[.ref a, .ref b], []⟩, S, hs => match i == "list.__ne__" with
    | true => match rdList kl S a hs with
      | none => none
      | some x => match rdList kl S b x.rest with
        | none => none
        | some y => match pairsOf x.os with
          | none => none
          | some l => match pairsOf y.os with
            | none => none
            | some m => some ⟨.bool false, S, y.rest, x.ob ++ y.ob, l = m⟩
    | false => none
  | _, _, _ => none
theorem ne_of_same {prog : Program} {w : World} {Γ : Ctx} {p : Pos} {s : Shared} {a b : Nat} {x y : RL} {l : List (Int × Int)} (hc : Γ.code = .builtin "list.__ne__" ⟨[.ref a, .ref b], []⟩) (hu : unitsOf Γ.below + 50 < cLine)
    (c1 : s.heap.get? a = some (listR x.as x.n)) (l1 : x.as.length = x.os.length) (g1 : ∀ j (h1 : j < x.as.length) (h2 : j < x.os.length), s.heap.get? x.as[j] = some x.os[j])
    (c2 : s.heap.get? b = some (listR y.as y.n)) (l2 : y.as.length = y.os.length) (g2 : ∀ j (h1 : j < y.as.length) (h2 : j < y.os.length), s.heap.get? y.as[j] = some y.os[j])
    (p1 : pairsOf x.os = some l) (p2 : pairsOf y.os = some l) : wpCode (model prog w) Γ (fun r s' => r = .ok (.ret (.bool false)) ∧ s' = s) p s := by
  obtain ⟨l3, g3⟩ := pairsOf_ok p1
  obtain ⟨l4, g4⟩ := pairsOf_ok p2
  have hg := SeqAt.list_neAt a b (x.as.map Value.ref).toArray (y.as.map Value.ref).toArray x.n y.n none none #[] #[] (by simp [l1, l2, l3, l4]) (fun _ => true)
  refine leaf_of_meets (b := Builtin.«list.__ne__») (entryFor_of_tree (by kernel_rfl)) (by decide +kernel) hg hc ⟨c1, c2, fun j h1 h2 => ?_, ?_⟩
  · have j1 : j < x.as.length := by simpa using h1
    have j2 : j < y.as.length := by simpa using h2
    obtain ⟨t, u, x1⟩ := g3 j (l1 ▸ j1) (l3 ▸ l1 ▸ j1)
    obtain ⟨t', u', x2⟩ := g4 j (l2 ▸ j2) (l4 ▸ l2 ▸ j2)
    have y1 := g1 j j1 (l1 ▸ j1)
    have y2 := g2 j j2 (l2 ▸ j2)
    rw [x1] at y1
    rw [x2] at y2
    generalize l[j].1 = p at y1 y2
    generalize l[j].2 = q at y1 y2
    have r1 : Reads s.heap (.ref x.as[j]) (.tuple [.int p, .int q]) [] := .tuple y1 rfl rfl (.cons (.int p t) (.cons (.int q u) .nil))
    have r2 : Reads s.heap (.ref y.as[j]) (.tuple [.int p, .int q]) [] := .tuple y2 rfl rfl (.cons (.int p t') (.cons (.int q u') .nil))
    have z := SeqAt.eqAt_reads _ _ (Around.in1 { handled := Γ.handled, depth := frameCount Γ.below, frames := none, guards := none, units := unitsOf Γ.below }) s _ _ _ _ r1 r2 rfl rfl (by
      have h1 : min (PyData.depth (.tuple [.int p, .int q])) (PyData.depth (.tuple [.int p, .int q])) ≤ 1 := by simp [PyData.depth, PyData.depthAll]
      have h2 : (Around.in1 { handled := Γ.handled, depth := frameCount Γ.below, frames := none, guards := none, units := unitsOf Γ.below }).units = unitsOf Γ.below + 1 := rfl
      omega)
    have ez : PyData.eqv (.tuple [.int p, .int q]) (.tuple [.int p, .int q]) = true := by simp [PyData.eqv, PyData.eqvAll]
    rw [ez] at z
    simpa using z
  · have : ((List.range (x.as.map Value.ref).toArray.size).all fun _ => true) = true := by simp
    rw [this]
    exact ⟨rfl, rfl⟩
theorem selNe_valid {E : World0} {prog : Program} {w : World} (hM : E.M = model prog w) {B : Nat} (hB : B ≤ 990) {kl : Cells} (hk : kl = E.K) : Valid E B (exactRule (selNe kl)) := by
  refine exactRule_valid fun {Γ c S hs x p s} h hob hq hc h1 h2 hf D => ?_
  unfold selNe at h
  split at h
  · rename_i i a b
    split at h
    · rename_i hi
      obtain rfl : i = "list.__ne__" := beq_iff_eq.mp hi
      split at h
      · cases h
      · rename_i x1 e1
        split at h
        · cases h
        · rename_i x2 e2
          split at h
          · cases h
          · rename_i l hl
            split at h
            · cases h
            · rename_i m hm
              cases h
              have hq : l = m := hq
              subst hq
              obtain ⟨c1, l1, g1⟩ := rdList_ok D hk e1 (fun y hy => hob y (List.mem_append_left _ hy))
              obtain ⟨c2, l2, g2⟩ := rdList_ok D hk e2 (fun y hy => hob y (List.mem_append_right _ hy))
              rw [hM]
              have hf0 : frameCount Γ.below + unitsOf Γ.below ≤ B := hf
              refine wpCode_mono ?_ (ne_of_same hc (by simp only [cLine]; omega) c1 l1 g1 c2 l2 g2 hl hm)
              rintro r s' ⟨rfl, rfl⟩
              exact ⟨rfl, D⟩
    · cases h
  · cases h
end Mine.R
end
section
namespace Mine.R
open PySem PySem.W PySem.W.X
noncomputable def selIadd (kl : Cells) : Code → SS → List Nat → Option Ans
  | .builtin i ⟨[.ref a, .ref b], []⟩, S, h :: g :: hs => match i == "list.__iadd__" with
    | true => match gt S.T h with
      | none => none
      | some y => match rd kl S g with
        | none => none
        | some z => match plainItems y.2 with
          | none => none
          | some p => match plainItems z.2 with
            | none => none
            | some q => match p.1.isEmpty && Nat.ble q.1.size 1000 with
              | true => some ⟨.ref a, ⟨st S.T h (Obj.mapSeq (fun x => x ++ q.1) y.2), S.b, S.j, S.tb, S.ti⟩, hs, [(.n a, .n y.1), (.n b, .n z.1)], True⟩
              | false => none
    | false => none
  | _, _, _ => none
theorem selIadd_valid {E : World0} {prog : Program} {w : World} (hM : E.M = model prog w) {B : Nat} {kl : Cells} (hk : kl = E.K) : Valid E B (exactRule (selIadd kl)) := by
  refine exactRule_valid fun {Γ c S hs x p s} h hob hq hc h1 h2 hf D => ?_
  unfold selIadd at h
  split at h
  · rename_i i a b h' g' hs'
    split at h
    · rename_i hi
      obtain rfl : i = "list.__iadd__" := beq_iff_eq.mp hi
      split at h
      · cases h
      · rename_i y hy
        split at h
        · cases h
        · rename_i z hz
          split at h
          · cases h
          · rename_i pr hp
            split at h
            · cases h
            · rename_i qr hqr
              split at h
              · rename_i hsz
                cases h
                have ea := hob _ (.head _)
                have eb := hob _ (.tail _ (.head _))
                simp only [V.n.injEq] at ea eb
                obtain ⟨ps, m⟩ := pr
                obtain ⟨xs, n⟩ := qr
                obtain ⟨hs1, hs2⟩ := Bool.and_eq_true_iff.mp hsz
                have hl : xs.size ≤ 1000 := Nat.le_of_ble_eq_true hs2
                have he : ps = #[] := Array.isEmpty_iff.mp hs1
                subst he
                have q1 := plainItems_ok hp
                have c1 := D.cell y (gt_mem hy)
                have c2 := rd_at D hk hz
                rw [q1, ← ea] at c1
                rw [plainItems_ok hqr, ← eb] at c2
                have hg := AutoSeq1.list___iadd___list_list_0 a #[] m b xs n (by simp) (by simp [sizeLine]) (by simp only [Array.size_empty, sizeLine]; omega)
                rw [hM]
                refine leaf_of_meets (b := Builtin.«list.__iadd__») (entryFor_of_tree (by kernel_rfl)) (by decide +kernel) hg hc ⟨c1, c2, rfl, ?_⟩
                have z := D.update (f := Obj.mapSeq fun x => x ++ xs) hy (by rw [q1]; rfl) (by rw [q1]; rfl)
                rw [← ea] at z
                exact z
              · cases h
    · cases h
  · cases h
theorem Rep.of_mem {E : World0} {T1 T2 : Cells} {b j tb ti : Nat} {s : Shared} (D : Rep E ⟨T1, b, j, tb, ti⟩ s) (h : ∀ x ∈ T2, x ∈ T1) (hn : (T2.map (·.1)).Nodup) : Rep E ⟨T2, b, j, tb, ti⟩ s :=
  ⟨D.size, D.toks, fun x hx => D.cell x (h x hx), hn, fun x hx => D.own x (h x hx), D.known, D.keep, D.low, D.old, D.gens, D.drawn, D.os, D.froz, D.told⟩
end Mine.R
end
section
namespace Mine.R
open PySem PySem.W PySem.W.X
noncomputable def scan (k : Int) : List DictEntry → Value
  | [] => .none
  | e :: r => match e.key with
    | .int i _ => match i == k with
      | true => e.val
      | false => scan k r
    | _ => scan k r
noncomputable def keysInt : List DictEntry → Bool
  | [] => true
  | e :: r => match e.key with
    | .int i _ => match e.hash == hashInt i with
      | true => keysInt r
      | false => false
    | _ => false
theorem keysInt_ok {es : List DictEntry} : keysInt es = true → ∀ e ∈ es, ∃ k t, e.key = .int k t ∧ e.hash = hashInt k := by
  induction es with
  | nil => intro _ e he; cases he
  | cons x r ih =>
    intro h e he
    obtain ⟨hx, hr⟩ : (∃ k t, x.key = .int k t ∧ x.hash = hashInt k) ∧ keysInt r = true := by
      obtain ⟨a, b, c⟩ := x
      cases b <;> first | exact absurd h Bool.false_ne_true | skip
      rename_i i t
      have h : (match a == hashInt i with | true => keysInt r | false => false) = true := h
      cases hh : a == hashInt i with
      | true => rw [hh] at h; exact ⟨⟨i, t, rfl, beq_iff_eq.mp hh⟩, h⟩
      | false => rw [hh] at h; exact absurd h Bool.false_ne_true
    rcases List.mem_cons.mp he with rfl | he
    · exact hx
    · exact ih hr e he
theorem scan_ok (k : Int) : ∀ (es : List DictEntry), scan k es = ((es.find? fun e => Value.isInt k e.key).map (·.val)).getD .none
  | [] => rfl
  | e :: r => by
    obtain ⟨h, key, v⟩ := e
    rw [List.find?_cons]
    unfold scan
    dsimp only
    cases key with
    | int i t =>
      dsimp only
      have e1 : Value.isInt k (.int i t) = (i == k) := by
        show _ = _
        first | rfl | (simp [Value.isInt]; done) | (simp only [Value.isInt]; rw [Bool.beq_comm]; done) | (simp [Value.isInt, eq_comm])
      rw [e1]
      cases q : (i == k) with
      | true => rfl
      | false => exact scan_ok k r
    | _ => exact scan_ok k r
noncomputable def selGet (d : Nat) (es : List DictEntry) : Code → SS → List Nat → Option Ans
  | .builtin i ⟨[.ref a, .int k _], []⟩, S, hs => match i == "dict.get" && Nat.beq a d with
    | true => some ⟨scan k es, ⟨S.T, S.b, S.j, S.tb, S.ti + 1⟩, hs, [], True⟩
    | false => none
  | _, _, _ => none
theorem leaf_of_meetsIn {prog : Program} {w : World} {id : String} {args : Args} {b : Builtin} {Z : Spec} (hb : entryFor table id = some b) (hp : plainId id = true) (hg : MeetsIn prog w (b args) Z)
    {Γ : Ctx} {p : Pos} {s : Shared} {R : Result → Shared → Prop} (hc : Γ.code = .builtin id args) (h : Z { handled := Γ.handled, depth := frameCount Γ.below, frames := none, guards := none, units := unitsOf Γ.below } R s) : wpCode (model prog w) Γ R p s :=
  codeAny_builtin (A := { handled := Γ.handled, depth := frameCount Γ.below, frames := none, guards := none, units := unitsOf Γ.below }) hb (by rw [Around.under_plainId hp _]; exact hg _ R s h) Γ p hc (below_any Γ)
theorem selGet_valid {E : World0} {prog : Program} {w : World} (hM : E.M = model prog w) {B d n : Nat} {es : List DictEntry} (hd : E.kt.get d = some { cls := .type "dict", data := .dict es.toArray n }) (hk : keysInt es = true) (hs : (d == sysModules) = false) : Valid E B (exactRule (selGet d es)) := by
  refine exactRule_valid fun {Γ c S hs' x p s} h hob hq hc h1 h2 hf D => ?_
  unfold selGet at h
  split at h
  · rename_i i a k t
    split at h
    · rename_i hi
      obtain ⟨e1, e2⟩ := Bool.and_eq_true_iff.mp hi
      obtain rfl : i = "dict.get" := beq_iff_eq.mp e1
      obtain rfl : a = d := Nat.eq_of_beq_eq_true e2
      cases h
      have hcell := (D.known _ _ hd).2
      rw [hM]
      have hm : s.heap.MapOf (intKind prog w) a (fun k => findBy (intKind prog w).is es.toArray k) :=
        ⟨_, _, _, hcell, ⟨rfl, rfl, rfl⟩, rfl, fun e he => by
          obtain ⟨k, t, h1, h2⟩ := keysInt_ok hk e (by simpa using he)
          exact ⟨k, by rw [h1]; simp [intKind, Value.isInt], h2⟩, fun _ => rfl⟩
      have hg := meets_dict_get (intKind prog w) (k := k) (key := .int k t) a (by simp [intKind, Value.isInt]) hs
      refine leaf_of_meetsIn (b := Builtin.«dict.get») (entryFor_of_tree (by kernel_rfl)) (by decide +kernel) hg hc ⟨_, hm, ?_⟩
      refine ⟨?_, ?_⟩
      · have : (findBy (intKind prog w).is es.toArray k).getD .none = scan k es := by
          rw [scan_ok]
          simp [findBy, intKind]
        rw [this]
      · have z := D.fresh
        exact z
    · cases h
  · cases h
end Mine.R
end
section
namespace Mine.B
open PySem PySem.W PySem.W.X
noncomputable def digsF : Nat → Nat → List Nat → List Nat
  | 0, _, acc => acc
  | _ + 1, 0, acc => acc
  | f + 1, n + 1, acc => digsF f ((n + 1) / 16) ((n + 1) % 16 :: acc)
noncomputable def digs (n : Nat) : List Nat := digsF 4 n []
noncomputable def apS (n : Nat) : Str := ⟨((digs n).map fun d => 65 + d).toArray⟩
noncomputable def lo (n : Nat) : Str := ⟨((digs n).map fun d => 97 + d).toArray⟩
noncomputable def apB (n : Nat) : Array UInt8 := ((digs n).map fun d => UInt8.ofNat (65 + d)).toArray
noncomputable def things : List Nat := [5, 8, 85, 88, 1368, 11]
noncomputable def nums : List Nat := [0, 1, 2, 3, 4, 5, 6, 7, 8, 9, 10, 11, 12, 13, 14, 15, 16, 17, 18, 19, 20, 85, 88, 1368]
noncomputable abbrev nameS : Str := ⟨#[110, 97, 109, 101]⟩
noncomputable abbrev asciiS : Str := ⟨#[97, 115, 99, 105, 105]⟩
noncomputable abbrev CheckP (code : Code) (v : Nat → Value) (j k i : Nat) (hs : Bool → List Nat) : Prop := ∀ (w : World) (b1 b2 : Bool) (bl : List (Code × Pos)) (pa : Option Value) (p : Pos) (N t : Nat) (ω : Nat → Nat),
  Checks (R.ev (FW (wb w b1 b2) [] noRule) 1000000 20 ⟨code, none, none, bl, pa⟩ p (R.den2 code) [] ⟨[], N, 0, t + 2595, 0⟩ (hs b2) ω [] []) [] (.ok (.ret (v (t + 2595 + i)))) [] (N + j) (t + 2595 + k) []
noncomputable def ExactCall (E : R.World0) (B : Nat) (c : Code) (v : Nat → Value) (j k : Nat) : Prop :=
  ∀ {Γ : Ctx} {p : Pos} {S : SS} {s : Shared}, Γ.code = c → Γ.handled = none → Γ.own = none → R.loadOf Γ.below ≤ B → R.Rep E S s →
    wpCode E.M Γ (fun r s' => r = .ok (.ret (v (S.tb + S.ti))) ∧ R.Rep E ⟨S.T, S.b, S.j + j, S.tb, S.ti + k⟩ s') p s
theorem exact_of {w : World} {E : R.World0} (HE : EOk w E) {B : Nat} (hB : B + 320 ≤ 990) {code : Code} {v : Nat → Value} {j k i : Nat} {hs : Bool → List Nat} (h : CheckP code v j k i hs) (hw : code.weight ≤ 5) :
    ExactCall E B code (fun t => v (t + i)) j k := by
  obtain ⟨b1, b2, hb⟩ := wb_self w
  intro Γ p S s hc h1 h2 hf D
  obtain ⟨c', hh, ho, bl, pa⟩ := Γ
  dsimp only at hc h1 h2 hf
  subst hc h1 h2
  have hT : E.t0 ≤ S.tb + S.ti := D.told
  rw [HE.t0] at hT
  have D0 : R.Rep (E.at s [] []) ⟨[], S.b + S.j, 0, (S.tb + S.ti - 2595) + 2595, 0⟩ s := by
    have z := D.at (K := []) (T := []) (fun _ h => (nomatch h)) (fun _ h => (nomatch h)) List.nodup_nil
    exact ⟨z.size, by rw [z.toks]; show S.tb + S.ti = S.tb + S.ti - 2595 + 2595 + 0; omega, fun _ h => (nomatch h), List.nodup_nil, fun _ h => (nomatch h), z.known, z.keep, z.low, z.old, z.gens, z.drawn, z.os, z.froz, by show E.t0 ≤ S.tb + S.ti - 2595 + 2595 + 0; rw [HE.t0]; omega⟩
  have HE' : EOk w (E.at s [] []) := ⟨HE.M, HE.kt, HE.t0⟩
  have H : R.Fits (E.at s [] []) (FW w [] noRule) (B + 320) := fitsW HE' hB rfl fun _ => R.noRule_valid _ _ _
  have z := R.code_wp H (Γ := ⟨c', none, none, bl, pa⟩) (d := 20) (p := p) ⟨by show R.loadOf bl + 16 * 20 ≤ B + 320; omega, hw⟩
    (r := fun _ => .ok (.ret (v (S.tb + S.ti - 2595 + 2595 + i)))) (T := fun _ => []) (N := fun _ => S.b + S.j + j) (t := fun _ => S.tb + S.ti - 2595 + 2595 + k) (cs := fun _ => []) (idx := [])
    (fun ω => by have y := h w b1 b2 bl pa p (S.b + S.j) (S.tb + S.ti - 2595) ω; rw [hb] at y; exact y) List.nodup_nil (fun _ _ h => (nomatch h)) D0
  refine wpCode_mono ?_ z
  rintro r s' ⟨_, rfl, D1⟩
  have D2 := D.back (K := []) (T := []) (T2 := S.T) (fun _ h => (nomatch h)) D1 (fun x hx => ⟨hx, fun h => (nomatch h)⟩) D.nodup (fun _ h => (nomatch h))
  have e1 : S.tb + S.ti - 2595 + 2595 + i = S.tb + S.ti + i := by omega
  refine ⟨by rw [e1], ?_⟩
  exact ⟨by rw [D2.size]; show S.b + S.j + j + 0 = S.b + (S.j + j); omega, by rw [D2.toks]; show S.tb + S.ti - 2595 + 2595 + k + 0 = S.tb + (S.ti + k); omega, D2.cell, D2.nodup, D2.own, D2.known, D2.keep,
    (by have q : E.P0 ≤ S.b + S.j + j + 0 := D2.low; show E.P0 ≤ S.b + (S.j + j); omega), (by have q : E.h0.objs.size ≤ S.b + S.j + j + 0 := D2.old; show E.h0.objs.size ≤ S.b + (S.j + j); omega), D2.gens, D2.drawn, D2.os, D2.froz,
    (by show E.t0 ≤ S.tb + (S.ti + k); rw [HE.t0]; omega)⟩
end Mine.B
end
section
namespace Mine.R
open PySem PySem.W PySem.W.X
noncomputable def FreeCall (E : World0) (B : Nat) (c : Code) (v : Nat → Value) : Prop :=
  ∀ {Γ : Ctx} {p : Pos} {S : SS} {s : Shared}, Γ.code = c → Γ.handled = none → Γ.own = none → loadOf Γ.below ≤ B → Rep E S s →
    wpCode E.M Γ (fun r s' => ∃ j k u, r = .ok (.ret (v u)) ∧ Rep E ⟨S.T, j + (S.b + S.j), 0, k + (S.tb + S.ti), 0⟩ s') p s
noncomputable def freeRule (sel : Code → List Nat → Option ((Nat → Value) × List Nat × Prop)) : Rule := fun Γ c S hs ω acc cs => match Γ.handled with
  | some _ => none
  | none => match Γ.own with
    | some _ => none
    | none => match sel c hs with
      | none => none
      | some (v, rest, q) => some ⟨.ok (.ret (v (ω 2))), ⟨S.T, ω 0 + (S.b + S.j), 0, ω 1 + (S.tb + S.ti), 0⟩, rest, shift ω, acc, q :: cs⟩
theorem freeRule_valid {E : World0} {B : Nat} {sel : Code → List Nat → Option ((Nat → Value) × List Nat × Prop)} (h : ∀ c hs v rest q, sel c hs = some (v, rest, q) → q → FreeCall E B c v) : Valid E B (freeRule sel) := by
  refine ⟨fun {Γ c S hs ω acc cs o} e => ?_, fun {Γ c S hs acc cs p s} hc hf D hh => ?_⟩
  · unfold freeRule at e
    split at e
    · cases e
    · split at e
      · cases e
      · split at e
        · cases e
        · cases e
          exact ⟨fun _ x => x, fun _ x => .tail _ x⟩
  · obtain ⟨o, e, hH⟩ := hh fun _ => 0
    unfold freeRule at e
    split at e
    · cases e
    · rename_i h1
      split at e
      · cases e
      · rename_i h2
        split at e
        · cases e
        · rename_i v rest q hs'
          cases e
          have hq : q := hH.2 q (.head _)
          refine wpCode_mono ?_ (h c hs v rest q hs' hq hc h1 h2 hf D)
          rintro r s' ⟨j, k, u, rfl, D'⟩
          refine ⟨fun n => match n with | 0 => j | 1 => k | _ => u, ⟨.ok (.ret (v u)), ⟨S.T, j + (S.b + S.j), 0, k + (S.tb + S.ti), 0⟩, rest, fun _ => 0, acc, q :: cs⟩, fun ω => ?_, rfl, D'⟩
          unfold freeRule
          rw [h1, h2, hs', shift_mix]
          rfl
end Mine.R
namespace Mine.B
open PySem PySem.W PySem.W.X
theorem free_of {E : R.World0} {B : Nat} {c : Code} {v : Nat → Value} {j k : Nat} {f : Nat → Nat} (h : ExactCall E B c (fun t => v (f t)) j k) : R.FreeCall E B c v := by
  intro Γ p S s hc h1 h2 hf D
  refine wpCode_mono ?_ (h hc h1 h2 hf D)
  rintro r s' ⟨rfl, D2⟩
  refine ⟨j, k, f (S.tb + S.ti), rfl, ?_⟩
  exact ⟨by rw [D2.size]; show S.b + (S.j + j) = j + (S.b + S.j) + 0; omega, by rw [D2.toks]; show S.tb + (S.ti + k) = k + (S.tb + S.ti) + 0; omega, D2.cell, D2.nodup, D2.own, D2.known, D2.keep,
    (by have q : E.P0 ≤ S.b + (S.j + j) := D2.low; show E.P0 ≤ j + (S.b + S.j) + 0; omega), (by have q : E.h0.objs.size ≤ S.b + (S.j + j) := D2.old; show E.h0.objs.size ≤ j + (S.b + S.j) + 0; omega), D2.gens, D2.drawn, D2.os, D2.froz,
    (by have q : E.t0 ≤ S.tb + (S.ti + k) := D2.told; show E.t0 ≤ k + (S.tb + S.ti) + 0; omega)⟩
noncomputable abbrev CheckQ (ru : Nat → Rule) (code : Code) (v : Nat → Value) (j k : Nat) (hs : List Nat) (cs : List Prop) : Prop := ∀ (w : World) (b1 b2 : Bool) (bl : List (Code × Pos)) (pa : Option Value) (p : Pos) (N t : Nat) (ω : Nat → Nat),
  Checks (R.ev (FW (wb w b1 b2) [] ru) 1000000 20 ⟨code, none, none, bl, pa⟩ p (R.den2 code) [] ⟨[], N, 0, t + 2595, 0⟩ hs ω [] []) [] (.ok (.ret (v (t + 2595)))) [] (N + j) (t + 2595 + k) cs
noncomputable abbrev CheckW (ru : World → Nat → Rule) (code : Code) (v : Nat → Value) (j k : Nat) (hs : List Nat) (cs : List Prop) : Prop := ∀ (w : World) (b1 b2 : Bool) (bl : List (Code × Pos)) (pa : Option Value) (p : Pos) (N t : Nat) (ω : Nat → Nat),
  Checks (R.ev (FW (wb w b1 b2) [] (ru (wb w b1 b2))) 1000000 20 ⟨code, none, none, bl, pa⟩ p (R.den2 code) [] ⟨[], N, 0, t + 2595, 0⟩ hs ω [] []) [] (.ok (.ret (v (t + 2595)))) [] (N + j) (t + 2595 + k) cs
theorem exact_ofQ {w : World} {E : R.World0} (HE : EOk w E) {B : Nat} (hB : B + 320 ≤ 990) {ru : Nat → Rule} {code : Code} {v : Nat → Value} {j k : Nat} {hs : List Nat} {cs : List Prop} (hv : ∀ E', EOk w E' → ∀ r, R.Valid E' (B + 320) (ru r)) (h : CheckW (fun _ => ru) code v j k hs cs ∨ ∃ r2 : World → Nat → Rule, ru = r2 w ∧ CheckW r2 code v j k hs cs) (hcs : ∀ q ∈ cs, q) (hw : code.weight ≤ 5) :
    ExactCall E B code v j k := by
  obtain ⟨b1, b2, hb⟩ := wb_self w
  intro Γ p S s hc h1 h2 hf D
  obtain ⟨c', hh, ho, bl, pa⟩ := Γ
  dsimp only at hc h1 h2 hf
  subst hc h1 h2
  have hT : E.t0 ≤ S.tb + S.ti := D.told
  rw [HE.t0] at hT
  have D0 : R.Rep (E.at s [] []) ⟨[], S.b + S.j, 0, (S.tb + S.ti - 2595) + 2595, 0⟩ s := by
    have z := D.at (K := []) (T := []) (fun _ h => (nomatch h)) (fun _ h => (nomatch h)) List.nodup_nil
    exact ⟨z.size, by rw [z.toks]; show S.tb + S.ti = S.tb + S.ti - 2595 + 2595 + 0; omega, fun _ h => (nomatch h), List.nodup_nil, fun _ h => (nomatch h), z.known, z.keep, z.low, z.old, z.gens, z.drawn, z.os, z.froz, by show E.t0 ≤ S.tb + S.ti - 2595 + 2595 + 0; rw [HE.t0]; omega⟩
  have HE' : EOk w (E.at s [] []) := ⟨HE.M, HE.kt, HE.t0⟩
  have H : R.Fits (E.at s [] []) (FW w [] ru) (B + 320) := fitsW HE' hB rfl fun r => hv _ HE' r
  have z := R.code_wp H (Γ := ⟨c', none, none, bl, pa⟩) (d := 20) (p := p) ⟨by show R.loadOf bl + 16 * 20 ≤ B + 320; omega, hw⟩
    (r := fun _ => .ok (.ret (v (S.tb + S.ti - 2595 + 2595)))) (T := fun _ => []) (N := fun _ => S.b + S.j + j) (t := fun _ => S.tb + S.ti - 2595 + 2595 + k) (cs := fun _ => cs) (idx := [])
    (fun ω => by
      rcases h with h | ⟨r2, rfl, h⟩
      · have y := h w b1 b2 bl pa p (S.b + S.j) (S.tb + S.ti - 2595) ω; rw [hb] at y; exact y
      · have y := h w b1 b2 bl pa p (S.b + S.j) (S.tb + S.ti - 2595) ω; rw [hb] at y; exact y) List.nodup_nil (fun _ => hcs) D0
  refine wpCode_mono ?_ z
  rintro r s' ⟨_, rfl, D1⟩
  have D2 := D.back (K := []) (T := []) (T2 := S.T) (fun _ h => (nomatch h)) D1 (fun x hx => ⟨hx, fun h => (nomatch h)⟩) D.nodup (fun _ h => (nomatch h))
  have e1 : S.tb + S.ti - 2595 + 2595 = S.tb + S.ti := by omega
  refine ⟨by rw [e1], ?_⟩
  exact ⟨by rw [D2.size]; show S.b + S.j + j + 0 = S.b + (S.j + j); omega, by rw [D2.toks]; show S.tb + S.ti - 2595 + 2595 + k + 0 = S.tb + (S.ti + k); omega, D2.cell, D2.nodup, D2.own, D2.known, D2.keep,
    (by have q : E.P0 ≤ S.b + S.j + j + 0 := D2.low; show E.P0 ≤ S.b + (S.j + j); omega), (by have q : E.h0.objs.size ≤ S.b + S.j + j + 0 := D2.old; show E.h0.objs.size ≤ S.b + (S.j + j); omega), D2.gens, D2.drawn, D2.os, D2.froz,
    (by show E.t0 ≤ S.tb + (S.ti + k); rw [HE.t0]; omega)⟩
noncomputable def aheadL : Nat → List Nat
  | 0 => []
  | 1 => [173]
  | 2 => [8203]
  | _ => [65024]
noncomputable def thing (a : Nat) : Nat := match a with | 0 => 5 | 1 => 8 | 2 => 85 | 3 => 88 | 4 => 1368 | _ => 11
noncomputable def wholeC (a : Nat) : Nat := match a with | 0 => 8497 | 1 => 8464 | 2 => 64256 | 3 => 64257 | 4 => 64259 | _ => 8466
noncomputable def wordL (a : Nat) : List Nat := (digs (thing a)).map fun d => 97 + d
noncomputable def formL (a b : Nat) : List Nat := match b with
  | 0 => wordL a
  | 1 => (wordL a).map fun c => c - 32
  | 2 => (wordL a).map fun c => c + 119711
  | _ => [wholeC a]
noncomputable def spS (h : Nat) : Str := ⟨(aheadL (h / 24) ++ formL (h % 6) (h / 6 % 4)).toArray⟩
end Mine.B
end
section
namespace Mine.B
open PySem PySem.W PySem.W.X
noncomputable def soH (p : List Nat) : List Nat := match p with
  | [] => [0,1,0,2,1,0,1,0,1,1,1,1,1,3,3,3,3]
  | [0] => [0,1,0,2,1,0,1,0,1,1,1,1,1,3,3,3,3]
  | [0,1] => [0,1,0,2,1,0,1,0,1,1,1,1,1,100001,100001,100002,100002,100002,100001,0,0,0,0,3,3,3,3]
  | [1,0] => [0,1,0,2,1,0,1,0,1,1,1,1,1,100001,100001,100002,100002,100002,100001,0,0,0,0,3,3,3,3]
  | [0,1,2] => [0,1,0,2,1,0,1,0,1,1,1,1,1,100001,100001,100002,100002,100003,100003,100002,100001,0,0,0,0,100003,100002,0,0,0,0,3,3,3,3]
  | [0,2,1] => [0,1,0,2,1,0,1,0,1,1,1,1,1,100001,100001,100002,100002,100003,100003,100002,100001,0,0,0,0,100003,100002,0,0,0,0,100001,100002,0,0,0,0,100003,100002,0,0,0,0,100003,100001,0,0,0,0,3,3,3,3]
  | [1,0,2] => [0,1,0,2,1,0,1,0,1,1,1,1,1,100001,100001,100002,100002,100003,100003,100002,100001,0,0,0,0,100003,100002,0,0,0,0,100002,100003,0,0,0,0,100003,100001,0,0,0,0,3,3,3,3]
  | [2,0,1] => [0,1,0,2,1,0,1,0,1,1,1,1,1,100001,100001,100002,100002,100003,100003,100002,100001,0,0,0,0,100003,100002,0,0,0,0,100001,100002,0,0,0,0,100003,100002,0,0,0,0,100003,100001,0,0,0,0,3,3,3,3]
  | [1,2,0] => [0,1,0,2,1,0,1,0,1,1,1,1,1,100001,100001,100002,100002,100003,100003,100002,100001,0,0,0,0,100003,100002,0,0,0,0,100002,100003,0,0,0,0,100003,100001,0,0,0,0,100003,100001,0,0,0,0,100003,100002,0,0,0,0,3,3,3,3]
  | [2,1,0] => [0,1,0,2,1,0,1,0,1,1,1,1,1,100001,100001,100002,100002,100003,100003,100002,100001,0,0,0,0,100003,100002,0,0,0,0,3,3,3,3]
  | _ => []
noncomputable def soT0 : List (List Int × List Nat) := [([], [])]
noncomputable def soT1 : List (List Int × List Nat) := [([5], [0]), ([8], [0]), ([85], [0]), ([88], [0]), ([1368], [0]), ([11], [0])]
noncomputable def soT2 : List (List Int × List Nat) := [([5,8], [0,1]), ([5,85], [0,1]), ([5,88], [0,1]), ([5,1368], [0,1]), ([5,11], [0,1]), ([8,5], [1,0]), ([8,85], [0,1]), ([8,88], [0,1]), ([8,1368], [0,1]), ([8,11], [0,1]), ([85,5], [1,0]), ([85,8], [1,0]), ([85,88], [0,1]), ([85,1368], [0,1]), ([85,11], [1,0]), ([88,5], [1,0]), ([88,8], [1,0]), ([88,85], [1,0]), ([88,1368], [0,1]), ([88,11], [1,0]), ([1368,5], [1,0]), ([1368,8], [1,0]), ([1368,85], [1,0]), ([1368,88], [1,0]), ([1368,11], [1,0]), ([11,5], [1,0]), ([11,8], [1,0]), ([11,85], [0,1]), ([11,88], [0,1]), ([11,1368], [0,1])]
noncomputable def soT3 : List (List Int × List Nat) := [([5,8,85], [0,1,2]), ([5,8,88], [0,1,2]), ([5,8,1368], [0,1,2]), ([5,8,11], [0,1,2]), ([5,85,8], [0,2,1]), ([5,85,88], [0,1,2]), ([5,85,1368], [0,1,2]), ([5,85,11], [0,2,1]), ([5,88,8], [0,2,1]), ([5,88,85], [0,2,1]), ([5,88,1368], [0,1,2]), ([5,88,11], [0,2,1]), ([5,1368,8], [0,2,1]), ([5,1368,85], [0,2,1]), ([5,1368,88], [0,2,1]), ([5,1368,11], [0,2,1]), ([5,11,8], [0,2,1]), ([5,11,85], [0,1,2]), ([5,11,88], [0,1,2]), ([5,11,1368], [0,1,2]), ([8,5,85], [1,0,2]), ([8,5,88], [1,0,2]), ([8,5,1368], [1,0,2]), ([8,5,11], [1,0,2]), ([8,85,5], [2,0,1]), ([8,85,88], [0,1,2]), ([8,85,1368], [0,1,2]), ([8,85,11], [0,2,1]), ([8,88,5], [2,0,1]), ([8,88,85], [0,2,1]), ([8,88,1368], [0,1,2]), ([8,88,11], [0,2,1]), ([8,1368,5], [2,0,1]), ([8,1368,85], [0,2,1]), ([8,1368,88], [0,2,1]), ([8,1368,11], [0,2,1]), ([8,11,5], [2,0,1]), ([8,11,85], [0,1,2]), ([8,11,88], [0,1,2]), ([8,11,1368], [0,1,2]), ([85,5,8], [1,2,0]), ([85,5,88], [1,0,2]), ([85,5,1368], [1,0,2]), ([85,5,11], [1,2,0]), ([85,8,5], [2,1,0]), ([85,8,88], [1,0,2]), ([85,8,1368], [1,0,2]), ([85,8,11], [1,2,0]), ([85,88,5], [2,0,1]), ([85,88,8], [2,0,1]), ([85,88,1368], [0,1,2]), ([85,88,11], [2,0,1]), ([85,1368,5], [2,0,1]), ([85,1368,8], [2,0,1]), ([85,1368,88], [0,2,1]), ([85,1368,11], [2,0,1]), ([85,11,5], [2,1,0]), ([85,11,8], [2,1,0]), ([85,11,88], [1,0,2]), ([85,11,1368], [1,0,2]), ([88,5,8], [1,2,0]), ([88,5,85], [1,2,0]), ([88,5,1368], [1,0,2]), ([88,5,11], [1,2,0]), ([88,8,5], [2,1,0]), ([88,8,85], [1,2,0]), ([88,8,1368], [1,0,2]), ([88,8,11], [1,2,0]), ([88,85,5], [2,1,0]), ([88,85,8], [2,1,0]), ([88,85,1368], [1,0,2]), ([88,85,11], [2,1,0]), ([88,1368,5], [2,0,1]), ([88,1368,8], [2,0,1]), ([88,1368,85], [2,0,1]), ([88,1368,11], [2,0,1]), ([88,11,5], [2,1,0]), ([88,11,8], [2,1,0]), ([88,11,85], [1,2,0]), ([88,11,1368], [1,0,2]), ([1368,5,8], [1,2,0]), ([1368,5,85], [1,2,0]), ([1368,5,88], [1,2,0]), ([1368,5,11], [1,2,0]), ([1368,8,5], [2,1,0]), ([1368,8,85], [1,2,0]), ([1368,8,88], [1,2,0]), ([1368,8,11], [1,2,0]), ([1368,85,5], [2,1,0]), ([1368,85,8], [2,1,0]), ([1368,85,88], [1,2,0]), ([1368,85,11], [2,1,0]), ([1368,88,5], [2,1,0]), ([1368,88,8], [2,1,0]), ([1368,88,85], [2,1,0]), ([1368,88,11], [2,1,0]), ([1368,11,5], [2,1,0]), ([1368,11,8], [2,1,0]), ([1368,11,85], [1,2,0]), ([1368,11,88], [1,2,0]), ([11,5,8], [1,2,0]), ([11,5,85], [1,0,2]), ([11,5,88], [1,0,2]), ([11,5,1368], [1,0,2]), ([11,8,5], [2,1,0]), ([11,8,85], [1,0,2]), ([11,8,88], [1,0,2]), ([11,8,1368], [1,0,2]), ([11,85,5], [2,0,1]), ([11,85,8], [2,0,1]), ([11,85,88], [0,1,2]), ([11,85,1368], [0,1,2]), ([11,88,5], [2,0,1]), ([11,88,8], [2,0,1]), ([11,88,85], [0,2,1]), ([11,88,1368], [0,1,2]), ([11,1368,5], [2,0,1]), ([11,1368,8], [2,0,1]), ([11,1368,85], [0,2,1]), ([11,1368,88], [0,2,1])]
theorem allCons {α : Type} {P : α → Prop} {a : α} {l : List α} (h : P a) (r : ∀ e ∈ l, P e) : ∀ e ∈ a :: l, P e := fun e he => (List.mem_cons.mp he).elim (fun q => q ▸ h) (r e)
theorem allNil {α : Type} {P : α → Prop} : ∀ e ∈ ([] : List α), P e := fun _ h => nomatch h
noncomputable def mpL {α β : Type} (f : α → β) : List α → List β
  | [] => []
  | x :: r => f x :: mpL f r
noncomputable def mpR {α β : Type} (f : α → β) : List α → List β
  | [] => []
  | x :: r => f x :: mpR f r
theorem mp_eq {α β : Type} {f g : α → β} : ∀ {l : List α}, mpL f l = mpR g l → ∀ e ∈ l, f e = g e
  | [], _, _, h => nomatch h
  | x :: r, h, e, he => by
    have h : f x :: mpL f r = g x :: mpR g r := h
    obtain ⟨h1, h2⟩ := List.cons.inj h
    rcases List.mem_cons.mp he with rfl | he
    · exact h1
    · exact mp_eq h2 e he
noncomputable abbrev SoS0 (e : List Int × List Nat) : Prop := ∀ (w : World) (b1 b2 : Bool) (bl : List (Code × Pos)) (pa : Option Value) (p : Pos) (N t n a : Nat) (ω : Nat → Nat) , Checks (R.ev (FW (wb w b1 b2) [] fun _ => R.exactRule (R.selIadd [])) 100000 20 ⟨.builtin "sorted" ⟨[.ref a], []⟩, none, none, bl, pa⟩ p (R.den2 (.builtin "sorted" ⟨[.ref a], []⟩)) [] ⟨[(a, R.listR [] n)], N, 0, t + 2595, 0⟩ (soH e.2) ω [] []) [2,4] (.ok (.ret (.ref (N + 1)))) [(N + 1, R.listR (e.2.map fun i => ([] : List Nat).getD i 0) 0), (a, R.listR [] n)] (N + 4) (t + 2595) [True]
theorem so0 : ∀ e ∈ soT0, SoS0 e := by
  unfold soT0
  iterate 1 refine allCons (by unfold SoS0; intro w b1; cases b1 <;> intros <;> kernel_rfl) ?_
  exact allNil
noncomputable abbrev SoS1 (e : List Int × List Nat) : Prop := ∀ (w : World) (b1 b2 : Bool) (bl : List (Code × Pos)) (pa : Option Value) (p : Pos) (N t n a : Nat) (ω : Nat → Nat) (a0 t0 u0 : Nat) (c0 : Int), Checks (R.ev (FW (wb w b1 b2) [(a0, R.tupO (e.1.getD 0 0) t0 c0 u0)] fun _ => R.exactRule (R.selIadd [(a0, R.tupO (e.1.getD 0 0) t0 c0 u0)])) 100000 20 ⟨.builtin "sorted" ⟨[.ref a], []⟩, none, none, bl, pa⟩ p (R.den2 (.builtin "sorted" ⟨[.ref a], []⟩)) [] ⟨[(a, R.listR [a0] n)], N, 0, t + 2595, 0⟩ (soH e.2) ω [] []) [2,4] (.ok (.ret (.ref (N + 1)))) [(N + 1, R.listR (e.2.map fun i => ([a0] : List Nat).getD i 0) 2), (a, R.listR [a0] n)] (N + 4) (t + 2595) [True]
theorem so1 : ∀ e ∈ soT1, SoS1 e := by
  unfold soT1
  iterate 6 refine allCons (by unfold SoS1; intro w b1; cases b1 <;> intros <;> kernel_rfl) ?_
  exact allNil
noncomputable abbrev SoS2 (e : List Int × List Nat) : Prop := ∀ (w : World) (b1 b2 : Bool) (bl : List (Code × Pos)) (pa : Option Value) (p : Pos) (N t n a : Nat) (ω : Nat → Nat) (a0 t0 u0 a1 t1 u1 : Nat) (c0 c1 : Int), Checks (R.ev (FW (wb w b1 b2) [(a0, R.tupO (e.1.getD 0 0) t0 c0 u0), (a1, R.tupO (e.1.getD 1 0) t1 c1 u1)] fun _ => R.exactRule (R.selIadd [(a0, R.tupO (e.1.getD 0 0) t0 c0 u0), (a1, R.tupO (e.1.getD 1 0) t1 c1 u1)])) 100000 20 ⟨.builtin "sorted" ⟨[.ref a], []⟩, none, none, bl, pa⟩ p (R.den2 (.builtin "sorted" ⟨[.ref a], []⟩)) [] ⟨[(a, R.listR [a0, a1] n)], N, 0, t + 2595, 0⟩ (soH e.2) ω [] []) [2,4] (.ok (.ret (.ref (N + 1)))) [(N + 1, R.listR (e.2.map fun i => ([a0, a1] : List Nat).getD i 0) 2), (a, R.listR [a0, a1] n)] (N + 4) (t + 2595) [True]
theorem so2' : ∀ (w : World) (b1 b2 : Bool) (bl : List (Code × Pos)) (pa : Option Value) (p : Pos) (N t n a : Nat) (ω : Nat → Nat) (a0 t0 u0 a1 t1 u1 : Nat) (c0 c1 : Int), mpL (fun e : List Int × List Nat => Option.elim (R.ev (FW (wb w b1 b2) [(a0, R.tupO (e.1.getD 0 0) t0 c0 u0), (a1, R.tupO (e.1.getD 1 0) t1 c1 u1)] fun _ => R.exactRule (R.selIadd [(a0, R.tupO (e.1.getD 0 0) t0 c0 u0), (a1, R.tupO (e.1.getD 1 0) t1 c1 u1)])) 100000 20 ⟨.builtin "sorted" ⟨[.ref a], []⟩, none, none, bl, pa⟩ p (R.den2 (.builtin "sorted" ⟨[.ref a], []⟩)) [] ⟨[(a, R.listR [a0, a1] n)], N, 0, t + 2595, 0⟩ (soH e.2) ω [] []) (tellD false) (tellL [2,4])) soT2 = mpR (fun e : List Int × List Nat => Option.elim (R.ev (FW (wb w b1 b2) [(a0, R.tupO (e.1.getD 0 0) t0 c0 u0), (a1, R.tupO (e.1.getD 1 0) t1 c1 u1)] fun _ => R.exactRule (R.selIadd [(a0, R.tupO (e.1.getD 0 0) t0 c0 u0), (a1, R.tupO (e.1.getD 1 0) t1 c1 u1)])) 100000 20 ⟨.builtin "sorted" ⟨[.ref a], []⟩, none, none, bl, pa⟩ p (R.den2 (.builtin "sorted" ⟨[.ref a], []⟩)) [] ⟨[(a, R.listR [a0, a1] n)], N, 0, t + 2595, 0⟩ (soH e.2) ω [] []) (tellD true) (tellR (.ok (.ret (.ref (N + 1)))) [(N + 1, R.listR (e.2.map fun i => ([a0, a1] : List Nat).getD i 0) 2), (a, R.listR [a0, a1] n)] (N + 4) (t + 2595) [True])) soT2 := by
  intro w b1; cases b1 <;> intros <;> kernel_rfl
theorem so2 : ∀ e ∈ soT2, SoS2 e := fun e he w b1 b2 bl pa p N t n a ω a0 t0 u0 a1 t1 u1 c0 c1 => mp_eq (so2' w b1 b2 bl pa p N t n a ω a0 t0 u0 a1 t1 u1 c0 c1) e he
noncomputable abbrev SoS3 (e : List Int × List Nat) : Prop := ∀ (w : World) (b1 b2 : Bool) (bl : List (Code × Pos)) (pa : Option Value) (p : Pos) (N t n a : Nat) (ω : Nat → Nat) (a0 t0 u0 a1 t1 u1 a2 t2 u2 : Nat) (c0 c1 c2 : Int), Checks (R.ev (FW (wb w b1 b2) [(a0, R.tupO (e.1.getD 0 0) t0 c0 u0), (a1, R.tupO (e.1.getD 1 0) t1 c1 u1), (a2, R.tupO (e.1.getD 2 0) t2 c2 u2)] fun _ => R.exactRule (R.selIadd [(a0, R.tupO (e.1.getD 0 0) t0 c0 u0), (a1, R.tupO (e.1.getD 1 0) t1 c1 u1), (a2, R.tupO (e.1.getD 2 0) t2 c2 u2)])) 100000 20 ⟨.builtin "sorted" ⟨[.ref a], []⟩, none, none, bl, pa⟩ p (R.den2 (.builtin "sorted" ⟨[.ref a], []⟩)) [] ⟨[(a, R.listR [a0, a1, a2] n)], N, 0, t + 2595, 0⟩ (soH e.2) ω [] []) [2,4] (.ok (.ret (.ref (N + 1)))) [(N + 1, R.listR (e.2.map fun i => ([a0, a1, a2] : List Nat).getD i 0) 2), (a, R.listR [a0, a1, a2] n)] (N + 4) (t + 2595) [True]
theorem so3' : ∀ (w : World) (b1 b2 : Bool) (bl : List (Code × Pos)) (pa : Option Value) (p : Pos) (N t n a : Nat) (ω : Nat → Nat) (a0 t0 u0 a1 t1 u1 a2 t2 u2 : Nat) (c0 c1 c2 : Int), mpL (fun e : List Int × List Nat => Option.elim (R.ev (FW (wb w b1 b2) [(a0, R.tupO (e.1.getD 0 0) t0 c0 u0), (a1, R.tupO (e.1.getD 1 0) t1 c1 u1), (a2, R.tupO (e.1.getD 2 0) t2 c2 u2)] fun _ => R.exactRule (R.selIadd [(a0, R.tupO (e.1.getD 0 0) t0 c0 u0), (a1, R.tupO (e.1.getD 1 0) t1 c1 u1), (a2, R.tupO (e.1.getD 2 0) t2 c2 u2)])) 100000 20 ⟨.builtin "sorted" ⟨[.ref a], []⟩, none, none, bl, pa⟩ p (R.den2 (.builtin "sorted" ⟨[.ref a], []⟩)) [] ⟨[(a, R.listR [a0, a1, a2] n)], N, 0, t + 2595, 0⟩ (soH e.2) ω [] []) (tellD false) (tellL [2,4])) soT3 = mpR (fun e : List Int × List Nat => Option.elim (R.ev (FW (wb w b1 b2) [(a0, R.tupO (e.1.getD 0 0) t0 c0 u0), (a1, R.tupO (e.1.getD 1 0) t1 c1 u1), (a2, R.tupO (e.1.getD 2 0) t2 c2 u2)] fun _ => R.exactRule (R.selIadd [(a0, R.tupO (e.1.getD 0 0) t0 c0 u0), (a1, R.tupO (e.1.getD 1 0) t1 c1 u1), (a2, R.tupO (e.1.getD 2 0) t2 c2 u2)])) 100000 20 ⟨.builtin "sorted" ⟨[.ref a], []⟩, none, none, bl, pa⟩ p (R.den2 (.builtin "sorted" ⟨[.ref a], []⟩)) [] ⟨[(a, R.listR [a0, a1, a2] n)], N, 0, t + 2595, 0⟩ (soH e.2) ω [] []) (tellD true) (tellR (.ok (.ret (.ref (N + 1)))) [(N + 1, R.listR (e.2.map fun i => ([a0, a1, a2] : List Nat).getD i 0) 2), (a, R.listR [a0, a1, a2] n)] (N + 4) (t + 2595) [True])) soT3 := by
  intro w b1; cases b1 <;> intros <;> kernel_rfl
theorem so3 : ∀ e ∈ soT3, SoS3 e := fun e he w b1 b2 bl pa p N t n a ω a0 t0 u0 a1 t1 u1 a2 t2 u2 c0 c1 c2 => mp_eq (so3' w b1 b2 bl pa p N t n a ω a0 t0 u0 a1 t1 u1 a2 t2 u2 c0 c1 c2) e he
end Mine.B
end
section
namespace Mine.B
open PySem PySem.W PySem.W.X
noncomputable abbrev Rw (K : Cells) : Nat → Rule := fun _ => R.exactRule (R.selIadd K)
theorem so_gen {w : World} {E : R.World0} (HE : EOk w E) {B : Nat} (hB : B + 320 ≤ 990) {Γ : Ctx} {p : Pos} {S : SS} {s : Shared} {a n m : Nat} {as as' : List Nat} {K : Cells} {hs : List Nat}
    (hC : ∀ bl pa p N t ω, Checks (R.ev (FW w K (Rw K)) 100000 20 ⟨.builtin "sorted" ⟨[.ref a], []⟩, none, none, bl, pa⟩ p (R.den2 (.builtin "sorted" ⟨[.ref a], []⟩)) [] ⟨[(a, R.listR as n)], N, 0, t + 2595, 0⟩ hs ω [] []) [2, 4] (.ok (.ret (.ref (N + 1)))) [(N + 1, R.listR as' m), (a, R.listR as n)] (N + 4) (t + 2595) [True])
    (hK : ∀ x ∈ K, s.heap.get? x.1 = some x.2 ∧ R.frozen x.2 = true) (hm : (a, R.listR as n) ∈ S.T) (hc : Γ.code = .builtin "sorted" ⟨[.ref a], []⟩) (h1 : Γ.handled = none) (h2 : Γ.own = none) (hf : R.loadOf Γ.below ≤ B) (D : R.Rep E S s) :
    wpCode E.M Γ (fun r s' => r = .ok (.ret (.ref (S.b + (S.j + 1)))) ∧ R.Rep E ⟨(S.b + (S.j + 1), R.listR as' m) :: S.T, S.b, S.j + 4, S.tb, S.ti⟩ s') p s := by
  obtain ⟨c', hh, ho, bl, pa⟩ := Γ
  dsimp only at hc h1 h2 hf
  subst hc h1 h2
  have hT : E.t0 ≤ S.tb + S.ti := D.told
  rw [HE.t0] at hT
  have D0 : R.Rep (E.at s K [a]) ⟨[(a, R.listR as n)], S.b + S.j, 0, (S.tb + S.ti - 2595) + 2595, 0⟩ s := by
    have z := D.at (K := K) (T := [(a, R.listR as n)]) hK (fun x hx => by simp only [List.mem_singleton] at hx; subst hx; exact hm) (by simp)
    exact ⟨z.size, by rw [z.toks]; show S.tb + S.ti = S.tb + S.ti - 2595 + 2595 + 0; omega, z.cell, z.nodup, z.own, z.known, z.keep, z.low, z.old, z.gens, z.drawn, z.os, z.froz, by show E.t0 ≤ S.tb + S.ti - 2595 + 2595 + 0; rw [HE.t0]; omega⟩
  have HE' : EOk w (E.at s K [a]) := ⟨HE.M, HE.kt, HE.t0⟩
  have H : R.Fits (E.at s K [a]) (FW w K (Rw K)) (B + 320) := fitsW HE' hB rfl fun _ => R.selIadd_valid HE'.M rfl
  have z := R.code_wp H (Γ := ⟨.builtin "sorted" ⟨[.ref a], []⟩, none, none, bl, pa⟩) (d := 20) (p := p) ⟨by show R.loadOf bl + 16 * 20 ≤ B + 320; omega, R.weight_le rfl⟩
    (fun ω => hC bl pa p (S.b + S.j) (S.tb + S.ti - 2595) ω) (by decide) (fun _ q hq => by simp only [List.mem_singleton] at hq; subst hq; trivial) D0
  refine wpCode_mono ?_ z
  rintro r s' ⟨_, rfl, D1⟩
  have e0 : S.b + S.j + 1 = S.b + (S.j + 1) := by omega
  rw [e0] at D1
  have D2 := D.back (K := K) (T := [(a, R.listR as n)]) (T2 := S.T.filter fun x => !(x.1 == a)) (fun x hx => by simp only [List.mem_singleton] at hx; subst hx; exact hm) D1
    (fun x hx => by obtain ⟨q1, q2⟩ := List.mem_filter.mp hx; exact ⟨q1, by simpa using q2⟩)
    (by have hs : ((S.T.filter fun x => !(x.1 == a)).map (·.1)).Sublist (S.T.map (·.1)) := (List.filter_sublist).map _; exact hs.nodup D.nodup) (fun x hx => by simp only [List.mem_singleton] at hx; subst hx; rfl)
  refine ⟨by rw [e0], ?_⟩
  have D3 : R.Rep E ⟨[(S.b + (S.j + 1), R.listR as' m), (a, R.listR as n)] ++ S.T.filter fun x => !(x.1 == a), S.b, S.j + 4, S.tb, S.ti⟩ s' :=
    ⟨by rw [D2.size]; show S.b + S.j + 4 + 0 = S.b + (S.j + 4); omega, by rw [D2.toks]; show S.tb + S.ti - 2595 + 2595 + 0 = S.tb + S.ti; omega, D2.cell, D2.nodup, D2.own, D2.known, D2.keep,
      (by have q : E.P0 ≤ S.b + S.j + 4 + 0 := D2.low; show E.P0 ≤ S.b + (S.j + 4); omega), (by have q : E.h0.objs.size ≤ S.b + S.j + 4 + 0 := D2.old; show E.h0.objs.size ≤ S.b + (S.j + 4); omega), D2.gens, D2.drawn, D2.os, D2.froz,
      (by show E.t0 ≤ S.tb + S.ti; rw [HE.t0]; omega)⟩
  refine D3.of_mem (fun x hx => ?_) ?_
  · rcases List.mem_cons.mp hx with rfl | hx
    · exact .head _
    · by_cases q : x.1 = a
      · have c1 := D.cell x hx
        have c2 := D.cell _ hm
        rw [q, c2] at c1
        have : x = (a, R.listR as n) := Prod.ext q (Option.some.inj c1).symm
        rw [this]; exact .tail _ (.head _)
      · exact List.mem_append_right _ (List.mem_filter.mpr ⟨hx, by simpa using q⟩)
  · simp only [List.map_cons, List.nodup_cons]
    refine ⟨fun hmm => ?_, D.nodup⟩
    obtain ⟨y, hy, e⟩ := List.mem_map.mp hmm
    have e' : y.1 = S.b + (S.j + 1) := e
    have hlt := Heap.lt_size (D.cell y hy)
    rw [D.size, e'] at hlt
    have hlt' : S.b + (S.j + 1) < S.b + S.j := hlt
    omega
theorem len1 {α : Type} {l : List α} (h : l.length = 1) : ∃ a, l = [a] := List.length_eq_one_iff.mp h
theorem len2 {α : Type} {l : List α} (h : l.length = 2) : ∃ a b, l = [a, b] := by
  cases l with
  | nil => cases h
  | cons a l => obtain ⟨b, rfl⟩ := len1 (l := l) (Nat.succ.inj h); exact ⟨a, b, rfl⟩
theorem len3 {α : Type} {l : List α} (h : l.length = 3) : ∃ a b c, l = [a, b, c] := by
  cases l with
  | nil => cases h
  | cons a l => obtain ⟨b, c, rfl⟩ := len2 (l := l) (Nat.succ.inj h); exact ⟨a, b, c, rfl⟩
noncomputable def soT : List (List Int × List Nat) := soT0 ++ soT1 ++ soT2 ++ soT3
noncomputable def selSorted (kl : Cells) : Code → SS → List Nat → Option R.Ans
  | .builtin i ⟨[.ref a], []⟩, S, hs => match i == "sorted" with
    | true => match R.rdList kl S a hs with
      | none => none
      | some x => match R.pairsOf x.os with
        | none => none
        | some l => some ⟨.ref (S.b + (S.j + 1)), ⟨(S.b + (S.j + 1), R.listR ((x.rest.take x.as.length).map fun i => x.as.getD i 0) (match x.as with | [] => 0 | _ => 2)) :: S.T, S.b, S.j + 4, S.tb, S.ti⟩,
            x.rest.drop x.as.length, x.ob, (l.map (·.1), x.rest.take x.as.length) ∈ soT⟩
    | false => none
  | _, _, _ => none
theorem rdList_mem {E : R.World0} {S : SS} {s : Shared} (D : R.Rep E S s) {kl : Cells} (hk : kl = E.K) {a : Nat} {hs : List Nat} {x : R.RL} (h : R.rdList kl S a hs = some x) (hob : ∀ y ∈ x.ob, y.1 = y.2) : (a, R.listR x.as x.n) ∈ S.T := by
  have c := (R.rdList_ok D hk h hob).1
  cases hs with
  | nil => simp [R.rdList] at h
  | cons i hs =>
    simp only [R.rdList] at h
    cases hy : R.rd kl S i with
    | none => rw [hy] at h; cases h
    | some y =>
      rw [hy] at h
      dsimp only at h
      split at h
      · cases h
      · split at h
        · cases h
        · cases h
          have ea := hob _ (.head _)
          simp only [V.n.injEq] at ea
          have c2 := R.rd_at D hk hy
          rw [← ea, c] at c2
          have ey : y = (a, R.listR _ _) := Prod.ext ea.symm (Option.some.inj c2).symm
          have hfz : R.frozen y.2 = false := by rw [ey]; rfl
          unfold R.rd at hy
          split at hy
          · cases hy
          · split at hy
            · have := (D.froz y (hk ▸ gt_mem hy)).2
              rw [hfz] at this; cases this
            · rw [← ey]; exact gt_mem hy
theorem perm_len {e : List Int × List Nat} (h : e ∈ soT) : (e ∈ soT0 ∧ e.1.length = 0) ∨ (e ∈ soT1 ∧ e.1.length = 1) ∨ (e ∈ soT2 ∧ e.1.length = 2) ∨ (e ∈ soT3 ∧ e.1.length = 3) := by
  have h0 : ∀ e ∈ soT0, e.1.length = 0 := by decide
  have h1 : ∀ e ∈ soT1, e.1.length = 1 := by decide
  have h2 : ∀ e ∈ soT2, e.1.length = 2 := by decide
  have h3 : ∀ e ∈ soT3, e.1.length = 3 := by decide +kernel
  unfold soT at h
  simp only [List.mem_append] at h
  rcases h with ((h | h) | h) | h
  · exact .inl ⟨h, h0 _ h⟩
  · exact .inr (.inl ⟨h, h1 _ h⟩)
  · exact .inr (.inr (.inl ⟨h, h2 _ h⟩))
  · exact .inr (.inr (.inr ⟨h, h3 _ h⟩))
theorem selSorted_valid {w : World} {E : R.World0} (HE : EOk w E) {B : Nat} (hB : B + 320 ≤ 990) {kl : Cells} (hk : kl = E.K) : R.Valid E B (R.exactRule (selSorted kl)) := by
  refine R.exactRule_valid fun {Γ c S hs x p s} h hob hq hc h1 h2 hf D => ?_
  unfold selSorted at h
  split at h
  · rename_i i a
    split at h
    · rename_i hi
      obtain rfl : i = "sorted" := beq_iff_eq.mp hi
      split at h
      · cases h
      · rename_i x1 e1
        split at h
        · cases h
        · rename_i l hl
          cases h
          have hq : (l.map (·.1), x1.rest.take x1.as.length) ∈ soT := hq
          have hob : ∀ y ∈ x1.ob, y.1 = y.2 := hob
          obtain ⟨c1, l1, g1⟩ := R.rdList_ok D hk e1 hob
          have hm := rdList_mem D hk e1 hob
          obtain ⟨l2, g2⟩ := R.pairsOf_ok hl
          obtain ⟨os, as, n, rest, ob⟩ := x1
          dsimp only at hq hob l1 g1 hm l2 g2 c1 hl e1 ⊢
          obtain ⟨b1, b2, hw⟩ := wb_self w
          rcases perm_len hq with ⟨he, hn⟩ | ⟨he, hn⟩ | ⟨he, hn⟩ | ⟨he, hn⟩
          · have hn' : l.length = 0 := by simpa using hn
            have : as = [] := List.length_eq_zero_iff.mp (by omega)
            subst this
            exact so_gen HE hB (m := 0) (K := []) (hs := soH (List.take 0 rest)) (fun bl pa p N t ω => by
              have z := so0 _ he w b1 b2 bl pa p N t n a ω
              rw [hw] at z; exact z) (fun _ h => nomatch h) hm hc h1 h2 hf D
          · have hn' : l.length = 1 := by simpa using hn
            obtain ⟨a0, rfl⟩ := len1 (l := as) (by omega)
            obtain ⟨o0, rfl⟩ := len1 (l := os) (by omega)
            obtain ⟨⟨w0, c0⟩, rfl⟩ := len1 hn'
            obtain ⟨t0, u0, q0⟩ := g2 0 (by simp) (by simp)
            have r0 := g1 0 (by simp) (by simp)
            dsimp only [List.getElem_cons_zero, List.getElem_cons_succ] at q0 r0
            subst q0
            exact so_gen HE hB (m := 2) (K := [(a0, R.tupO w0 t0 c0 u0)]) (hs := soH (List.take 1 rest)) (fun bl pa p N t ω => by
              have z := so1 _ he w b1 b2 bl pa p N t n a ω a0 t0 u0 c0
              rw [hw] at z; exact z) (fun x hx => by simp only [List.mem_cons, List.not_mem_nil, or_false] at hx; rcases hx with rfl; exact ⟨r0, rfl⟩) hm hc h1 h2 hf D
          · have hn' : l.length = 2 := by simpa using hn
            obtain ⟨a0, a1, rfl⟩ := len2 (l := as) (by omega)
            obtain ⟨o0, o1, rfl⟩ := len2 (l := os) (by omega)
            obtain ⟨⟨w0, c0⟩, ⟨w1, c1⟩, rfl⟩ := len2 hn'
            obtain ⟨t0, u0, q0⟩ := g2 0 (by simp) (by simp)
            have r0 := g1 0 (by simp) (by simp)
            obtain ⟨t1, u1, q1⟩ := g2 1 (by simp) (by simp)
            have r1 := g1 1 (by simp) (by simp)
            dsimp only [List.getElem_cons_zero, List.getElem_cons_succ] at q0 r0 q1 r1
            subst q0 q1
            exact so_gen HE hB (m := 2) (K := [(a0, R.tupO w0 t0 c0 u0), (a1, R.tupO w1 t1 c1 u1)]) (hs := soH (List.take 2 rest)) (fun bl pa p N t ω => by
              have z := so2 _ he w b1 b2 bl pa p N t n a ω a0 t0 u0 a1 t1 u1 c0 c1
              rw [hw] at z; exact z) (fun x hx => by simp only [List.mem_cons, List.not_mem_nil, or_false] at hx; rcases hx with rfl | rfl; exact ⟨r0, rfl⟩; exact ⟨r1, rfl⟩) hm hc h1 h2 hf D
          · have hn' : l.length = 3 := by simpa using hn
            obtain ⟨a0, a1, a2, rfl⟩ := len3 (l := as) (by omega)
            obtain ⟨o0, o1, o2, rfl⟩ := len3 (l := os) (by omega)
            obtain ⟨⟨w0, c0⟩, ⟨w1, c1⟩, ⟨w2, c2⟩, rfl⟩ := len3 hn'
            obtain ⟨t0, u0, q0⟩ := g2 0 (by simp) (by simp)
            have r0 := g1 0 (by simp) (by simp)
            obtain ⟨t1, u1, q1⟩ := g2 1 (by simp) (by simp)
            have r1 := g1 1 (by simp) (by simp)
            obtain ⟨t2, u2, q2⟩ := g2 2 (by simp) (by simp)
            have r2 := g1 2 (by simp) (by simp)
            dsimp only [List.getElem_cons_zero, List.getElem_cons_succ] at q0 r0 q1 r1 q2 r2
            subst q0 q1 q2
            exact so_gen HE hB (m := 2) (K := [(a0, R.tupO w0 t0 c0 u0), (a1, R.tupO w1 t1 c1 u1), (a2, R.tupO w2 t2 c2 u2)]) (hs := soH (List.take 3 rest)) (fun bl pa p N t ω => by
              have z := so3 _ he w b1 b2 bl pa p N t n a ω a0 t0 u0 a1 t1 u1 a2 t2 u2 c0 c1 c2
              rw [hw] at z; exact z) (fun x hx => by simp only [List.mem_cons, List.not_mem_nil, or_false] at hx; rcases hx with rfl | rfl | rfl; exact ⟨r0, rfl⟩; exact ⟨r1, rfl⟩; exact ⟨r2, rfl⟩) hm hc h1 h2 hf D
    · cases h
  · cases h
end Mine.B
end
section
namespace Mine.B
open PySem PySem.W PySem.W.X
theorem ac {α : Type} {P : α → Prop} {a : α} {l : List α} (h : P a) (r : ∀ x ∈ l, P x) : ∀ x ∈ a :: l, P x := List.forall_mem_cons.mpr ⟨h, r⟩
theorem an {α : Type} {P : α → Prop} : ∀ x ∈ ([] : List α), P x := fun _ h => nomatch h
noncomputable def fl : List (List Nat) → List Nat
  | [] => []
  | x :: r => x ++ fl r
noncomputable abbrev RuM : Nat → Rule := fun _ => R.leafRule R.selMod
noncomputable def es201 (P : Params) : List DictEntry := match (k201 P).data with | .dict es _ => es.toList | _ => []
noncomputable def RuG (w : World) : Nat → Rule := fun _ => R.exactRule (R.selGet 201 (es201 w.params))
noncomputable def nn96 : List Nat := [0, 1, 2, 3, 4, 5, 6, 7, 8, 9, 10, 11, 12, 13, 14, 15, 16, 17, 18, 19, 20, 21, 22, 23, 24, 25, 26, 27, 28, 29, 30, 31, 32, 33, 34, 35, 36, 37, 38, 39, 40, 41, 42, 43, 44, 45, 46, 47, 48, 49, 50, 51, 52, 53, 54, 55, 56, 57, 58, 59, 60, 61, 62, 63, 64, 65, 66, 67, 68, 69, 70, 71, 72, 73, 74, 75, 76, 77, 78, 79, 80, 81, 82, 83, 84, 85, 86, 87, 88, 89, 90, 91, 92, 93, 94, 95]
noncomputable def counts1 : List Nat := [1, 2, 3, 4, 5, 6, 7, 8, 9, 10, 11, 12, 13, 14, 15, 16, 17, 18, 19, 20]
section
variable (w : World) (b1 b2 : Bool) (bl : List (Code × Pos)) (pa : Option Value) (p : Pos) (N t : Nat) (ω : Nat → Nat)
noncomputable abbrev PQ (code : Code) (v : Nat → Value) (j k i : Nat) (hs : List Nat) : Prop := Checks (R.ev (FW (wb w b1 b2) [] noRule) 1000000 20 ⟨code, none, none, bl, pa⟩ p (R.den2 code) [] ⟨[], N, 0, t + 2595, 0⟩ hs ω [] []) [] (.ok (.ret (v (t + 2595 + i)))) [] (N + j) (t + 2595 + k) []
noncomputable abbrev spCs (n : Int) (a b c : Nat) : List Prop := [(((4:Int) == 0) = false ∧ (n.fdiv 6).fmod 4 = Int.ofNat b), (((4:Int) == 0) = false ∧ (n.fdiv 24).fmod 4 = Int.ofNat c), (((6:Int) == 0) = false ∧ n.fmod 6 = Int.ofNat a), (((6:Int) == 0) = false ∧ n.fmod 6 = Int.ofNat a)]
noncomputable abbrev SQ (code : Code) (n : Int) (h i j k : Nat) (hs : List Nat) : Prop := Checks (R.ev (FW (wb w b1 b2) [] RuM) 1000000 20 ⟨code, none, none, bl, pa⟩ p (R.den2 code) [] ⟨[], N, 0, t + 2595, 0⟩ hs ω [] []) [] (.ok (.ret (.str (spS h) (t + 2595 + i)))) [] (N + j) (t + 2595 + k) (spCs n (h % 6) (h / 6 % 4) (h / 24))
noncomputable abbrev WQ (code : Code) (h : Nat) (i : Nat → Nat) (j k : Nat) (hs : List Nat) (m : Nat) : Prop := Checks (R.ev (FW (wb w b1 b2) [] (RuG (wb w b1 b2))) 1000000 20 ⟨code, none, none, bl, pa⟩ p (R.den2 code) [] ⟨[], N, 0, t + 2595, 0⟩ hs ω [] []) [] (.ok (.ret (.str (lo (thing (h % 6))) (i (t + 2595))))) [] (N + j) (t + 2595 + k) (List.replicate m True)
end
noncomputable def y0 : List Nat := [1,1,1,0,1,0,1,0,9,9,9,9,9,0,0,9,9,10,0,0,0]
noncomputable def y1 : List Nat := [8,0,8,8,8,0,9,0,9,0,9,9,9,9,1,9,9,9,0,0,10,10]
noncomputable def y2 : List Nat := [1,1,1,0,1,0,1,0,2,2,2,0,0,1,0,3,0,3,0,3,0,3,3,3,3]
noncomputable def y3 : List Nat := [1,1,0,0,0,0,1,0,0,0,0,0,0,0,2,0,2,2,2,0,3,0,3,0,3,3,3,3]
noncomputable def y4 : List Nat := [0,0,0,0,1,1,0,0,0,0,0,0,0,0,0,1,0,0,0,0,1,1,1,1,1,0,0,0]
noncomputable def y5 : List Nat := [0,0,1,1,1,1,1,1,0,0,0,0,1,0,0,0,0,1,0,1,1,1,0,0,0,0,1,0,0,0,0,0,1]
noncomputable def y6 : List Nat := [1,0,1,0,1,1,1,1,2,2,2,0,0,0,0,2,0,0,0,0,0,0,2,2,0,1,0,1,0,1,1,1,1,1,0,4]
noncomputable def y7 : List Nat := (fl [[1,1,1,0,1,0,1,0,8,8,9,0,0,0,1,3], y0])
noncomputable def y8 : List Nat := (fl [[1,1,1,0,1,0,1,0,8,8,9,0,0,0,1,2], y0])
noncomputable def y9 : List Nat := (fl [[1,1,1,0,1,0,1,0,8,8,9,0,0,0,1,0], y0])
noncomputable def y10 : List Nat := (fl [[1,1,1,0,1,0,1,0,8,8,9,0,0,0,1,1], y0])
noncomputable def y11 : List Nat := (fl [y10, [1,1,1,1,1,0,1,0,1,0,0,0]])
noncomputable def y12 : List Nat := (fl [y10, [1,0,1,1,1,0,1,0,1,0,0,0]])
noncomputable def y13 : List Nat := (fl [y10, [1,3,1,1,1,0,1,0,1,0,0,0]])
noncomputable def y14 : List Nat := (fl [y10, [1,2,1,1,1,0,1,0,1,0,0,0]])
noncomputable def y15 : List Nat := (fl [y9, [1,1,1,1,1,0,1,0,1,0,0,0]])
noncomputable def y16 : List Nat := (fl [y9, [1,0,1,1,1,0,1,0,1,0,0,0]])
noncomputable def y17 : List Nat := (fl [y9, [1,3,1,1,1,0,1,0,1,0,0,0]])
noncomputable def y18 : List Nat := (fl [y9, [1,2,1,1,1,0,1,0,1,0,0,0]])
noncomputable def y19 : List Nat := (fl [y8, [1,1,1,1,1,0,1,0,1,0,0,0]])
noncomputable def y20 : List Nat := (fl [y8, [1,0,1,1,1,0,1,0,1,0,0,0]])
noncomputable def y21 : List Nat := (fl [y8, [1,3,1,1,1,0,1,0,1,0,0,0]])
noncomputable def y22 : List Nat := (fl [y8, [1,2,1,1,1,0,1,0,1,0,0,0]])
noncomputable def y23 : List Nat := (fl [y7, [1,1,1,1,1,0,1,0,1,0,0,0]])
noncomputable def y24 : List Nat := (fl [y7, [1,0,1,1,1,0,1,0,1,0,0,0]])
noncomputable def y25 : List Nat := (fl [y7, [1,3,1,1,1,0,1,0,1,0,0,0]])
noncomputable def y26 : List Nat := (fl [y7, [1,2,1,1,1,0,1,0,1,0,0,0]])
noncomputable def y27 : List Nat := [0,0,1,1,0,0,1,1,1,0,0,0,0,1,0,1,0,1,0,1,1,1,1,2,2,2,0,0,0,0,2,0,0,0,0,0,0,2,2,0,1,0,1,0,1,1,1,1,1,0,4]
noncomputable def y28 : List Nat := (fl [y2, y3, [1,3,3,3,0,0,4,4,7,7,8,0]])
noncomputable def y29 : List Nat := [0,0,1,1,0,0,1,0,0,1,0,3,0,3,0,3,0,3,3,3,3,1,1,0,1,0,0,0,0,1,1,0,0,0,0,1,0,0,0,0,0,0,0,0,0,0,0,0,2,0,0,0,0,1,1,0,0,0,0,0,0,0,0,0,1,0,0,0,0,1,1,1,1,1,0]
noncomputable def y30 : List Nat := (fl [[0,0,1,1,0,0,1,1,1,0,0,0,0,1,0,1,0,1,0,1,1,1,1,2,2,2,0,0,0,0,2,0,0,0,0,0,0,2,2,0], y6])
noncomputable def y31 : List Nat := (fl [[0,0,1,1,0,0,2,0,1,0], y28, [1,0]])
noncomputable def y32 : List Nat := (fl [[0,0,1,1,0,0,2,0,1,1], y28, [1,1]])
noncomputable def y33 : List Nat := (fl [[0,0,1,1,0,0,1,0,0,1,0,3,0,3,0,3,0,3,3,3,3,1,1,0,1,0,0,0,0,1,1,0,0,0,0,1,0,0,0,0,0,0,0,0,0,0,0,0,2], y4])
noncomputable def y34 : List Nat := (fl [y29, [4,0,4,4,4,0,5,0,5,0,5,5,5,5,1,5,5,5,0,0,6,6]])
noncomputable def y35 : List Nat := (fl [y33, [4,0,4,4,4,0,5,0,5,0,5,5,5,5,1,5,5,5,0,0,6,6]])
noncomputable def y36 : List Nat := (fl [[0,0,1,1,0,0,2,0,1,3], y2, y3, y3, [1,3,3,3,0,0,4,4,7,7,8,0,1,3]])
noncomputable def y37 : List Nat := (fl [[0,0,1,1,0,0,2,0,1,2], y2, y3, y3, [1,3,3,3,0,0,4,4,7,7,8,0,1,2]])
noncomputable def y38 : List Nat := [0,0,1,1,0,0,1,0,0,1,0,3,0,3,0,3,0,3,3,3,3,1,1,0,1,0,0,0,0,1,1,0,0,0,0,1,0,0,0,0,0,0,0,0,0,0,0,0,0,0,0,0,4,0,4,0,4,4,4,4,2,2,0,2,0,0,0,0,1,1,0,0,0,0,1,0,0,0,0,0,0,0,0,0,0,0,0,3,0,0,0,0,1,1,0,0,0,0,0,0,0,0,0,1,0,0,0,0,1,1,1,1,1,0]
noncomputable def y39 : List Nat := (fl [[0,0,1,1,0,0,1,0,0,1,0,3,0,3,0,3,0,3,3,3,3,1,1,0,1,0,0,0,0,1,1,0,0,0,0,1,0,0,0,0,0,0,0,0,0,0,0,0,0,0,0,0,4,0,4,0,4,4,4,4,2,2,0,2,0,0,0,0,1,1,0,0,0,0,1,0,0,0,0,0,0,0,0,0,0,0,0,3], y4])
noncomputable def y40 : List Nat := (fl [[0,0,1,1,0,0,2,0,1,4], y2, y3, y3, y3, [1,3,3,3,0,0,4,4,7,7,8,0,1,4]])
noncomputable def y41 : List Nat := (fl [y38, [5,0,5,5,5,0,6,0,6,0,6,6,6,6,1,6,6,6,0,0,7,7]])
noncomputable def y42 : List Nat := (fl [y39, [5,0,5,5,5,0,6,0,6,0,6,6,6,6,1,6,6,6,0,0,7,7]])
noncomputable def y43 : List Nat := (fl [y29, [4,0,4,4,4,0,5,0,5,0,5,5,5,5,3,3,0,3,0,0,0,0,1,1,0,0,0,0,1,0,0,0,0,0,0,0,0,0,0,0,0,4,0,0,0,0,1,1,0,0,0,0,0,0,0,0,0,1,0,0,0,0,1,1,1,1,1,0]])
noncomputable def y44 : List Nat := (fl [y33, [4,0,4,4,4,0,5,0,5,0,5,5,5,5,3,3,0,3,0,0,0,0,1,1,0,0,0,0,1,0,0,0,0,0,0,0,0,0,0,0,0,4], y4])
noncomputable def y45 : List Nat := [0,0,1,1,0,0,1,1,1,1,0,0,0,0,1,0,0,0,0,0,0,0,0,0,0,1,1,0,1,0,0,0,0,1,0,0,0,0,1,1,1,0,1,0,1,1,0,1,0,1,1,2,1,1,1,0,1,0,1,1,2,1,1,1,0,1,0,1,1,2,1,1,1,5,5,5,5,5,5,5,0,0,0,0,1,1,1,1,1,6,0,0,6,6,0,6,0,0,0,0,6,0,0,0,0,1,1,1,0,1,0,1,1,0,1,0,1,1,2,1,1,1,0,1,0,1,1,2,1,1,1,0,1,0,1,1,2,1,1,1,10,10,10,10,10,10,10,0,0,0,0,1,1,1,1,1,11,0,0,11,11,0,11]
noncomputable def y46 : List Nat := (fl [y44, [6,0,6,6,6,0,7,0,7,0,7,7,7,7,1,7,7,7,0,0,8,8]])
noncomputable def y47 : List Nat := (fl [y38, [5,0,5,5,5,0,6,0,6,0,6,6,6,6,4,4,0,4,0,0,0,0,1,1,0,0,0,0,1,0,0,0,0,0,0,0,0,0,0,0,0,5,0,0,0,0,1,1,0,0,0,0,0,0,0,0,0,1,0,0,0,0,1,1,1,1,1,0,7,0,7,7,7,0,8,0,8,0,8,8,8,8]])
noncomputable def y48 : List Nat := (fl [y39, [5,0,5,5,5,0,6,0,6,0,6,6,6,6,4,4,0,4,0,0,0,0,1,1,0,0,0,0,1,0,0,0,0,0,0,0,0,0,0,0,0,5], y4, [7,0,7,7,7,0,8,0,8,0,8,8,8,8]])
noncomputable def y49 : List Nat := (fl [y47, [1,8,8,8,0,0,9,9]])
noncomputable def y50 : List Nat := (fl [y48, [1,8,8,8,0,0,9,9]])
noncomputable def y51 : List Nat := (fl [y47, [6,6,0,6,0,0,0,0,1,1,0,0,0,0,1,0,0,0,0,0,0,0,0,0,0,0,0,7,0,0,0,0,1,1,0,0,0,0,0,0,0,0,0,1,0,0,0,0,1,1,1,1,1,0,9,0,9,9,9,0,10,0,10,0,10,10,10,10,1,10,10,10,0,0,11,11]])
noncomputable def y52 : List Nat := (fl [y48, [6,6,0,6,0,0,0,0,1,1,0,0,0,0,1,0,0,0,0,0,0,0,0,0,0,0,0,7], y4, [9,0,9,9,9,0,10,0,10,0,10,10,10,10,1,10,10,10,0,0,11,11]])
noncomputable abbrev cap (h : Nat) (ta : Nat) : Code := .call (.ref 182) ⟨[.int (Int.ofNat h) ta], []⟩
theorem gapa (w : World) (b1 b2 : Bool) (bl : List (Code × Pos)) (pa : Option Value) (p : Pos) (N t : Nat) (ω : Nat → Nat) (ta : Nat) : PQ w b1 b2 bl pa p N t ω (cap 0 ta) (fun t => .bytes (apB 0) t) 1 6 1 [0,0,1,1,0,0,1,1,1,1,0,0,0,0,1,0,0,0,0,0,0,0,0,0,0,1,1,0,1,0,0,1] ∧ PQ w b1 b2 bl pa p N t ω (cap 1 ta) (fun t => .bytes (apB 1) t) 6 15 13 [0,0,1,1,0,0,1,1,1,1,0,0,0,0,1,0,0,0,0,0,0,0,0,0,0,1,1,0,1,0,0,0,0,1,0,0,0,0,1,1,1,0,1,0,1,1,0,1,0,1,1,2,1,1,1,0,1,0,1,1,2,1,1,1,0,1,0,1,1,2,1,1,1,5,5,5,5,5,5,5,0,0,0,0,1,1,1,1,1,6,0,0,6,6,0,6,0,0,6] ∧ PQ w b1 b2 bl pa p N t ω (cap 2 ta) (fun t => .bytes (apB 2) t) 6 15 13 [0,0,1,1,0,0,1,1,1,1,0,0,0,0,1,0,0,0,0,0,0,0,0,0,0,1,1,0,1,0,0,0,0,1,0,0,0,0,1,1,1,0,1,0,1,1,0,1,0,1,1,2,1,1,1,0,1,0,1,1,2,1,1,1,0,1,0,1,1,2,1,1,1,5,5,5,5,5,5,5,0,0,0,0,1,1,1,1,1,6,0,0,6,6,0,6,0,0,6] ∧ PQ w b1 b2 bl pa p N t ω (cap 3 ta) (fun t => .bytes (apB 3) t) 6 15 13 [0,0,1,1,0,0,1,1,1,1,0,0,0,0,1,0,0,0,0,0,0,0,0,0,0,1,1,0,1,0,0,0,0,1,0,0,0,0,1,1,1,0,1,0,1,1,0,1,0,1,1,2,1,1,1,0,1,0,1,1,2,1,1,1,0,1,0,1,1,2,1,1,1,5,5,5,5,5,5,5,0,0,0,0,1,1,1,1,1,6,0,0,6,6,0,6,0,0,6] ∧ PQ w b1 b2 bl pa p N t ω (cap 4 ta) (fun t => .bytes (apB 4) t) 6 15 13 [0,0,1,1,0,0,1,1,1,1,0,0,0,0,1,0,0,0,0,0,0,0,0,0,0,1,1,0,1,0,0,0,0,1,0,0,0,0,1,1,1,0,1,0,1,1,0,1,0,1,1,2,1,1,1,0,1,0,1,1,2,1,1,1,0,1,0,1,1,2,1,1,1,5,5,5,5,5,5,5,0,0,0,0,1,1,1,1,1,6,0,0,6,6,0,6,0,0,6] ∧ PQ w b1 b2 bl pa p N t ω (cap 5 ta) (fun t => .bytes (apB 5) t) 6 15 13 [0,0,1,1,0,0,1,1,1,1,0,0,0,0,1,0,0,0,0,0,0,0,0,0,0,1,1,0,1,0,0,0,0,1,0,0,0,0,1,1,1,0,1,0,1,1,0,1,0,1,1,2,1,1,1,0,1,0,1,1,2,1,1,1,0,1,0,1,1,2,1,1,1,5,5,5,5,5,5,5,0,0,0,0,1,1,1,1,1,6,0,0,6,6,0,6,0,0,6] ∧ PQ w b1 b2 bl pa p N t ω (cap 6 ta) (fun t => .bytes (apB 6) t) 6 15 13 [0,0,1,1,0,0,1,1,1,1,0,0,0,0,1,0,0,0,0,0,0,0,0,0,0,1,1,0,1,0,0,0,0,1,0,0,0,0,1,1,1,0,1,0,1,1,0,1,0,1,1,2,1,1,1,0,1,0,1,1,2,1,1,1,0,1,0,1,1,2,1,1,1,5,5,5,5,5,5,5,0,0,0,0,1,1,1,1,1,6,0,0,6,6,0,6,0,0,6] ∧ PQ w b1 b2 bl pa p N t ω (cap 7 ta) (fun t => .bytes (apB 7) t) 6 15 13 [0,0,1,1,0,0,1,1,1,1,0,0,0,0,1,0,0,0,0,0,0,0,0,0,0,1,1,0,1,0,0,0,0,1,0,0,0,0,1,1,1,0,1,0,1,1,0,1,0,1,1,2,1,1,1,0,1,0,1,1,2,1,1,1,0,1,0,1,1,2,1,1,1,5,5,5,5,5,5,5,0,0,0,0,1,1,1,1,1,6,0,0,6,6,0,6,0,0,6] ∧ PQ w b1 b2 bl pa p N t ω (cap 8 ta) (fun t => .bytes (apB 8) t) 6 15 13 [0,0,1,1,0,0,1,1,1,1,0,0,0,0,1,0,0,0,0,0,0,0,0,0,0,1,1,0,1,0,0,0,0,1,0,0,0,0,1,1,1,0,1,0,1,1,0,1,0,1,1,2,1,1,1,0,1,0,1,1,2,1,1,1,0,1,0,1,1,2,1,1,1,5,5,5,5,5,5,5,0,0,0,0,1,1,1,1,1,6,0,0,6,6,0,6,0,0,6] ∧ PQ w b1 b2 bl pa p N t ω (cap 9 ta) (fun t => .bytes (apB 9) t) 6 15 13 [0,0,1,1,0,0,1,1,1,1,0,0,0,0,1,0,0,0,0,0,0,0,0,0,0,1,1,0,1,0,0,0,0,1,0,0,0,0,1,1,1,0,1,0,1,1,0,1,0,1,1,2,1,1,1,0,1,0,1,1,2,1,1,1,0,1,0,1,1,2,1,1,1,5,5,5,5,5,5,5,0,0,0,0,1,1,1,1,1,6,0,0,6,6,0,6,0,0,6] ∧ PQ w b1 b2 bl pa p N t ω (cap 10 ta) (fun t => .bytes (apB 10) t) 6 15 13 [0,0,1,1,0,0,1,1,1,1,0,0,0,0,1,0,0,0,0,0,0,0,0,0,0,1,1,0,1,0,0,0,0,1,0,0,0,0,1,1,1,0,1,0,1,1,0,1,0,1,1,2,1,1,1,0,1,0,1,1,2,1,1,1,0,1,0,1,1,2,1,1,1,5,5,5,5,5,5,5,0,0,0,0,1,1,1,1,1,6,0,0,6,6,0,6,0,0,6] ∧ PQ w b1 b2 bl pa p N t ω (cap 11 ta) (fun t => .bytes (apB 11) t) 6 15 13 [0,0,1,1,0,0,1,1,1,1,0,0,0,0,1,0,0,0,0,0,0,0,0,0,0,1,1,0,1,0,0,0,0,1,0,0,0,0,1,1,1,0,1,0,1,1,0,1,0,1,1,2,1,1,1,0,1,0,1,1,2,1,1,1,0,1,0,1,1,2,1,1,1,5,5,5,5,5,5,5,0,0,0,0,1,1,1,1,1,6,0,0,6,6,0,6,0,0,6] ∧ PQ w b1 b2 bl pa p N t ω (cap 12 ta) (fun t => .bytes (apB 12) t) 6 15 13 [0,0,1,1,0,0,1,1,1,1,0,0,0,0,1,0,0,0,0,0,0,0,0,0,0,1,1,0,1,0,0,0,0,1,0,0,0,0,1,1,1,0,1,0,1,1,0,1,0,1,1,2,1,1,1,0,1,0,1,1,2,1,1,1,0,1,0,1,1,2,1,1,1,5,5,5,5,5,5,5,0,0,0,0,1,1,1,1,1,6,0,0,6,6,0,6,0,0,6] ∧ PQ w b1 b2 bl pa p N t ω (cap 13 ta) (fun t => .bytes (apB 13) t) 6 15 13 [0,0,1,1,0,0,1,1,1,1,0,0,0,0,1,0,0,0,0,0,0,0,0,0,0,1,1,0,1,0,0,0,0,1,0,0,0,0,1,1,1,0,1,0,1,1,0,1,0,1,1,2,1,1,1,0,1,0,1,1,2,1,1,1,0,1,0,1,1,2,1,1,1,5,5,5,5,5,5,5,0,0,0,0,1,1,1,1,1,6,0,0,6,6,0,6,0,0,6] ∧ PQ w b1 b2 bl pa p N t ω (cap 14 ta) (fun t => .bytes (apB 14) t) 6 15 13 [0,0,1,1,0,0,1,1,1,1,0,0,0,0,1,0,0,0,0,0,0,0,0,0,0,1,1,0,1,0,0,0,0,1,0,0,0,0,1,1,1,0,1,0,1,1,0,1,0,1,1,2,1,1,1,0,1,0,1,1,2,1,1,1,0,1,0,1,1,2,1,1,1,5,5,5,5,5,5,5,0,0,0,0,1,1,1,1,1,6,0,0,6,6,0,6,0,0,6] := by
  cases b1 <;> exact ⟨by kernel_rfl, by kernel_rfl, by kernel_rfl, by kernel_rfl, by kernel_rfl, by kernel_rfl, by kernel_rfl, by kernel_rfl, by kernel_rfl, by kernel_rfl, by kernel_rfl, by kernel_rfl, by kernel_rfl, by kernel_rfl, by kernel_rfl⟩
theorem gapb (w : World) (b1 b2 : Bool) (bl : List (Code × Pos)) (pa : Option Value) (p : Pos) (N t : Nat) (ω : Nat → Nat) (ta : Nat) : PQ w b1 b2 bl pa p N t ω (cap 15 ta) (fun t => .bytes (apB 15) t) 6 15 13 [0,0,1,1,0,0,1,1,1,1,0,0,0,0,1,0,0,0,0,0,0,0,0,0,0,1,1,0,1,0,0,0,0,1,0,0,0,0,1,1,1,0,1,0,1,1,0,1,0,1,1,2,1,1,1,0,1,0,1,1,2,1,1,1,0,1,0,1,1,2,1,1,1,5,5,5,5,5,5,5,0,0,0,0,1,1,1,1,1,6,0,0,6,6,0,6,0,0,6] ∧ PQ w b1 b2 bl pa p N t ω (cap 16 ta) (fun t => .bytes (apB 16) t) 11 25 23 (fl [y45, [0,0,11]]) ∧ PQ w b1 b2 bl pa p N t ω (cap 17 ta) (fun t => .bytes (apB 17) t) 11 25 23 (fl [y45, [0,0,11]]) ∧ PQ w b1 b2 bl pa p N t ω (cap 18 ta) (fun t => .bytes (apB 18) t) 11 25 23 (fl [y45, [0,0,11]]) ∧ PQ w b1 b2 bl pa p N t ω (cap 19 ta) (fun t => .bytes (apB 19) t) 11 25 23 (fl [y45, [0,0,11]]) ∧ PQ w b1 b2 bl pa p N t ω (cap 20 ta) (fun t => .bytes (apB 20) t) 11 25 23 (fl [y45, [0,0,11]]) ∧ PQ w b1 b2 bl pa p N t ω (cap 85 ta) (fun t => .bytes (apB 85) t) 11 25 23 (fl [y45, [0,0,11]]) ∧ PQ w b1 b2 bl pa p N t ω (cap 88 ta) (fun t => .bytes (apB 88) t) 11 25 23 (fl [y45, [0,0,11]]) ∧ PQ w b1 b2 bl pa p N t ω (cap 1368 ta) (fun t => .bytes (apB 1368) t) 16 35 33 (fl [y45, [0,0,0,0,11,0,0,0,0,1,1,1,0,1,0,1,1,0,1,0,1,1,2,1,1,1,0,1,0,1,1,2,1,1,1,0,1,0,1,1,2,1,1,1,15,15,15,15,15,15,15,0,0,0,0,1,1,1,1,1,16,0,0,16,16,0,16,0,0,16]]) := by
  cases b1 <;> exact ⟨by kernel_rfl, by kernel_rfl, by kernel_rfl, by kernel_rfl, by kernel_rfl, by kernel_rfl, by kernel_rfl, by kernel_rfl, by kernel_rfl⟩
noncomputable abbrev cnu (h : Nat) (ta : Nat) : Code := .call (.ref 263) ⟨[.str (apS h) ta], []⟩
theorem gnua (w : World) (b1 b2 : Bool) (bl : List (Code × Pos)) (pa : Option Value) (p : Pos) (N t : Nat) (ω : Nat → Nat) (ta : Nat) : PQ w b1 b2 bl pa p N t ω (cnu 0 ta) (fun t => .int (Int.ofNat 0) t) 4 4 1 [0,0,1,1,0,0,1,1,1,0,0,0,0,1,0,1,0,1,0,1,1,1,1,1,0,4] ∧ PQ w b1 b2 bl pa p N t ω (cnu 1 ta) (fun t => .int (Int.ofNat 1) t) 4 13 11 y27 ∧ PQ w b1 b2 bl pa p N t ω (cnu 2 ta) (fun t => .int (Int.ofNat 2) t) 4 13 11 y27 ∧ PQ w b1 b2 bl pa p N t ω (cnu 3 ta) (fun t => .int (Int.ofNat 3) t) 4 13 11 y27 ∧ PQ w b1 b2 bl pa p N t ω (cnu 4 ta) (fun t => .int (Int.ofNat 4) t) 4 13 11 y27 ∧ PQ w b1 b2 bl pa p N t ω (cnu 5 ta) (fun t => .int (Int.ofNat 5) t) 4 13 11 y27 ∧ PQ w b1 b2 bl pa p N t ω (cnu 6 ta) (fun t => .int (Int.ofNat 6) t) 4 13 11 y27 ∧ PQ w b1 b2 bl pa p N t ω (cnu 7 ta) (fun t => .int (Int.ofNat 7) t) 4 13 11 y27 ∧ PQ w b1 b2 bl pa p N t ω (cnu 8 ta) (fun t => .int (Int.ofNat 8) t) 4 13 11 y27 ∧ PQ w b1 b2 bl pa p N t ω (cnu 9 ta) (fun t => .int (Int.ofNat 9) t) 4 13 11 y27 ∧ PQ w b1 b2 bl pa p N t ω (cnu 10 ta) (fun t => .int (Int.ofNat 10) t) 4 13 11 y27 ∧ PQ w b1 b2 bl pa p N t ω (cnu 11 ta) (fun t => .int (Int.ofNat 11) t) 4 13 11 y27 ∧ PQ w b1 b2 bl pa p N t ω (cnu 12 ta) (fun t => .int (Int.ofNat 12) t) 4 13 11 y27 ∧ PQ w b1 b2 bl pa p N t ω (cnu 13 ta) (fun t => .int (Int.ofNat 13) t) 4 13 11 y27 ∧ PQ w b1 b2 bl pa p N t ω (cnu 14 ta) (fun t => .int (Int.ofNat 14) t) 4 13 11 y27 ∧ PQ w b1 b2 bl pa p N t ω (cnu 15 ta) (fun t => .int (Int.ofNat 15) t) 4 13 11 y27 ∧ PQ w b1 b2 bl pa p N t ω (cnu 16 ta) (fun t => .int (Int.ofNat 16) t) 4 22 20 y30 ∧ PQ w b1 b2 bl pa p N t ω (cnu 17 ta) (fun t => .int (Int.ofNat 17) t) 4 22 20 y30 ∧ PQ w b1 b2 bl pa p N t ω (cnu 18 ta) (fun t => .int (Int.ofNat 18) t) 4 22 20 y30 ∧ PQ w b1 b2 bl pa p N t ω (cnu 19 ta) (fun t => .int (Int.ofNat 19) t) 4 22 20 y30 ∧ PQ w b1 b2 bl pa p N t ω (cnu 20 ta) (fun t => .int (Int.ofNat 20) t) 4 22 20 y30 ∧ PQ w b1 b2 bl pa p N t ω (cnu 85 ta) (fun t => .int (Int.ofNat 85) t) 4 22 20 y30 ∧ PQ w b1 b2 bl pa p N t ω (cnu 88 ta) (fun t => .int (Int.ofNat 88) t) 4 22 20 y30 ∧ PQ w b1 b2 bl pa p N t ω (cnu 1368 ta) (fun t => .int (Int.ofNat 1368) t) 4 31 29 (fl [[0,0,1,1,0,0,1,1,1,0,0,0,0,1,0,1,0,1,0,1,1,1,1,2,2,2,0,0,0,0,2,0,0,0,0,0,0,2,2,0,1,0,1,0,1,1,1,1,2,2,2,0,0,0,0,2,0,0,0,0,0,0,2,2,0], y6]) := by
  cases b1 <;> exact ⟨by kernel_rfl, by kernel_rfl, by kernel_rfl, by kernel_rfl, by kernel_rfl, by kernel_rfl, by kernel_rfl, by kernel_rfl, by kernel_rfl, by kernel_rfl, by kernel_rfl, by kernel_rfl, by kernel_rfl, by kernel_rfl, by kernel_rfl, by kernel_rfl, by kernel_rfl, by kernel_rfl, by kernel_rfl, by kernel_rfl, by kernel_rfl, by kernel_rfl, by kernel_rfl, by kernel_rfl⟩
noncomputable abbrev cnl (h : Nat) (ta : Nat) : Code := .call (.ref 263) ⟨[.str (lo h) ta], []⟩
theorem gnla (w : World) (b1 b2 : Bool) (bl : List (Code × Pos)) (pa : Option Value) (p : Pos) (N t : Nat) (ω : Nat → Nat) (ta : Nat) : PQ w b1 b2 bl pa p N t ω (cnl 5 ta) (fun t => .int (Int.ofNat 5) t) 4 13 11 y27 ∧ PQ w b1 b2 bl pa p N t ω (cnl 8 ta) (fun t => .int (Int.ofNat 8) t) 4 13 11 y27 ∧ PQ w b1 b2 bl pa p N t ω (cnl 85 ta) (fun t => .int (Int.ofNat 85) t) 4 22 20 y30 ∧ PQ w b1 b2 bl pa p N t ω (cnl 88 ta) (fun t => .int (Int.ofNat 88) t) 4 22 20 y30 ∧ PQ w b1 b2 bl pa p N t ω (cnl 1368 ta) (fun t => .int (Int.ofNat 1368) t) 4 31 29 (fl [[0,0,1,1,0,0,1,1,1,0,0,0,0,1,0,1,0,1,0,1,1,1,1,2,2,2,0,0,0,0,2,0,0,0,0,0,0,2,2,0,1,0,1,0,1,1,1,1,2,2,2,0,0,0,0,2,0,0,0,0,0,0,2,2,0], y6]) ∧ PQ w b1 b2 bl pa p N t ω (cnl 11 ta) (fun t => .int (Int.ofNat 11) t) 4 13 11 y27 := by
  cases b1 <;> exact ⟨by kernel_rfl, by kernel_rfl, by kernel_rfl, by kernel_rfl, by kernel_rfl, by kernel_rfl⟩
noncomputable abbrev cdc (h : Nat) (ta tb : Nat) : Code := .builtin "bytes.decode" ⟨[.bytes (apB h) ta, .str asciiS tb], []⟩
theorem gdca (w : World) (b1 b2 : Bool) (bl : List (Code × Pos)) (pa : Option Value) (p : Pos) (N t : Nat) (ω : Nat → Nat) (ta tb : Nat) : PQ w b1 b2 bl pa p N t ω (cdc 0 ta tb) (fun t => .str (apS 0) t) 0 1 0 [] ∧ PQ w b1 b2 bl pa p N t ω (cdc 1 ta tb) (fun t => .str (apS 1) t) 0 4 3 [0,0] ∧ PQ w b1 b2 bl pa p N t ω (cdc 2 ta tb) (fun t => .str (apS 2) t) 0 4 3 [0,0] ∧ PQ w b1 b2 bl pa p N t ω (cdc 3 ta tb) (fun t => .str (apS 3) t) 0 4 3 [0,0] ∧ PQ w b1 b2 bl pa p N t ω (cdc 4 ta tb) (fun t => .str (apS 4) t) 0 4 3 [0,0] ∧ PQ w b1 b2 bl pa p N t ω (cdc 5 ta tb) (fun t => .str (apS 5) t) 0 4 3 [0,0] ∧ PQ w b1 b2 bl pa p N t ω (cdc 6 ta tb) (fun t => .str (apS 6) t) 0 4 3 [0,0] ∧ PQ w b1 b2 bl pa p N t ω (cdc 7 ta tb) (fun t => .str (apS 7) t) 0 4 3 [0,0] ∧ PQ w b1 b2 bl pa p N t ω (cdc 8 ta tb) (fun t => .str (apS 8) t) 0 4 3 [0,0] ∧ PQ w b1 b2 bl pa p N t ω (cdc 9 ta tb) (fun t => .str (apS 9) t) 0 4 3 [0,0] ∧ PQ w b1 b2 bl pa p N t ω (cdc 10 ta tb) (fun t => .str (apS 10) t) 0 4 3 [0,0] ∧ PQ w b1 b2 bl pa p N t ω (cdc 11 ta tb) (fun t => .str (apS 11) t) 0 4 3 [0,0] ∧ PQ w b1 b2 bl pa p N t ω (cdc 12 ta tb) (fun t => .str (apS 12) t) 0 4 3 [0,0] ∧ PQ w b1 b2 bl pa p N t ω (cdc 13 ta tb) (fun t => .str (apS 13) t) 0 4 3 [0,0] ∧ PQ w b1 b2 bl pa p N t ω (cdc 14 ta tb) (fun t => .str (apS 14) t) 0 4 3 [0,0] ∧ PQ w b1 b2 bl pa p N t ω (cdc 15 ta tb) (fun t => .str (apS 15) t) 0 4 3 [0,0] ∧ PQ w b1 b2 bl pa p N t ω (cdc 16 ta tb) (fun t => .str (apS 16) t) 0 4 3 [0,0] ∧ PQ w b1 b2 bl pa p N t ω (cdc 17 ta tb) (fun t => .str (apS 17) t) 0 4 3 [0,0] ∧ PQ w b1 b2 bl pa p N t ω (cdc 18 ta tb) (fun t => .str (apS 18) t) 0 4 3 [0,0] ∧ PQ w b1 b2 bl pa p N t ω (cdc 19 ta tb) (fun t => .str (apS 19) t) 0 4 3 [0,0] ∧ PQ w b1 b2 bl pa p N t ω (cdc 20 ta tb) (fun t => .str (apS 20) t) 0 4 3 [0,0] ∧ PQ w b1 b2 bl pa p N t ω (cdc 85 ta tb) (fun t => .str (apS 85) t) 0 4 3 [0,0] ∧ PQ w b1 b2 bl pa p N t ω (cdc 88 ta tb) (fun t => .str (apS 88) t) 0 4 3 [0,0] ∧ PQ w b1 b2 bl pa p N t ω (cdc 1368 ta tb) (fun t => .str (apS 1368) t) 0 4 3 [0,0] := by
  cases b1 <;> exact ⟨by kernel_rfl, by kernel_rfl, by kernel_rfl, by kernel_rfl, by kernel_rfl, by kernel_rfl, by kernel_rfl, by kernel_rfl, by kernel_rfl, by kernel_rfl, by kernel_rfl, by kernel_rfl, by kernel_rfl, by kernel_rfl, by kernel_rfl, by kernel_rfl, by kernel_rfl, by kernel_rfl, by kernel_rfl, by kernel_rfl, by kernel_rfl, by kernel_rfl, by kernel_rfl, by kernel_rfl⟩
noncomputable abbrev ccvapS (h : Nat) (sv : Value) (ta : Nat) : Code := .call (.ref 70) ⟨[sv, .str (apS h) ta], [(nameS, .bool true)]⟩
theorem gcvapSa (w : World) (b1 b2 : Bool) (bl : List (Code × Pos)) (pa : Option Value) (p : Pos) (N t : Nat) (ω : Nat → Nat) (sv : Value) (ta : Nat) : PQ w b1 b2 bl pa p N t ω (ccvapS 5 sv ta) (fun _ => .str (apS 5) ta) 1 4 0 y5 ∧ PQ w b1 b2 bl pa p N t ω (ccvapS 8 sv ta) (fun _ => .str (apS 8) ta) 1 4 0 y5 ∧ PQ w b1 b2 bl pa p N t ω (ccvapS 85 sv ta) (fun _ => .str (apS 85) ta) 1 4 0 y5 ∧ PQ w b1 b2 bl pa p N t ω (ccvapS 88 sv ta) (fun _ => .str (apS 88) ta) 1 4 0 y5 ∧ PQ w b1 b2 bl pa p N t ω (ccvapS 1368 sv ta) (fun _ => .str (apS 1368) ta) 1 4 0 y5 ∧ PQ w b1 b2 bl pa p N t ω (ccvapS 11 sv ta) (fun _ => .str (apS 11) ta) 1 4 0 y5 := by
  cases b1 <;> exact ⟨by kernel_rfl, by kernel_rfl, by kernel_rfl, by kernel_rfl, by kernel_rfl, by kernel_rfl⟩
noncomputable abbrev ccvlo (h : Nat) (sv : Value) (ta : Nat) : Code := .call (.ref 70) ⟨[sv, .str (lo h) ta], [(nameS, .bool true)]⟩
theorem gcvloa (w : World) (b1 b2 : Bool) (bl : List (Code × Pos)) (pa : Option Value) (p : Pos) (N t : Nat) (ω : Nat → Nat) (sv : Value) (ta : Nat) : PQ w b1 b2 bl pa p N t ω (ccvlo 5 sv ta) (fun _ => .str (lo 5) ta) 1 4 0 y5 ∧ PQ w b1 b2 bl pa p N t ω (ccvlo 8 sv ta) (fun _ => .str (lo 8) ta) 1 4 0 y5 ∧ PQ w b1 b2 bl pa p N t ω (ccvlo 85 sv ta) (fun _ => .str (lo 85) ta) 1 4 0 y5 ∧ PQ w b1 b2 bl pa p N t ω (ccvlo 88 sv ta) (fun _ => .str (lo 88) ta) 1 4 0 y5 ∧ PQ w b1 b2 bl pa p N t ω (ccvlo 1368 sv ta) (fun _ => .str (lo 1368) ta) 1 4 0 y5 ∧ PQ w b1 b2 bl pa p N t ω (ccvlo 11 sv ta) (fun _ => .str (lo 11) ta) 1 4 0 y5 := by
  cases b1 <;> exact ⟨by kernel_rfl, by kernel_rfl, by kernel_rfl, by kernel_rfl, by kernel_rfl, by kernel_rfl⟩
noncomputable abbrev ccvf (h : Nat) (sv : Value) (ta : Nat) : Code := .call (.ref 70) ⟨[sv, .str (apS h) ta], [(nameS, .bool false)]⟩
theorem gcvfa (w : World) (b1 b2 : Bool) (bl : List (Code × Pos)) (pa : Option Value) (p : Pos) (N t : Nat) (ω : Nat → Nat) (sv : Value) (ta : Nat) : PQ w b1 b2 bl pa p N t ω (ccvf 1 sv ta) (fun _ => .str (apS 1) ta) 1 4 0 y5 ∧ PQ w b1 b2 bl pa p N t ω (ccvf 2 sv ta) (fun _ => .str (apS 2) ta) 1 4 0 y5 ∧ PQ w b1 b2 bl pa p N t ω (ccvf 3 sv ta) (fun _ => .str (apS 3) ta) 1 4 0 y5 ∧ PQ w b1 b2 bl pa p N t ω (ccvf 4 sv ta) (fun _ => .str (apS 4) ta) 1 4 0 y5 ∧ PQ w b1 b2 bl pa p N t ω (ccvf 5 sv ta) (fun _ => .str (apS 5) ta) 1 4 0 y5 ∧ PQ w b1 b2 bl pa p N t ω (ccvf 6 sv ta) (fun _ => .str (apS 6) ta) 1 4 0 y5 ∧ PQ w b1 b2 bl pa p N t ω (ccvf 7 sv ta) (fun _ => .str (apS 7) ta) 1 4 0 y5 ∧ PQ w b1 b2 bl pa p N t ω (ccvf 8 sv ta) (fun _ => .str (apS 8) ta) 1 4 0 y5 ∧ PQ w b1 b2 bl pa p N t ω (ccvf 9 sv ta) (fun _ => .str (apS 9) ta) 1 4 0 y5 ∧ PQ w b1 b2 bl pa p N t ω (ccvf 10 sv ta) (fun _ => .str (apS 10) ta) 1 4 0 y5 ∧ PQ w b1 b2 bl pa p N t ω (ccvf 11 sv ta) (fun _ => .str (apS 11) ta) 1 4 0 y5 ∧ PQ w b1 b2 bl pa p N t ω (ccvf 12 sv ta) (fun _ => .str (apS 12) ta) 1 4 0 y5 ∧ PQ w b1 b2 bl pa p N t ω (ccvf 13 sv ta) (fun _ => .str (apS 13) ta) 1 4 0 y5 ∧ PQ w b1 b2 bl pa p N t ω (ccvf 14 sv ta) (fun _ => .str (apS 14) ta) 1 4 0 y5 ∧ PQ w b1 b2 bl pa p N t ω (ccvf 15 sv ta) (fun _ => .str (apS 15) ta) 1 4 0 y5 ∧ PQ w b1 b2 bl pa p N t ω (ccvf 16 sv ta) (fun _ => .str (apS 16) ta) 1 4 0 y5 ∧ PQ w b1 b2 bl pa p N t ω (ccvf 17 sv ta) (fun _ => .str (apS 17) ta) 1 4 0 y5 ∧ PQ w b1 b2 bl pa p N t ω (ccvf 18 sv ta) (fun _ => .str (apS 18) ta) 1 4 0 y5 ∧ PQ w b1 b2 bl pa p N t ω (ccvf 19 sv ta) (fun _ => .str (apS 19) ta) 1 4 0 y5 ∧ PQ w b1 b2 bl pa p N t ω (ccvf 20 sv ta) (fun _ => .str (apS 20) ta) 1 4 0 y5 := by
  cases b1 <;> exact ⟨by kernel_rfl, by kernel_rfl, by kernel_rfl, by kernel_rfl, by kernel_rfl, by kernel_rfl, by kernel_rfl, by kernel_rfl, by kernel_rfl, by kernel_rfl, by kernel_rfl, by kernel_rfl, by kernel_rfl, by kernel_rfl, by kernel_rfl, by kernel_rfl, by kernel_rfl, by kernel_rfl, by kernel_rfl, by kernel_rfl⟩
noncomputable abbrev clwapS (h : Nat) (ta : Nat) : Code := .builtin "str.lower" ⟨[.str (apS h) ta], []⟩
theorem glwapSa (w : World) (b1 b2 : Bool) (bl : List (Code × Pos)) (pa : Option Value) (p : Pos) (N t : Nat) (ω : Nat → Nat) (ta : Nat) : PQ w b1 b2 bl pa p N t ω (clwapS 5 ta) (fun t => .str (lo 5) t) 0 1 0 [] ∧ PQ w b1 b2 bl pa p N t ω (clwapS 8 ta) (fun t => .str (lo 8) t) 0 1 0 [] ∧ PQ w b1 b2 bl pa p N t ω (clwapS 85 ta) (fun t => .str (lo 85) t) 0 1 0 [] ∧ PQ w b1 b2 bl pa p N t ω (clwapS 88 ta) (fun t => .str (lo 88) t) 0 1 0 [] ∧ PQ w b1 b2 bl pa p N t ω (clwapS 1368 ta) (fun t => .str (lo 1368) t) 0 1 0 [] ∧ PQ w b1 b2 bl pa p N t ω (clwapS 11 ta) (fun t => .str (lo 11) t) 0 1 0 [] := by
  cases b1 <;> exact ⟨by kernel_rfl, by kernel_rfl, by kernel_rfl, by kernel_rfl, by kernel_rfl, by kernel_rfl⟩
noncomputable abbrev clwlo (h : Nat) (ta : Nat) : Code := .builtin "str.lower" ⟨[.str (lo h) ta], []⟩
theorem glwloa (w : World) (b1 b2 : Bool) (bl : List (Code × Pos)) (pa : Option Value) (p : Pos) (N t : Nat) (ω : Nat → Nat) (ta : Nat) : PQ w b1 b2 bl pa p N t ω (clwlo 5 ta) (fun t => .str (lo 5) t) 0 1 0 [] ∧ PQ w b1 b2 bl pa p N t ω (clwlo 8 ta) (fun t => .str (lo 8) t) 0 1 0 [] ∧ PQ w b1 b2 bl pa p N t ω (clwlo 85 ta) (fun t => .str (lo 85) t) 0 1 0 [] ∧ PQ w b1 b2 bl pa p N t ω (clwlo 88 ta) (fun t => .str (lo 88) t) 0 1 0 [] ∧ PQ w b1 b2 bl pa p N t ω (clwlo 1368 ta) (fun t => .str (lo 1368) t) 0 1 0 [] ∧ PQ w b1 b2 bl pa p N t ω (clwlo 11 ta) (fun t => .str (lo 11) t) 0 1 0 [] := by
  cases b1 <;> exact ⟨by kernel_rfl, by kernel_rfl, by kernel_rfl, by kernel_rfl, by kernel_rfl, by kernel_rfl⟩
noncomputable abbrev csp (h : Nat) (n : Int) (ta : Nat) : Code := .call (.ref 251) ⟨[.int n ta], []⟩
theorem gspa (w : World) (b1 b2 : Bool) (bl : List (Code × Pos)) (pa : Option Value) (p : Pos) (N t : Nat) (ω : Nat → Nat) (n : Int) (ta : Nat) : SQ w b1 b2 bl pa p N t ω (csp 0 n ta) n 0 1 10 41 (fl [y31, y16]) ∧ SQ w b1 b2 bl pa p N t ω (csp 1 n ta) n 1 2 10 41 (fl [y32, y16]) ∧ SQ w b1 b2 bl pa p N t ω (csp 2 n ta) n 2 3 10 48 (fl [y37, y16]) ∧ SQ w b1 b2 bl pa p N t ω (csp 3 n ta) n 3 4 10 48 (fl [y36, y16]) ∧ SQ w b1 b2 bl pa p N t ω (csp 4 n ta) n 4 5 10 54 (fl [y40, y16]) ∧ SQ w b1 b2 bl pa p N t ω (csp 5 n ta) n 5 6 10 41 (fl [[0,0,1,1,0,0,2,0,1,5], y28, [1,5], y16]) ∧ SQ w b1 b2 bl pa p N t ω (csp 6 n ta) n 6 36 10 41 (fl [y31, y15]) ∧ SQ w b1 b2 bl pa p N t ω (csp 7 n ta) n 7 36 10 41 (fl [y32, y15]) ∧ SQ w b1 b2 bl pa p N t ω (csp 8 n ta) n 8 43 10 48 (fl [y37, y15]) ∧ SQ w b1 b2 bl pa p N t ω (csp 9 n ta) n 9 43 10 48 (fl [y36, y15]) := by
  cases b1 <;> exact ⟨by kernel_rfl, by kernel_rfl, by kernel_rfl, by kernel_rfl, by kernel_rfl, by kernel_rfl, by kernel_rfl, by kernel_rfl, by kernel_rfl, by kernel_rfl⟩
theorem gspb (w : World) (b1 b2 : Bool) (bl : List (Code × Pos)) (pa : Option Value) (p : Pos) (N t : Nat) (ω : Nat → Nat) (n : Int) (ta : Nat) : SQ w b1 b2 bl pa p N t ω (csp 10 n ta) n 10 49 10 54 (fl [y40, y15]) ∧ SQ w b1 b2 bl pa p N t ω (csp 11 n ta) n 11 36 10 41 (fl [[0,0,1,1,0,0,2,0,1,5], y28, [1,5], y15]) ∧ SQ w b1 b2 bl pa p N t ω (csp 12 n ta) n 12 16 10 41 (fl [y31, y18]) ∧ SQ w b1 b2 bl pa p N t ω (csp 13 n ta) n 13 16 10 41 (fl [y32, y18]) ∧ SQ w b1 b2 bl pa p N t ω (csp 14 n ta) n 14 23 10 48 (fl [y37, y18]) ∧ SQ w b1 b2 bl pa p N t ω (csp 15 n ta) n 15 23 10 48 (fl [y36, y18]) ∧ SQ w b1 b2 bl pa p N t ω (csp 16 n ta) n 16 29 10 54 (fl [y40, y18]) ∧ SQ w b1 b2 bl pa p N t ω (csp 17 n ta) n 17 16 10 41 (fl [[0,0,1,1,0,0,2,0,1,5], y28, [1,5], y18]) ∧ SQ w b1 b2 bl pa p N t ω (csp 18 n ta) n 18 18 10 41 (fl [y31, y17]) ∧ SQ w b1 b2 bl pa p N t ω (csp 19 n ta) n 19 19 10 41 (fl [y32, y17]) := by
  cases b1 <;> exact ⟨by kernel_rfl, by kernel_rfl, by kernel_rfl, by kernel_rfl, by kernel_rfl, by kernel_rfl, by kernel_rfl, by kernel_rfl, by kernel_rfl, by kernel_rfl⟩
theorem gspc (w : World) (b1 b2 : Bool) (bl : List (Code × Pos)) (pa : Option Value) (p : Pos) (N t : Nat) (ω : Nat → Nat) (n : Int) (ta : Nat) : SQ w b1 b2 bl pa p N t ω (csp 20 n ta) n 20 27 10 48 (fl [y37, y17]) ∧ SQ w b1 b2 bl pa p N t ω (csp 21 n ta) n 21 28 10 48 (fl [y36, y17]) ∧ SQ w b1 b2 bl pa p N t ω (csp 22 n ta) n 22 35 10 54 (fl [y40, y17]) ∧ SQ w b1 b2 bl pa p N t ω (csp 23 n ta) n 23 23 10 41 (fl [[0,0,1,1,0,0,2,0,1,5], y28, [1,5], y17]) ∧ SQ w b1 b2 bl pa p N t ω (csp 24 n ta) n 24 41 10 42 (fl [y31, y12]) ∧ SQ w b1 b2 bl pa p N t ω (csp 25 n ta) n 25 41 10 42 (fl [y32, y12]) ∧ SQ w b1 b2 bl pa p N t ω (csp 26 n ta) n 26 48 10 49 (fl [y37, y12]) ∧ SQ w b1 b2 bl pa p N t ω (csp 27 n ta) n 27 48 10 49 (fl [y36, y12]) ∧ SQ w b1 b2 bl pa p N t ω (csp 28 n ta) n 28 54 10 55 (fl [y40, y12]) ∧ SQ w b1 b2 bl pa p N t ω (csp 29 n ta) n 29 41 10 42 (fl [[0,0,1,1,0,0,2,0,1,5], y28, [1,5], y12]) := by
  cases b1 <;> exact ⟨by kernel_rfl, by kernel_rfl, by kernel_rfl, by kernel_rfl, by kernel_rfl, by kernel_rfl, by kernel_rfl, by kernel_rfl, by kernel_rfl, by kernel_rfl⟩
theorem gspd (w : World) (b1 b2 : Bool) (bl : List (Code × Pos)) (pa : Option Value) (p : Pos) (N t : Nat) (ω : Nat → Nat) (n : Int) (ta : Nat) : SQ w b1 b2 bl pa p N t ω (csp 30 n ta) n 30 41 10 42 (fl [y31, y11]) ∧ SQ w b1 b2 bl pa p N t ω (csp 31 n ta) n 31 41 10 42 (fl [y32, y11]) ∧ SQ w b1 b2 bl pa p N t ω (csp 32 n ta) n 32 48 10 49 (fl [y37, y11]) ∧ SQ w b1 b2 bl pa p N t ω (csp 33 n ta) n 33 48 10 49 (fl [y36, y11]) ∧ SQ w b1 b2 bl pa p N t ω (csp 34 n ta) n 34 54 10 55 (fl [y40, y11]) ∧ SQ w b1 b2 bl pa p N t ω (csp 35 n ta) n 35 41 10 42 (fl [[0,0,1,1,0,0,2,0,1,5], y28, [1,5], y11]) ∧ SQ w b1 b2 bl pa p N t ω (csp 36 n ta) n 36 41 10 42 (fl [y31, y14]) ∧ SQ w b1 b2 bl pa p N t ω (csp 37 n ta) n 37 41 10 42 (fl [y32, y14]) ∧ SQ w b1 b2 bl pa p N t ω (csp 38 n ta) n 38 48 10 49 (fl [y37, y14]) ∧ SQ w b1 b2 bl pa p N t ω (csp 39 n ta) n 39 48 10 49 (fl [y36, y14]) := by
  cases b1 <;> exact ⟨by kernel_rfl, by kernel_rfl, by kernel_rfl, by kernel_rfl, by kernel_rfl, by kernel_rfl, by kernel_rfl, by kernel_rfl, by kernel_rfl, by kernel_rfl⟩
theorem gspe (w : World) (b1 b2 : Bool) (bl : List (Code × Pos)) (pa : Option Value) (p : Pos) (N t : Nat) (ω : Nat → Nat) (n : Int) (ta : Nat) : SQ w b1 b2 bl pa p N t ω (csp 40 n ta) n 40 54 10 55 (fl [y40, y14]) ∧ SQ w b1 b2 bl pa p N t ω (csp 41 n ta) n 41 41 10 42 (fl [[0,0,1,1,0,0,2,0,1,5], y28, [1,5], y14]) ∧ SQ w b1 b2 bl pa p N t ω (csp 42 n ta) n 42 41 10 42 (fl [y31, y13]) ∧ SQ w b1 b2 bl pa p N t ω (csp 43 n ta) n 43 41 10 42 (fl [y32, y13]) ∧ SQ w b1 b2 bl pa p N t ω (csp 44 n ta) n 44 48 10 49 (fl [y37, y13]) ∧ SQ w b1 b2 bl pa p N t ω (csp 45 n ta) n 45 48 10 49 (fl [y36, y13]) ∧ SQ w b1 b2 bl pa p N t ω (csp 46 n ta) n 46 54 10 55 (fl [y40, y13]) ∧ SQ w b1 b2 bl pa p N t ω (csp 47 n ta) n 47 41 10 42 (fl [[0,0,1,1,0,0,2,0,1,5], y28, [1,5], y13]) ∧ SQ w b1 b2 bl pa p N t ω (csp 48 n ta) n 48 41 10 42 (fl [y31, y20]) ∧ SQ w b1 b2 bl pa p N t ω (csp 49 n ta) n 49 41 10 42 (fl [y32, y20]) := by
  cases b1 <;> exact ⟨by kernel_rfl, by kernel_rfl, by kernel_rfl, by kernel_rfl, by kernel_rfl, by kernel_rfl, by kernel_rfl, by kernel_rfl, by kernel_rfl, by kernel_rfl⟩
theorem gspf (w : World) (b1 b2 : Bool) (bl : List (Code × Pos)) (pa : Option Value) (p : Pos) (N t : Nat) (ω : Nat → Nat) (n : Int) (ta : Nat) : SQ w b1 b2 bl pa p N t ω (csp 50 n ta) n 50 48 10 49 (fl [y37, y20]) ∧ SQ w b1 b2 bl pa p N t ω (csp 51 n ta) n 51 48 10 49 (fl [y36, y20]) ∧ SQ w b1 b2 bl pa p N t ω (csp 52 n ta) n 52 54 10 55 (fl [y40, y20]) ∧ SQ w b1 b2 bl pa p N t ω (csp 53 n ta) n 53 41 10 42 (fl [[0,0,1,1,0,0,2,0,1,5], y28, [1,5], y20]) ∧ SQ w b1 b2 bl pa p N t ω (csp 54 n ta) n 54 41 10 42 (fl [y31, y19]) ∧ SQ w b1 b2 bl pa p N t ω (csp 55 n ta) n 55 41 10 42 (fl [y32, y19]) ∧ SQ w b1 b2 bl pa p N t ω (csp 56 n ta) n 56 48 10 49 (fl [y37, y19]) ∧ SQ w b1 b2 bl pa p N t ω (csp 57 n ta) n 57 48 10 49 (fl [y36, y19]) ∧ SQ w b1 b2 bl pa p N t ω (csp 58 n ta) n 58 54 10 55 (fl [y40, y19]) ∧ SQ w b1 b2 bl pa p N t ω (csp 59 n ta) n 59 41 10 42 (fl [[0,0,1,1,0,0,2,0,1,5], y28, [1,5], y19]) := by
  cases b1 <;> exact ⟨by kernel_rfl, by kernel_rfl, by kernel_rfl, by kernel_rfl, by kernel_rfl, by kernel_rfl, by kernel_rfl, by kernel_rfl, by kernel_rfl, by kernel_rfl⟩
theorem gspg (w : World) (b1 b2 : Bool) (bl : List (Code × Pos)) (pa : Option Value) (p : Pos) (N t : Nat) (ω : Nat → Nat) (n : Int) (ta : Nat) : SQ w b1 b2 bl pa p N t ω (csp 60 n ta) n 60 41 10 42 (fl [y31, y22]) ∧ SQ w b1 b2 bl pa p N t ω (csp 61 n ta) n 61 41 10 42 (fl [y32, y22]) ∧ SQ w b1 b2 bl pa p N t ω (csp 62 n ta) n 62 48 10 49 (fl [y37, y22]) ∧ SQ w b1 b2 bl pa p N t ω (csp 63 n ta) n 63 48 10 49 (fl [y36, y22]) ∧ SQ w b1 b2 bl pa p N t ω (csp 64 n ta) n 64 54 10 55 (fl [y40, y22]) ∧ SQ w b1 b2 bl pa p N t ω (csp 65 n ta) n 65 41 10 42 (fl [[0,0,1,1,0,0,2,0,1,5], y28, [1,5], y22]) ∧ SQ w b1 b2 bl pa p N t ω (csp 66 n ta) n 66 41 10 42 (fl [y31, y21]) ∧ SQ w b1 b2 bl pa p N t ω (csp 67 n ta) n 67 41 10 42 (fl [y32, y21]) ∧ SQ w b1 b2 bl pa p N t ω (csp 68 n ta) n 68 48 10 49 (fl [y37, y21]) ∧ SQ w b1 b2 bl pa p N t ω (csp 69 n ta) n 69 48 10 49 (fl [y36, y21]) := by
  cases b1 <;> exact ⟨by kernel_rfl, by kernel_rfl, by kernel_rfl, by kernel_rfl, by kernel_rfl, by kernel_rfl, by kernel_rfl, by kernel_rfl, by kernel_rfl, by kernel_rfl⟩
theorem gsph (w : World) (b1 b2 : Bool) (bl : List (Code × Pos)) (pa : Option Value) (p : Pos) (N t : Nat) (ω : Nat → Nat) (n : Int) (ta : Nat) : SQ w b1 b2 bl pa p N t ω (csp 70 n ta) n 70 54 10 55 (fl [y40, y21]) ∧ SQ w b1 b2 bl pa p N t ω (csp 71 n ta) n 71 41 10 42 (fl [[0,0,1,1,0,0,2,0,1,5], y28, [1,5], y21]) ∧ SQ w b1 b2 bl pa p N t ω (csp 72 n ta) n 72 41 10 42 (fl [y31, y24]) ∧ SQ w b1 b2 bl pa p N t ω (csp 73 n ta) n 73 41 10 42 (fl [y32, y24]) ∧ SQ w b1 b2 bl pa p N t ω (csp 74 n ta) n 74 48 10 49 (fl [y37, y24]) ∧ SQ w b1 b2 bl pa p N t ω (csp 75 n ta) n 75 48 10 49 (fl [y36, y24]) ∧ SQ w b1 b2 bl pa p N t ω (csp 76 n ta) n 76 54 10 55 (fl [y40, y24]) ∧ SQ w b1 b2 bl pa p N t ω (csp 77 n ta) n 77 41 10 42 (fl [[0,0,1,1,0,0,2,0,1,5], y28, [1,5], y24]) ∧ SQ w b1 b2 bl pa p N t ω (csp 78 n ta) n 78 41 10 42 (fl [y31, y23]) ∧ SQ w b1 b2 bl pa p N t ω (csp 79 n ta) n 79 41 10 42 (fl [y32, y23]) := by
  cases b1 <;> exact ⟨by kernel_rfl, by kernel_rfl, by kernel_rfl, by kernel_rfl, by kernel_rfl, by kernel_rfl, by kernel_rfl, by kernel_rfl, by kernel_rfl, by kernel_rfl⟩
theorem gspi (w : World) (b1 b2 : Bool) (bl : List (Code × Pos)) (pa : Option Value) (p : Pos) (N t : Nat) (ω : Nat → Nat) (n : Int) (ta : Nat) : SQ w b1 b2 bl pa p N t ω (csp 80 n ta) n 80 48 10 49 (fl [y37, y23]) ∧ SQ w b1 b2 bl pa p N t ω (csp 81 n ta) n 81 48 10 49 (fl [y36, y23]) ∧ SQ w b1 b2 bl pa p N t ω (csp 82 n ta) n 82 54 10 55 (fl [y40, y23]) ∧ SQ w b1 b2 bl pa p N t ω (csp 83 n ta) n 83 41 10 42 (fl [[0,0,1,1,0,0,2,0,1,5], y28, [1,5], y23]) ∧ SQ w b1 b2 bl pa p N t ω (csp 84 n ta) n 84 41 10 42 (fl [y31, y26]) ∧ SQ w b1 b2 bl pa p N t ω (csp 85 n ta) n 85 41 10 42 (fl [y32, y26]) ∧ SQ w b1 b2 bl pa p N t ω (csp 86 n ta) n 86 48 10 49 (fl [y37, y26]) ∧ SQ w b1 b2 bl pa p N t ω (csp 87 n ta) n 87 48 10 49 (fl [y36, y26]) ∧ SQ w b1 b2 bl pa p N t ω (csp 88 n ta) n 88 54 10 55 (fl [y40, y26]) ∧ SQ w b1 b2 bl pa p N t ω (csp 89 n ta) n 89 41 10 42 (fl [[0,0,1,1,0,0,2,0,1,5], y28, [1,5], y26]) := by
  cases b1 <;> exact ⟨by kernel_rfl, by kernel_rfl, by kernel_rfl, by kernel_rfl, by kernel_rfl, by kernel_rfl, by kernel_rfl, by kernel_rfl, by kernel_rfl, by kernel_rfl⟩
theorem gspj (w : World) (b1 b2 : Bool) (bl : List (Code × Pos)) (pa : Option Value) (p : Pos) (N t : Nat) (ω : Nat → Nat) (n : Int) (ta : Nat) : SQ w b1 b2 bl pa p N t ω (csp 90 n ta) n 90 41 10 42 (fl [y31, y25]) ∧ SQ w b1 b2 bl pa p N t ω (csp 91 n ta) n 91 41 10 42 (fl [y32, y25]) ∧ SQ w b1 b2 bl pa p N t ω (csp 92 n ta) n 92 48 10 49 (fl [y37, y25]) ∧ SQ w b1 b2 bl pa p N t ω (csp 93 n ta) n 93 48 10 49 (fl [y36, y25]) ∧ SQ w b1 b2 bl pa p N t ω (csp 94 n ta) n 94 54 10 55 (fl [y40, y25]) ∧ SQ w b1 b2 bl pa p N t ω (csp 95 n ta) n 95 41 10 42 (fl [[0,0,1,1,0,0,2,0,1,5], y28, [1,5], y25]) := by
  cases b1 <;> exact ⟨by kernel_rfl, by kernel_rfl, by kernel_rfl, by kernel_rfl, by kernel_rfl, by kernel_rfl⟩
noncomputable abbrev cpr (h : Nat) (ta : Nat) : Code := .call (.ref 256) ⟨[.str (spS h) ta], []⟩
theorem gpra (w : World) (b1 b2 : Bool) (bl : List (Code × Pos)) (pa : Option Value) (p : Pos) (N t : Nat) (ω : Nat → Nat) (ta : Nat) : WQ w b1 b2 bl pa p N t ω (cpr 0 ta) 0 (fun t => t + 11) 8 12 y35 1 ∧ WQ w b1 b2 bl pa p N t ω (cpr 1 ta) 1 (fun t => t + 11) 8 12 y35 1 ∧ WQ w b1 b2 bl pa p N t ω (cpr 2 ta) 2 (fun t => t + 22) 10 23 y46 2 ∧ WQ w b1 b2 bl pa p N t ω (cpr 3 ta) 3 (fun t => t + 22) 10 23 y46 2 ∧ WQ w b1 b2 bl pa p N t ω (cpr 4 ta) 4 (fun t => t + 32) 12 33 (fl [y44, [6,0,6,6,6,0,7,0,7,0,7,7,7,7,5,5,0,5,0,0,0,0,1,1,0,0,0,0,1,0,0,0,0,0,0,0,0,0,0,0,0,6], y4, y1]) 3 ∧ WQ w b1 b2 bl pa p N t ω (cpr 5 ta) 5 (fun t => t + 11) 8 12 y35 1 ∧ WQ w b1 b2 bl pa p N t ω (cpr 6 ta) 6 (fun t => t + 11) 8 12 y35 1 ∧ WQ w b1 b2 bl pa p N t ω (cpr 7 ta) 7 (fun t => t + 11) 8 12 y35 1 ∧ WQ w b1 b2 bl pa p N t ω (cpr 8 ta) 8 (fun t => t + 22) 10 23 y46 2 ∧ WQ w b1 b2 bl pa p N t ω (cpr 9 ta) 9 (fun t => t + 22) 10 23 y46 2 := by
  cases b1 <;> exact ⟨by kernel_rfl, by kernel_rfl, by kernel_rfl, by kernel_rfl, by kernel_rfl, by kernel_rfl, by kernel_rfl, by kernel_rfl, by kernel_rfl, by kernel_rfl⟩
theorem gprb (w : World) (b1 b2 : Bool) (bl : List (Code × Pos)) (pa : Option Value) (p : Pos) (N t : Nat) (ω : Nat → Nat) (ta : Nat) : WQ w b1 b2 bl pa p N t ω (cpr 10 ta) 10 (fun t => t + 32) 12 33 (fl [y44, [6,0,6,6,6,0,7,0,7,0,7,7,7,7,5,5,0,5,0,0,0,0,1,1,0,0,0,0,1,0,0,0,0,0,0,0,0,0,0,0,0,6], y4, y1]) 3 ∧ WQ w b1 b2 bl pa p N t ω (cpr 11 ta) 11 (fun t => t + 11) 8 12 y35 1 ∧ WQ w b1 b2 bl pa p N t ω (cpr 12 ta) 12 (fun t => 1211) 8 11 y34 1 ∧ WQ w b1 b2 bl pa p N t ω (cpr 13 ta) 13 (fun t => 1220) 8 11 y34 1 ∧ WQ w b1 b2 bl pa p N t ω (cpr 14 ta) 14 (fun t => t + 20) 10 21 (fl [y43, [6,0,6,6,6,0,7,0,7,0,7,7,7,7,1,7,7,7,0,0,8,8]]) 2 ∧ WQ w b1 b2 bl pa p N t ω (cpr 15 ta) 15 (fun t => t + 20) 10 21 (fl [y43, [6,0,6,6,6,0,7,0,7,0,7,7,7,7,1,7,7,7,0,0,8,8]]) 2 ∧ WQ w b1 b2 bl pa p N t ω (cpr 16 ta) 16 (fun t => t + 29) 12 30 (fl [y43, [6,0,6,6,6,0,7,0,7,0,7,7,7,7,5,5,0,5,0,0,0,0,1,1,0,0,0,0,1,0,0,0,0,0,0,0,0,0,0,0,0,6,0,0,0,0,1,1,0,0,0,0,0,0,0,0,0,1,0,0,0,0,1,1,1,1,1,0], y1]) 3 ∧ WQ w b1 b2 bl pa p N t ω (cpr 17 ta) 17 (fun t => 1229) 8 11 y34 1 ∧ WQ w b1 b2 bl pa p N t ω (cpr 18 ta) 18 (fun t => 995) 8 11 y34 1 ∧ WQ w b1 b2 bl pa p N t ω (cpr 19 ta) 19 (fun t => 941) 8 11 y34 1 ∧ WQ w b1 b2 bl pa p N t ω (cpr 20 ta) 20 (fun t => 1160) 8 11 y34 1 := by
  cases b1 <;> exact ⟨by kernel_rfl, by kernel_rfl, by kernel_rfl, by kernel_rfl, by kernel_rfl, by kernel_rfl, by kernel_rfl, by kernel_rfl, by kernel_rfl, by kernel_rfl, by kernel_rfl⟩
theorem gprc (w : World) (b1 b2 : Bool) (bl : List (Code × Pos)) (pa : Option Value) (p : Pos) (N t : Nat) (ω : Nat → Nat) (ta : Nat) : WQ w b1 b2 bl pa p N t ω (cpr 21 ta) 21 (fun t => 1163) 8 11 y34 1 ∧ WQ w b1 b2 bl pa p N t ω (cpr 22 ta) 22 (fun t => 1169) 8 11 y34 1 ∧ WQ w b1 b2 bl pa p N t ω (cpr 23 ta) 23 (fun t => 947) 8 11 y34 1 ∧ WQ w b1 b2 bl pa p N t ω (cpr 24 ta) 24 (fun t => t + 16) 9 17 y42 1 ∧ WQ w b1 b2 bl pa p N t ω (cpr 25 ta) 25 (fun t => t + 16) 9 17 y42 1 ∧ WQ w b1 b2 bl pa p N t ω (cpr 26 ta) 26 (fun t => t + 27) 11 28 y50 2 ∧ WQ w b1 b2 bl pa p N t ω (cpr 27 ta) 27 (fun t => t + 27) 11 28 y50 2 ∧ WQ w b1 b2 bl pa p N t ω (cpr 28 ta) 28 (fun t => t + 37) 13 38 y52 3 ∧ WQ w b1 b2 bl pa p N t ω (cpr 29 ta) 29 (fun t => t + 16) 9 17 y42 1 := by
  cases b1 <;> exact ⟨by kernel_rfl, by kernel_rfl, by kernel_rfl, by kernel_rfl, by kernel_rfl, by kernel_rfl, by kernel_rfl, by kernel_rfl, by kernel_rfl⟩
theorem gprd (w : World) (b1 b2 : Bool) (bl : List (Code × Pos)) (pa : Option Value) (p : Pos) (N t : Nat) (ω : Nat → Nat) (ta : Nat) : WQ w b1 b2 bl pa p N t ω (cpr 30 ta) 30 (fun t => t + 16) 9 17 y42 1 ∧ WQ w b1 b2 bl pa p N t ω (cpr 31 ta) 31 (fun t => t + 16) 9 17 y42 1 ∧ WQ w b1 b2 bl pa p N t ω (cpr 32 ta) 32 (fun t => t + 27) 11 28 y50 2 ∧ WQ w b1 b2 bl pa p N t ω (cpr 33 ta) 33 (fun t => t + 27) 11 28 y50 2 ∧ WQ w b1 b2 bl pa p N t ω (cpr 34 ta) 34 (fun t => t + 37) 13 38 y52 3 ∧ WQ w b1 b2 bl pa p N t ω (cpr 35 ta) 35 (fun t => t + 16) 9 17 y42 1 ∧ WQ w b1 b2 bl pa p N t ω (cpr 36 ta) 36 (fun t => 1211) 9 16 y41 1 ∧ WQ w b1 b2 bl pa p N t ω (cpr 37 ta) 37 (fun t => 1220) 9 16 y41 1 := by
  cases b1 <;> exact ⟨by kernel_rfl, by kernel_rfl, by kernel_rfl, by kernel_rfl, by kernel_rfl, by kernel_rfl, by kernel_rfl, by kernel_rfl⟩
theorem gpre (w : World) (b1 b2 : Bool) (bl : List (Code × Pos)) (pa : Option Value) (p : Pos) (N t : Nat) (ω : Nat → Nat) (ta : Nat) : WQ w b1 b2 bl pa p N t ω (cpr 38 ta) 38 (fun t => t + 25) 11 26 y49 2 ∧ WQ w b1 b2 bl pa p N t ω (cpr 39 ta) 39 (fun t => t + 25) 11 26 y49 2 ∧ WQ w b1 b2 bl pa p N t ω (cpr 40 ta) 40 (fun t => t + 34) 13 35 y51 3 ∧ WQ w b1 b2 bl pa p N t ω (cpr 41 ta) 41 (fun t => 1229) 9 16 y41 1 ∧ WQ w b1 b2 bl pa p N t ω (cpr 42 ta) 42 (fun t => 995) 9 16 y41 1 ∧ WQ w b1 b2 bl pa p N t ω (cpr 43 ta) 43 (fun t => 941) 9 16 y41 1 ∧ WQ w b1 b2 bl pa p N t ω (cpr 44 ta) 44 (fun t => 1160) 9 16 y41 1 ∧ WQ w b1 b2 bl pa p N t ω (cpr 45 ta) 45 (fun t => 1163) 9 16 y41 1 ∧ WQ w b1 b2 bl pa p N t ω (cpr 46 ta) 46 (fun t => 1169) 9 16 y41 1 := by
  cases b1 <;> exact ⟨by kernel_rfl, by kernel_rfl, by kernel_rfl, by kernel_rfl, by kernel_rfl, by kernel_rfl, by kernel_rfl, by kernel_rfl, by kernel_rfl⟩
theorem gprf (w : World) (b1 b2 : Bool) (bl : List (Code × Pos)) (pa : Option Value) (p : Pos) (N t : Nat) (ω : Nat → Nat) (ta : Nat) : WQ w b1 b2 bl pa p N t ω (cpr 47 ta) 47 (fun t => 947) 9 16 y41 1 ∧ WQ w b1 b2 bl pa p N t ω (cpr 48 ta) 48 (fun t => t + 16) 9 17 y42 1 ∧ WQ w b1 b2 bl pa p N t ω (cpr 49 ta) 49 (fun t => t + 16) 9 17 y42 1 ∧ WQ w b1 b2 bl pa p N t ω (cpr 50 ta) 50 (fun t => t + 27) 11 28 y50 2 ∧ WQ w b1 b2 bl pa p N t ω (cpr 51 ta) 51 (fun t => t + 27) 11 28 y50 2 ∧ WQ w b1 b2 bl pa p N t ω (cpr 52 ta) 52 (fun t => t + 37) 13 38 y52 3 ∧ WQ w b1 b2 bl pa p N t ω (cpr 53 ta) 53 (fun t => t + 16) 9 17 y42 1 ∧ WQ w b1 b2 bl pa p N t ω (cpr 54 ta) 54 (fun t => t + 16) 9 17 y42 1 := by
  cases b1 <;> exact ⟨by kernel_rfl, by kernel_rfl, by kernel_rfl, by kernel_rfl, by kernel_rfl, by kernel_rfl, by kernel_rfl, by kernel_rfl⟩
theorem gprg (w : World) (b1 b2 : Bool) (bl : List (Code × Pos)) (pa : Option Value) (p : Pos) (N t : Nat) (ω : Nat → Nat) (ta : Nat) : WQ w b1 b2 bl pa p N t ω (cpr 55 ta) 55 (fun t => t + 16) 9 17 y42 1 ∧ WQ w b1 b2 bl pa p N t ω (cpr 56 ta) 56 (fun t => t + 27) 11 28 y50 2 ∧ WQ w b1 b2 bl pa p N t ω (cpr 57 ta) 57 (fun t => t + 27) 11 28 y50 2 ∧ WQ w b1 b2 bl pa p N t ω (cpr 58 ta) 58 (fun t => t + 37) 13 38 y52 3 ∧ WQ w b1 b2 bl pa p N t ω (cpr 59 ta) 59 (fun t => t + 16) 9 17 y42 1 ∧ WQ w b1 b2 bl pa p N t ω (cpr 60 ta) 60 (fun t => 1211) 9 16 y41 1 ∧ WQ w b1 b2 bl pa p N t ω (cpr 61 ta) 61 (fun t => 1220) 9 16 y41 1 ∧ WQ w b1 b2 bl pa p N t ω (cpr 62 ta) 62 (fun t => t + 25) 11 26 y49 2 := by
  cases b1 <;> exact ⟨by kernel_rfl, by kernel_rfl, by kernel_rfl, by kernel_rfl, by kernel_rfl, by kernel_rfl, by kernel_rfl, by kernel_rfl⟩
theorem gprh (w : World) (b1 b2 : Bool) (bl : List (Code × Pos)) (pa : Option Value) (p : Pos) (N t : Nat) (ω : Nat → Nat) (ta : Nat) : WQ w b1 b2 bl pa p N t ω (cpr 63 ta) 63 (fun t => t + 25) 11 26 y49 2 ∧ WQ w b1 b2 bl pa p N t ω (cpr 64 ta) 64 (fun t => t + 34) 13 35 y51 3 ∧ WQ w b1 b2 bl pa p N t ω (cpr 65 ta) 65 (fun t => 1229) 9 16 y41 1 ∧ WQ w b1 b2 bl pa p N t ω (cpr 66 ta) 66 (fun t => 995) 9 16 y41 1 ∧ WQ w b1 b2 bl pa p N t ω (cpr 67 ta) 67 (fun t => 941) 9 16 y41 1 ∧ WQ w b1 b2 bl pa p N t ω (cpr 68 ta) 68 (fun t => 1160) 9 16 y41 1 ∧ WQ w b1 b2 bl pa p N t ω (cpr 69 ta) 69 (fun t => 1163) 9 16 y41 1 ∧ WQ w b1 b2 bl pa p N t ω (cpr 70 ta) 70 (fun t => 1169) 9 16 y41 1 ∧ WQ w b1 b2 bl pa p N t ω (cpr 71 ta) 71 (fun t => 947) 9 16 y41 1 := by
  cases b1 <;> exact ⟨by kernel_rfl, by kernel_rfl, by kernel_rfl, by kernel_rfl, by kernel_rfl, by kernel_rfl, by kernel_rfl, by kernel_rfl, by kernel_rfl⟩
theorem gpri (w : World) (b1 b2 : Bool) (bl : List (Code × Pos)) (pa : Option Value) (p : Pos) (N t : Nat) (ω : Nat → Nat) (ta : Nat) : WQ w b1 b2 bl pa p N t ω (cpr 72 ta) 72 (fun t => t + 16) 9 17 y42 1 ∧ WQ w b1 b2 bl pa p N t ω (cpr 73 ta) 73 (fun t => t + 16) 9 17 y42 1 ∧ WQ w b1 b2 bl pa p N t ω (cpr 74 ta) 74 (fun t => t + 27) 11 28 y50 2 ∧ WQ w b1 b2 bl pa p N t ω (cpr 75 ta) 75 (fun t => t + 27) 11 28 y50 2 ∧ WQ w b1 b2 bl pa p N t ω (cpr 76 ta) 76 (fun t => t + 37) 13 38 y52 3 ∧ WQ w b1 b2 bl pa p N t ω (cpr 77 ta) 77 (fun t => t + 16) 9 17 y42 1 ∧ WQ w b1 b2 bl pa p N t ω (cpr 78 ta) 78 (fun t => t + 16) 9 17 y42 1 ∧ WQ w b1 b2 bl pa p N t ω (cpr 79 ta) 79 (fun t => t + 16) 9 17 y42 1 := by
  cases b1 <;> exact ⟨by kernel_rfl, by kernel_rfl, by kernel_rfl, by kernel_rfl, by kernel_rfl, by kernel_rfl, by kernel_rfl, by kernel_rfl⟩
theorem gprj (w : World) (b1 b2 : Bool) (bl : List (Code × Pos)) (pa : Option Value) (p : Pos) (N t : Nat) (ω : Nat → Nat) (ta : Nat) : WQ w b1 b2 bl pa p N t ω (cpr 80 ta) 80 (fun t => t + 27) 11 28 y50 2 ∧ WQ w b1 b2 bl pa p N t ω (cpr 81 ta) 81 (fun t => t + 27) 11 28 y50 2 ∧ WQ w b1 b2 bl pa p N t ω (cpr 82 ta) 82 (fun t => t + 37) 13 38 y52 3 ∧ WQ w b1 b2 bl pa p N t ω (cpr 83 ta) 83 (fun t => t + 16) 9 17 y42 1 ∧ WQ w b1 b2 bl pa p N t ω (cpr 84 ta) 84 (fun t => 1211) 9 16 y41 1 ∧ WQ w b1 b2 bl pa p N t ω (cpr 85 ta) 85 (fun t => 1220) 9 16 y41 1 ∧ WQ w b1 b2 bl pa p N t ω (cpr 86 ta) 86 (fun t => t + 25) 11 26 y49 2 := by
  cases b1 <;> exact ⟨by kernel_rfl, by kernel_rfl, by kernel_rfl, by kernel_rfl, by kernel_rfl, by kernel_rfl, by kernel_rfl⟩
theorem gprk (w : World) (b1 b2 : Bool) (bl : List (Code × Pos)) (pa : Option Value) (p : Pos) (N t : Nat) (ω : Nat → Nat) (ta : Nat) : WQ w b1 b2 bl pa p N t ω (cpr 87 ta) 87 (fun t => t + 25) 11 26 y49 2 ∧ WQ w b1 b2 bl pa p N t ω (cpr 88 ta) 88 (fun t => t + 34) 13 35 y51 3 ∧ WQ w b1 b2 bl pa p N t ω (cpr 89 ta) 89 (fun t => 1229) 9 16 y41 1 ∧ WQ w b1 b2 bl pa p N t ω (cpr 90 ta) 90 (fun t => 995) 9 16 y41 1 ∧ WQ w b1 b2 bl pa p N t ω (cpr 91 ta) 91 (fun t => 941) 9 16 y41 1 ∧ WQ w b1 b2 bl pa p N t ω (cpr 92 ta) 92 (fun t => 1160) 9 16 y41 1 ∧ WQ w b1 b2 bl pa p N t ω (cpr 93 ta) 93 (fun t => 1163) 9 16 y41 1 ∧ WQ w b1 b2 bl pa p N t ω (cpr 94 ta) 94 (fun t => 1169) 9 16 y41 1 ∧ WQ w b1 b2 bl pa p N t ω (cpr 95 ta) 95 (fun t => 947) 9 16 y41 1 := by
  cases b1 <;> exact ⟨by kernel_rfl, by kernel_rfl, by kernel_rfl, by kernel_rfl, by kernel_rfl, by kernel_rfl, by kernel_rfl, by kernel_rfl, by kernel_rfl⟩
noncomputable def SpOk (n : Int) (h : Nat) : Prop := h ∈ nn96 ∧ n.fmod 6 = Int.ofNat (h % 6) ∧ (n.fdiv 6).fmod 4 = Int.ofNat (h / 6 % 4) ∧ (n.fdiv 24).fmod 4 = Int.ofNat (h / 24)
theorem sp_cs {n : Int} {a b c : Nat} (h1 : n.fmod 6 = Int.ofNat a) (h2 : (n.fdiv 6).fmod 4 = Int.ofNat b) (h3 : (n.fdiv 24).fmod 4 = Int.ofNat c) :
    ∀ q ∈ [(((4:Int) == 0) = false ∧ (n.fdiv 6).fmod 4 = Int.ofNat b), (((4:Int) == 0) = false ∧ (n.fdiv 24).fmod 4 = Int.ofNat c), (((6:Int) == 0) = false ∧ n.fmod 6 = Int.ofNat a), (((6:Int) == 0) = false ∧ n.fmod 6 = Int.ofNat a)], q := by
  intro q hq
  simp only [List.mem_cons, List.not_mem_nil, or_false] at hq
  rcases hq with rfl | rfl | rfl | rfl
  · exact ⟨rfl, h2⟩
  · exact ⟨rfl, h3⟩
  · exact ⟨rfl, h1⟩
  · exact ⟨rfl, h1⟩
theorem apAll : ∀ h ∈ nums, ∀ ta, ∃ j k i hs, CheckP (.call (.ref 182) ⟨[.int (Int.ofNat h) ta], []⟩) (fun t => .bytes (apB h) t) j k i hs :=
  ac (fun ta => ⟨_, _, _, fun _ => _, fun w b1 b2 bl pa p N t ω => (gapa w b1 b2 bl pa p N t ω ta).1⟩)
  (ac (fun ta => ⟨_, _, _, fun _ => _, fun w b1 b2 bl pa p N t ω => (gapa w b1 b2 bl pa p N t ω ta).2.1⟩)
  (ac (fun ta => ⟨_, _, _, fun _ => _, fun w b1 b2 bl pa p N t ω => (gapa w b1 b2 bl pa p N t ω ta).2.2.1⟩)
  (ac (fun ta => ⟨_, _, _, fun _ => _, fun w b1 b2 bl pa p N t ω => (gapa w b1 b2 bl pa p N t ω ta).2.2.2.1⟩)
  (ac (fun ta => ⟨_, _, _, fun _ => _, fun w b1 b2 bl pa p N t ω => (gapa w b1 b2 bl pa p N t ω ta).2.2.2.2.1⟩)
  (ac (fun ta => ⟨_, _, _, fun _ => _, fun w b1 b2 bl pa p N t ω => (gapa w b1 b2 bl pa p N t ω ta).2.2.2.2.2.1⟩)
  (ac (fun ta => ⟨_, _, _, fun _ => _, fun w b1 b2 bl pa p N t ω => (gapa w b1 b2 bl pa p N t ω ta).2.2.2.2.2.2.1⟩)
  (ac (fun ta => ⟨_, _, _, fun _ => _, fun w b1 b2 bl pa p N t ω => (gapa w b1 b2 bl pa p N t ω ta).2.2.2.2.2.2.2.1⟩)
  (ac (fun ta => ⟨_, _, _, fun _ => _, fun w b1 b2 bl pa p N t ω => (gapa w b1 b2 bl pa p N t ω ta).2.2.2.2.2.2.2.2.1⟩)
  (ac (fun ta => ⟨_, _, _, fun _ => _, fun w b1 b2 bl pa p N t ω => (gapa w b1 b2 bl pa p N t ω ta).2.2.2.2.2.2.2.2.2.1⟩)
  (ac (fun ta => ⟨_, _, _, fun _ => _, fun w b1 b2 bl pa p N t ω => (gapa w b1 b2 bl pa p N t ω ta).2.2.2.2.2.2.2.2.2.2.1⟩)
  (ac (fun ta => ⟨_, _, _, fun _ => _, fun w b1 b2 bl pa p N t ω => (gapa w b1 b2 bl pa p N t ω ta).2.2.2.2.2.2.2.2.2.2.2.1⟩)
  (ac (fun ta => ⟨_, _, _, fun _ => _, fun w b1 b2 bl pa p N t ω => (gapa w b1 b2 bl pa p N t ω ta).2.2.2.2.2.2.2.2.2.2.2.2.1⟩)
  (ac (fun ta => ⟨_, _, _, fun _ => _, fun w b1 b2 bl pa p N t ω => (gapa w b1 b2 bl pa p N t ω ta).2.2.2.2.2.2.2.2.2.2.2.2.2.1⟩)
  (ac (fun ta => ⟨_, _, _, fun _ => _, fun w b1 b2 bl pa p N t ω => (gapa w b1 b2 bl pa p N t ω ta).2.2.2.2.2.2.2.2.2.2.2.2.2.2⟩)
  (ac (fun ta => ⟨_, _, _, fun _ => _, fun w b1 b2 bl pa p N t ω => (gapb w b1 b2 bl pa p N t ω ta).1⟩)
  (ac (fun ta => ⟨_, _, _, fun _ => _, fun w b1 b2 bl pa p N t ω => (gapb w b1 b2 bl pa p N t ω ta).2.1⟩)
  (ac (fun ta => ⟨_, _, _, fun _ => _, fun w b1 b2 bl pa p N t ω => (gapb w b1 b2 bl pa p N t ω ta).2.2.1⟩)
  (ac (fun ta => ⟨_, _, _, fun _ => _, fun w b1 b2 bl pa p N t ω => (gapb w b1 b2 bl pa p N t ω ta).2.2.2.1⟩)
  (ac (fun ta => ⟨_, _, _, fun _ => _, fun w b1 b2 bl pa p N t ω => (gapb w b1 b2 bl pa p N t ω ta).2.2.2.2.1⟩)
  (ac (fun ta => ⟨_, _, _, fun _ => _, fun w b1 b2 bl pa p N t ω => (gapb w b1 b2 bl pa p N t ω ta).2.2.2.2.2.1⟩)
  (ac (fun ta => ⟨_, _, _, fun _ => _, fun w b1 b2 bl pa p N t ω => (gapb w b1 b2 bl pa p N t ω ta).2.2.2.2.2.2.1⟩)
  (ac (fun ta => ⟨_, _, _, fun _ => _, fun w b1 b2 bl pa p N t ω => (gapb w b1 b2 bl pa p N t ω ta).2.2.2.2.2.2.2.1⟩)
  (ac (fun ta => ⟨_, _, _, fun _ => _, fun w b1 b2 bl pa p N t ω => (gapb w b1 b2 bl pa p N t ω ta).2.2.2.2.2.2.2.2⟩) an)))))))))))))))))))))))
theorem nuAll : ∀ h ∈ nums, ∀ ta, ∃ j k i hs, CheckP (.call (.ref 263) ⟨[.str (apS h) ta], []⟩) (fun t => .int (Int.ofNat h) t) j k i hs :=
  ac (fun ta => ⟨_, _, _, fun _ => _, fun w b1 b2 bl pa p N t ω => (gnua w b1 b2 bl pa p N t ω ta).1⟩)
  (ac (fun ta => ⟨_, _, _, fun _ => _, fun w b1 b2 bl pa p N t ω => (gnua w b1 b2 bl pa p N t ω ta).2.1⟩)
  (ac (fun ta => ⟨_, _, _, fun _ => _, fun w b1 b2 bl pa p N t ω => (gnua w b1 b2 bl pa p N t ω ta).2.2.1⟩)
  (ac (fun ta => ⟨_, _, _, fun _ => _, fun w b1 b2 bl pa p N t ω => (gnua w b1 b2 bl pa p N t ω ta).2.2.2.1⟩)
  (ac (fun ta => ⟨_, _, _, fun _ => _, fun w b1 b2 bl pa p N t ω => (gnua w b1 b2 bl pa p N t ω ta).2.2.2.2.1⟩)
  (ac (fun ta => ⟨_, _, _, fun _ => _, fun w b1 b2 bl pa p N t ω => (gnua w b1 b2 bl pa p N t ω ta).2.2.2.2.2.1⟩)
  (ac (fun ta => ⟨_, _, _, fun _ => _, fun w b1 b2 bl pa p N t ω => (gnua w b1 b2 bl pa p N t ω ta).2.2.2.2.2.2.1⟩)
  (ac (fun ta => ⟨_, _, _, fun _ => _, fun w b1 b2 bl pa p N t ω => (gnua w b1 b2 bl pa p N t ω ta).2.2.2.2.2.2.2.1⟩)
  (ac (fun ta => ⟨_, _, _, fun _ => _, fun w b1 b2 bl pa p N t ω => (gnua w b1 b2 bl pa p N t ω ta).2.2.2.2.2.2.2.2.1⟩)
  (ac (fun ta => ⟨_, _, _, fun _ => _, fun w b1 b2 bl pa p N t ω => (gnua w b1 b2 bl pa p N t ω ta).2.2.2.2.2.2.2.2.2.1⟩)
  (ac (fun ta => ⟨_, _, _, fun _ => _, fun w b1 b2 bl pa p N t ω => (gnua w b1 b2 bl pa p N t ω ta).2.2.2.2.2.2.2.2.2.2.1⟩)
  (ac (fun ta => ⟨_, _, _, fun _ => _, fun w b1 b2 bl pa p N t ω => (gnua w b1 b2 bl pa p N t ω ta).2.2.2.2.2.2.2.2.2.2.2.1⟩)
  (ac (fun ta => ⟨_, _, _, fun _ => _, fun w b1 b2 bl pa p N t ω => (gnua w b1 b2 bl pa p N t ω ta).2.2.2.2.2.2.2.2.2.2.2.2.1⟩)
  (ac (fun ta => ⟨_, _, _, fun _ => _, fun w b1 b2 bl pa p N t ω => (gnua w b1 b2 bl pa p N t ω ta).2.2.2.2.2.2.2.2.2.2.2.2.2.1⟩)
  (ac (fun ta => ⟨_, _, _, fun _ => _, fun w b1 b2 bl pa p N t ω => (gnua w b1 b2 bl pa p N t ω ta).2.2.2.2.2.2.2.2.2.2.2.2.2.2.1⟩)
  (ac (fun ta => ⟨_, _, _, fun _ => _, fun w b1 b2 bl pa p N t ω => (gnua w b1 b2 bl pa p N t ω ta).2.2.2.2.2.2.2.2.2.2.2.2.2.2.2.1⟩)
  (ac (fun ta => ⟨_, _, _, fun _ => _, fun w b1 b2 bl pa p N t ω => (gnua w b1 b2 bl pa p N t ω ta).2.2.2.2.2.2.2.2.2.2.2.2.2.2.2.2.1⟩)
  (ac (fun ta => ⟨_, _, _, fun _ => _, fun w b1 b2 bl pa p N t ω => (gnua w b1 b2 bl pa p N t ω ta).2.2.2.2.2.2.2.2.2.2.2.2.2.2.2.2.2.1⟩)
  (ac (fun ta => ⟨_, _, _, fun _ => _, fun w b1 b2 bl pa p N t ω => (gnua w b1 b2 bl pa p N t ω ta).2.2.2.2.2.2.2.2.2.2.2.2.2.2.2.2.2.2.1⟩)
  (ac (fun ta => ⟨_, _, _, fun _ => _, fun w b1 b2 bl pa p N t ω => (gnua w b1 b2 bl pa p N t ω ta).2.2.2.2.2.2.2.2.2.2.2.2.2.2.2.2.2.2.2.1⟩)
  (ac (fun ta => ⟨_, _, _, fun _ => _, fun w b1 b2 bl pa p N t ω => (gnua w b1 b2 bl pa p N t ω ta).2.2.2.2.2.2.2.2.2.2.2.2.2.2.2.2.2.2.2.2.1⟩)
  (ac (fun ta => ⟨_, _, _, fun _ => _, fun w b1 b2 bl pa p N t ω => (gnua w b1 b2 bl pa p N t ω ta).2.2.2.2.2.2.2.2.2.2.2.2.2.2.2.2.2.2.2.2.2.1⟩)
  (ac (fun ta => ⟨_, _, _, fun _ => _, fun w b1 b2 bl pa p N t ω => (gnua w b1 b2 bl pa p N t ω ta).2.2.2.2.2.2.2.2.2.2.2.2.2.2.2.2.2.2.2.2.2.2.1⟩)
  (ac (fun ta => ⟨_, _, _, fun _ => _, fun w b1 b2 bl pa p N t ω => (gnua w b1 b2 bl pa p N t ω ta).2.2.2.2.2.2.2.2.2.2.2.2.2.2.2.2.2.2.2.2.2.2.2⟩) an)))))))))))))))))))))))
theorem nlAll : ∀ h ∈ things, ∀ ta, ∃ j k i hs, CheckP (.call (.ref 263) ⟨[.str (lo h) ta], []⟩) (fun t => .int (Int.ofNat h) t) j k i hs :=
  ac (fun ta => ⟨_, _, _, fun _ => _, fun w b1 b2 bl pa p N t ω => (gnla w b1 b2 bl pa p N t ω ta).1⟩)
  (ac (fun ta => ⟨_, _, _, fun _ => _, fun w b1 b2 bl pa p N t ω => (gnla w b1 b2 bl pa p N t ω ta).2.1⟩)
  (ac (fun ta => ⟨_, _, _, fun _ => _, fun w b1 b2 bl pa p N t ω => (gnla w b1 b2 bl pa p N t ω ta).2.2.1⟩)
  (ac (fun ta => ⟨_, _, _, fun _ => _, fun w b1 b2 bl pa p N t ω => (gnla w b1 b2 bl pa p N t ω ta).2.2.2.1⟩)
  (ac (fun ta => ⟨_, _, _, fun _ => _, fun w b1 b2 bl pa p N t ω => (gnla w b1 b2 bl pa p N t ω ta).2.2.2.2.1⟩)
  (ac (fun ta => ⟨_, _, _, fun _ => _, fun w b1 b2 bl pa p N t ω => (gnla w b1 b2 bl pa p N t ω ta).2.2.2.2.2⟩) an)))))
theorem dcAll : ∀ h ∈ nums, ∀ ta tb, ∃ j k i hs, CheckP (.builtin "bytes.decode" ⟨[.bytes (apB h) ta, .str asciiS tb], []⟩) (fun t => .str (apS h) t) j k i hs :=
  ac (fun ta tb => ⟨_, _, _, fun _ => _, fun w b1 b2 bl pa p N t ω => (gdca w b1 b2 bl pa p N t ω ta tb).1⟩)
  (ac (fun ta tb => ⟨_, _, _, fun _ => _, fun w b1 b2 bl pa p N t ω => (gdca w b1 b2 bl pa p N t ω ta tb).2.1⟩)
  (ac (fun ta tb => ⟨_, _, _, fun _ => _, fun w b1 b2 bl pa p N t ω => (gdca w b1 b2 bl pa p N t ω ta tb).2.2.1⟩)
  (ac (fun ta tb => ⟨_, _, _, fun _ => _, fun w b1 b2 bl pa p N t ω => (gdca w b1 b2 bl pa p N t ω ta tb).2.2.2.1⟩)
  (ac (fun ta tb => ⟨_, _, _, fun _ => _, fun w b1 b2 bl pa p N t ω => (gdca w b1 b2 bl pa p N t ω ta tb).2.2.2.2.1⟩)
  (ac (fun ta tb => ⟨_, _, _, fun _ => _, fun w b1 b2 bl pa p N t ω => (gdca w b1 b2 bl pa p N t ω ta tb).2.2.2.2.2.1⟩)
  (ac (fun ta tb => ⟨_, _, _, fun _ => _, fun w b1 b2 bl pa p N t ω => (gdca w b1 b2 bl pa p N t ω ta tb).2.2.2.2.2.2.1⟩)
  (ac (fun ta tb => ⟨_, _, _, fun _ => _, fun w b1 b2 bl pa p N t ω => (gdca w b1 b2 bl pa p N t ω ta tb).2.2.2.2.2.2.2.1⟩)
  (ac (fun ta tb => ⟨_, _, _, fun _ => _, fun w b1 b2 bl pa p N t ω => (gdca w b1 b2 bl pa p N t ω ta tb).2.2.2.2.2.2.2.2.1⟩)
  (ac (fun ta tb => ⟨_, _, _, fun _ => _, fun w b1 b2 bl pa p N t ω => (gdca w b1 b2 bl pa p N t ω ta tb).2.2.2.2.2.2.2.2.2.1⟩)
  (ac (fun ta tb => ⟨_, _, _, fun _ => _, fun w b1 b2 bl pa p N t ω => (gdca w b1 b2 bl pa p N t ω ta tb).2.2.2.2.2.2.2.2.2.2.1⟩)
  (ac (fun ta tb => ⟨_, _, _, fun _ => _, fun w b1 b2 bl pa p N t ω => (gdca w b1 b2 bl pa p N t ω ta tb).2.2.2.2.2.2.2.2.2.2.2.1⟩)
  (ac (fun ta tb => ⟨_, _, _, fun _ => _, fun w b1 b2 bl pa p N t ω => (gdca w b1 b2 bl pa p N t ω ta tb).2.2.2.2.2.2.2.2.2.2.2.2.1⟩)
  (ac (fun ta tb => ⟨_, _, _, fun _ => _, fun w b1 b2 bl pa p N t ω => (gdca w b1 b2 bl pa p N t ω ta tb).2.2.2.2.2.2.2.2.2.2.2.2.2.1⟩)
  (ac (fun ta tb => ⟨_, _, _, fun _ => _, fun w b1 b2 bl pa p N t ω => (gdca w b1 b2 bl pa p N t ω ta tb).2.2.2.2.2.2.2.2.2.2.2.2.2.2.1⟩)
  (ac (fun ta tb => ⟨_, _, _, fun _ => _, fun w b1 b2 bl pa p N t ω => (gdca w b1 b2 bl pa p N t ω ta tb).2.2.2.2.2.2.2.2.2.2.2.2.2.2.2.1⟩)
  (ac (fun ta tb => ⟨_, _, _, fun _ => _, fun w b1 b2 bl pa p N t ω => (gdca w b1 b2 bl pa p N t ω ta tb).2.2.2.2.2.2.2.2.2.2.2.2.2.2.2.2.1⟩)
  (ac (fun ta tb => ⟨_, _, _, fun _ => _, fun w b1 b2 bl pa p N t ω => (gdca w b1 b2 bl pa p N t ω ta tb).2.2.2.2.2.2.2.2.2.2.2.2.2.2.2.2.2.1⟩)
  (ac (fun ta tb => ⟨_, _, _, fun _ => _, fun w b1 b2 bl pa p N t ω => (gdca w b1 b2 bl pa p N t ω ta tb).2.2.2.2.2.2.2.2.2.2.2.2.2.2.2.2.2.2.1⟩)
  (ac (fun ta tb => ⟨_, _, _, fun _ => _, fun w b1 b2 bl pa p N t ω => (gdca w b1 b2 bl pa p N t ω ta tb).2.2.2.2.2.2.2.2.2.2.2.2.2.2.2.2.2.2.2.1⟩)
  (ac (fun ta tb => ⟨_, _, _, fun _ => _, fun w b1 b2 bl pa p N t ω => (gdca w b1 b2 bl pa p N t ω ta tb).2.2.2.2.2.2.2.2.2.2.2.2.2.2.2.2.2.2.2.2.1⟩)
  (ac (fun ta tb => ⟨_, _, _, fun _ => _, fun w b1 b2 bl pa p N t ω => (gdca w b1 b2 bl pa p N t ω ta tb).2.2.2.2.2.2.2.2.2.2.2.2.2.2.2.2.2.2.2.2.2.1⟩)
  (ac (fun ta tb => ⟨_, _, _, fun _ => _, fun w b1 b2 bl pa p N t ω => (gdca w b1 b2 bl pa p N t ω ta tb).2.2.2.2.2.2.2.2.2.2.2.2.2.2.2.2.2.2.2.2.2.2.1⟩)
  (ac (fun ta tb => ⟨_, _, _, fun _ => _, fun w b1 b2 bl pa p N t ω => (gdca w b1 b2 bl pa p N t ω ta tb).2.2.2.2.2.2.2.2.2.2.2.2.2.2.2.2.2.2.2.2.2.2.2⟩) an)))))))))))))))))))))))
theorem cvapSAll : ∀ h ∈ things, ∀ sv ta, ∃ hs, CheckP (.call (.ref 70) ⟨[sv, .str (apS h) ta], [(nameS, .bool true)]⟩) (fun _ => .str (apS h) ta) 1 4 0 hs :=
  ac (fun sv ta => ⟨fun _ => _, fun w b1 b2 bl pa p N t ω => (gcvapSa w b1 b2 bl pa p N t ω sv ta).1⟩)
  (ac (fun sv ta => ⟨fun _ => _, fun w b1 b2 bl pa p N t ω => (gcvapSa w b1 b2 bl pa p N t ω sv ta).2.1⟩)
  (ac (fun sv ta => ⟨fun _ => _, fun w b1 b2 bl pa p N t ω => (gcvapSa w b1 b2 bl pa p N t ω sv ta).2.2.1⟩)
  (ac (fun sv ta => ⟨fun _ => _, fun w b1 b2 bl pa p N t ω => (gcvapSa w b1 b2 bl pa p N t ω sv ta).2.2.2.1⟩)
  (ac (fun sv ta => ⟨fun _ => _, fun w b1 b2 bl pa p N t ω => (gcvapSa w b1 b2 bl pa p N t ω sv ta).2.2.2.2.1⟩)
  (ac (fun sv ta => ⟨fun _ => _, fun w b1 b2 bl pa p N t ω => (gcvapSa w b1 b2 bl pa p N t ω sv ta).2.2.2.2.2⟩) an)))))
theorem cvloAll : ∀ h ∈ things, ∀ sv ta, ∃ hs, CheckP (.call (.ref 70) ⟨[sv, .str (lo h) ta], [(nameS, .bool true)]⟩) (fun _ => .str (lo h) ta) 1 4 0 hs :=
  ac (fun sv ta => ⟨fun _ => _, fun w b1 b2 bl pa p N t ω => (gcvloa w b1 b2 bl pa p N t ω sv ta).1⟩)
  (ac (fun sv ta => ⟨fun _ => _, fun w b1 b2 bl pa p N t ω => (gcvloa w b1 b2 bl pa p N t ω sv ta).2.1⟩)
  (ac (fun sv ta => ⟨fun _ => _, fun w b1 b2 bl pa p N t ω => (gcvloa w b1 b2 bl pa p N t ω sv ta).2.2.1⟩)
  (ac (fun sv ta => ⟨fun _ => _, fun w b1 b2 bl pa p N t ω => (gcvloa w b1 b2 bl pa p N t ω sv ta).2.2.2.1⟩)
  (ac (fun sv ta => ⟨fun _ => _, fun w b1 b2 bl pa p N t ω => (gcvloa w b1 b2 bl pa p N t ω sv ta).2.2.2.2.1⟩)
  (ac (fun sv ta => ⟨fun _ => _, fun w b1 b2 bl pa p N t ω => (gcvloa w b1 b2 bl pa p N t ω sv ta).2.2.2.2.2⟩) an)))))
theorem cvfAll : ∀ h ∈ counts1, ∀ sv ta, ∃ hs, CheckP (.call (.ref 70) ⟨[sv, .str (apS h) ta], [(nameS, .bool false)]⟩) (fun _ => .str (apS h) ta) 1 4 0 hs :=
  ac (fun sv ta => ⟨fun _ => _, fun w b1 b2 bl pa p N t ω => (gcvfa w b1 b2 bl pa p N t ω sv ta).1⟩)
  (ac (fun sv ta => ⟨fun _ => _, fun w b1 b2 bl pa p N t ω => (gcvfa w b1 b2 bl pa p N t ω sv ta).2.1⟩)
  (ac (fun sv ta => ⟨fun _ => _, fun w b1 b2 bl pa p N t ω => (gcvfa w b1 b2 bl pa p N t ω sv ta).2.2.1⟩)
  (ac (fun sv ta => ⟨fun _ => _, fun w b1 b2 bl pa p N t ω => (gcvfa w b1 b2 bl pa p N t ω sv ta).2.2.2.1⟩)
  (ac (fun sv ta => ⟨fun _ => _, fun w b1 b2 bl pa p N t ω => (gcvfa w b1 b2 bl pa p N t ω sv ta).2.2.2.2.1⟩)
  (ac (fun sv ta => ⟨fun _ => _, fun w b1 b2 bl pa p N t ω => (gcvfa w b1 b2 bl pa p N t ω sv ta).2.2.2.2.2.1⟩)
  (ac (fun sv ta => ⟨fun _ => _, fun w b1 b2 bl pa p N t ω => (gcvfa w b1 b2 bl pa p N t ω sv ta).2.2.2.2.2.2.1⟩)
  (ac (fun sv ta => ⟨fun _ => _, fun w b1 b2 bl pa p N t ω => (gcvfa w b1 b2 bl pa p N t ω sv ta).2.2.2.2.2.2.2.1⟩)
  (ac (fun sv ta => ⟨fun _ => _, fun w b1 b2 bl pa p N t ω => (gcvfa w b1 b2 bl pa p N t ω sv ta).2.2.2.2.2.2.2.2.1⟩)
  (ac (fun sv ta => ⟨fun _ => _, fun w b1 b2 bl pa p N t ω => (gcvfa w b1 b2 bl pa p N t ω sv ta).2.2.2.2.2.2.2.2.2.1⟩)
  (ac (fun sv ta => ⟨fun _ => _, fun w b1 b2 bl pa p N t ω => (gcvfa w b1 b2 bl pa p N t ω sv ta).2.2.2.2.2.2.2.2.2.2.1⟩)
  (ac (fun sv ta => ⟨fun _ => _, fun w b1 b2 bl pa p N t ω => (gcvfa w b1 b2 bl pa p N t ω sv ta).2.2.2.2.2.2.2.2.2.2.2.1⟩)
  (ac (fun sv ta => ⟨fun _ => _, fun w b1 b2 bl pa p N t ω => (gcvfa w b1 b2 bl pa p N t ω sv ta).2.2.2.2.2.2.2.2.2.2.2.2.1⟩)
  (ac (fun sv ta => ⟨fun _ => _, fun w b1 b2 bl pa p N t ω => (gcvfa w b1 b2 bl pa p N t ω sv ta).2.2.2.2.2.2.2.2.2.2.2.2.2.1⟩)
  (ac (fun sv ta => ⟨fun _ => _, fun w b1 b2 bl pa p N t ω => (gcvfa w b1 b2 bl pa p N t ω sv ta).2.2.2.2.2.2.2.2.2.2.2.2.2.2.1⟩)
  (ac (fun sv ta => ⟨fun _ => _, fun w b1 b2 bl pa p N t ω => (gcvfa w b1 b2 bl pa p N t ω sv ta).2.2.2.2.2.2.2.2.2.2.2.2.2.2.2.1⟩)
  (ac (fun sv ta => ⟨fun _ => _, fun w b1 b2 bl pa p N t ω => (gcvfa w b1 b2 bl pa p N t ω sv ta).2.2.2.2.2.2.2.2.2.2.2.2.2.2.2.2.1⟩)
  (ac (fun sv ta => ⟨fun _ => _, fun w b1 b2 bl pa p N t ω => (gcvfa w b1 b2 bl pa p N t ω sv ta).2.2.2.2.2.2.2.2.2.2.2.2.2.2.2.2.2.1⟩)
  (ac (fun sv ta => ⟨fun _ => _, fun w b1 b2 bl pa p N t ω => (gcvfa w b1 b2 bl pa p N t ω sv ta).2.2.2.2.2.2.2.2.2.2.2.2.2.2.2.2.2.2.1⟩)
  (ac (fun sv ta => ⟨fun _ => _, fun w b1 b2 bl pa p N t ω => (gcvfa w b1 b2 bl pa p N t ω sv ta).2.2.2.2.2.2.2.2.2.2.2.2.2.2.2.2.2.2.2⟩) an)))))))))))))))))))
theorem lwapSAll : ∀ h ∈ things, ∀ ta, ∃ hs, CheckP (.builtin "str.lower" ⟨[.str (apS h) ta], []⟩) (fun t => .str (lo h) t) 0 1 0 hs :=
  ac (fun ta => ⟨fun _ => _, fun w b1 b2 bl pa p N t ω => (glwapSa w b1 b2 bl pa p N t ω ta).1⟩)
  (ac (fun ta => ⟨fun _ => _, fun w b1 b2 bl pa p N t ω => (glwapSa w b1 b2 bl pa p N t ω ta).2.1⟩)
  (ac (fun ta => ⟨fun _ => _, fun w b1 b2 bl pa p N t ω => (glwapSa w b1 b2 bl pa p N t ω ta).2.2.1⟩)
  (ac (fun ta => ⟨fun _ => _, fun w b1 b2 bl pa p N t ω => (glwapSa w b1 b2 bl pa p N t ω ta).2.2.2.1⟩)
  (ac (fun ta => ⟨fun _ => _, fun w b1 b2 bl pa p N t ω => (glwapSa w b1 b2 bl pa p N t ω ta).2.2.2.2.1⟩)
  (ac (fun ta => ⟨fun _ => _, fun w b1 b2 bl pa p N t ω => (glwapSa w b1 b2 bl pa p N t ω ta).2.2.2.2.2⟩) an)))))
theorem lwloAll : ∀ h ∈ things, ∀ ta, ∃ hs, CheckP (.builtin "str.lower" ⟨[.str (lo h) ta], []⟩) (fun t => .str (lo h) t) 0 1 0 hs :=
  ac (fun ta => ⟨fun _ => _, fun w b1 b2 bl pa p N t ω => (glwloa w b1 b2 bl pa p N t ω ta).1⟩)
  (ac (fun ta => ⟨fun _ => _, fun w b1 b2 bl pa p N t ω => (glwloa w b1 b2 bl pa p N t ω ta).2.1⟩)
  (ac (fun ta => ⟨fun _ => _, fun w b1 b2 bl pa p N t ω => (glwloa w b1 b2 bl pa p N t ω ta).2.2.1⟩)
  (ac (fun ta => ⟨fun _ => _, fun w b1 b2 bl pa p N t ω => (glwloa w b1 b2 bl pa p N t ω ta).2.2.2.1⟩)
  (ac (fun ta => ⟨fun _ => _, fun w b1 b2 bl pa p N t ω => (glwloa w b1 b2 bl pa p N t ω ta).2.2.2.2.1⟩)
  (ac (fun ta => ⟨fun _ => _, fun w b1 b2 bl pa p N t ω => (glwloa w b1 b2 bl pa p N t ω ta).2.2.2.2.2⟩) an)))))
theorem spAll : ∀ h ∈ nn96, ∀ n ta, (n.fmod 6 = Int.ofNat (h % 6) ∧ (n.fdiv 6).fmod 4 = Int.ofNat (h / 6 % 4) ∧ (n.fdiv 24).fmod 4 = Int.ofNat (h / 24)) → ∃ f : Nat → Nat, ∃ j k hs cs, CheckQ RuM (.call (.ref 251) ⟨[.int n ta], []⟩) (fun t => .str (spS h) (f t)) j k hs cs ∧ ∀ q ∈ cs, q :=
  ac (fun n ta H => ⟨fun t => t + _, _, _, _, _, fun w b1 b2 bl pa p N t ω => (gspa w b1 b2 bl pa p N t ω n ta).1, sp_cs H.1 H.2.1 H.2.2⟩)
  (ac (fun n ta H => ⟨fun t => t + _, _, _, _, _, fun w b1 b2 bl pa p N t ω => (gspa w b1 b2 bl pa p N t ω n ta).2.1, sp_cs H.1 H.2.1 H.2.2⟩)
  (ac (fun n ta H => ⟨fun t => t + _, _, _, _, _, fun w b1 b2 bl pa p N t ω => (gspa w b1 b2 bl pa p N t ω n ta).2.2.1, sp_cs H.1 H.2.1 H.2.2⟩)
  (ac (fun n ta H => ⟨fun t => t + _, _, _, _, _, fun w b1 b2 bl pa p N t ω => (gspa w b1 b2 bl pa p N t ω n ta).2.2.2.1, sp_cs H.1 H.2.1 H.2.2⟩)
  (ac (fun n ta H => ⟨fun t => t + _, _, _, _, _, fun w b1 b2 bl pa p N t ω => (gspa w b1 b2 bl pa p N t ω n ta).2.2.2.2.1, sp_cs H.1 H.2.1 H.2.2⟩)
  (ac (fun n ta H => ⟨fun t => t + _, _, _, _, _, fun w b1 b2 bl pa p N t ω => (gspa w b1 b2 bl pa p N t ω n ta).2.2.2.2.2.1, sp_cs H.1 H.2.1 H.2.2⟩)
  (ac (fun n ta H => ⟨fun t => t + _, _, _, _, _, fun w b1 b2 bl pa p N t ω => (gspa w b1 b2 bl pa p N t ω n ta).2.2.2.2.2.2.1, sp_cs H.1 H.2.1 H.2.2⟩)
  (ac (fun n ta H => ⟨fun t => t + _, _, _, _, _, fun w b1 b2 bl pa p N t ω => (gspa w b1 b2 bl pa p N t ω n ta).2.2.2.2.2.2.2.1, sp_cs H.1 H.2.1 H.2.2⟩)
  (ac (fun n ta H => ⟨fun t => t + _, _, _, _, _, fun w b1 b2 bl pa p N t ω => (gspa w b1 b2 bl pa p N t ω n ta).2.2.2.2.2.2.2.2.1, sp_cs H.1 H.2.1 H.2.2⟩)
  (ac (fun n ta H => ⟨fun t => t + _, _, _, _, _, fun w b1 b2 bl pa p N t ω => (gspa w b1 b2 bl pa p N t ω n ta).2.2.2.2.2.2.2.2.2, sp_cs H.1 H.2.1 H.2.2⟩)
  (ac (fun n ta H => ⟨fun t => t + _, _, _, _, _, fun w b1 b2 bl pa p N t ω => (gspb w b1 b2 bl pa p N t ω n ta).1, sp_cs H.1 H.2.1 H.2.2⟩)
  (ac (fun n ta H => ⟨fun t => t + _, _, _, _, _, fun w b1 b2 bl pa p N t ω => (gspb w b1 b2 bl pa p N t ω n ta).2.1, sp_cs H.1 H.2.1 H.2.2⟩)
  (ac (fun n ta H => ⟨fun t => t + _, _, _, _, _, fun w b1 b2 bl pa p N t ω => (gspb w b1 b2 bl pa p N t ω n ta).2.2.1, sp_cs H.1 H.2.1 H.2.2⟩)
  (ac (fun n ta H => ⟨fun t => t + _, _, _, _, _, fun w b1 b2 bl pa p N t ω => (gspb w b1 b2 bl pa p N t ω n ta).2.2.2.1, sp_cs H.1 H.2.1 H.2.2⟩)
  (ac (fun n ta H => ⟨fun t => t + _, _, _, _, _, fun w b1 b2 bl pa p N t ω => (gspb w b1 b2 bl pa p N t ω n ta).2.2.2.2.1, sp_cs H.1 H.2.1 H.2.2⟩)
  (ac (fun n ta H => ⟨fun t => t + _, _, _, _, _, fun w b1 b2 bl pa p N t ω => (gspb w b1 b2 bl pa p N t ω n ta).2.2.2.2.2.1, sp_cs H.1 H.2.1 H.2.2⟩)
  (ac (fun n ta H => ⟨fun t => t + _, _, _, _, _, fun w b1 b2 bl pa p N t ω => (gspb w b1 b2 bl pa p N t ω n ta).2.2.2.2.2.2.1, sp_cs H.1 H.2.1 H.2.2⟩)
  (ac (fun n ta H => ⟨fun t => t + _, _, _, _, _, fun w b1 b2 bl pa p N t ω => (gspb w b1 b2 bl pa p N t ω n ta).2.2.2.2.2.2.2.1, sp_cs H.1 H.2.1 H.2.2⟩)
  (ac (fun n ta H => ⟨fun t => t + _, _, _, _, _, fun w b1 b2 bl pa p N t ω => (gspb w b1 b2 bl pa p N t ω n ta).2.2.2.2.2.2.2.2.1, sp_cs H.1 H.2.1 H.2.2⟩)
  (ac (fun n ta H => ⟨fun t => t + _, _, _, _, _, fun w b1 b2 bl pa p N t ω => (gspb w b1 b2 bl pa p N t ω n ta).2.2.2.2.2.2.2.2.2, sp_cs H.1 H.2.1 H.2.2⟩)
  (ac (fun n ta H => ⟨fun t => t + _, _, _, _, _, fun w b1 b2 bl pa p N t ω => (gspc w b1 b2 bl pa p N t ω n ta).1, sp_cs H.1 H.2.1 H.2.2⟩)
  (ac (fun n ta H => ⟨fun t => t + _, _, _, _, _, fun w b1 b2 bl pa p N t ω => (gspc w b1 b2 bl pa p N t ω n ta).2.1, sp_cs H.1 H.2.1 H.2.2⟩)
  (ac (fun n ta H => ⟨fun t => t + _, _, _, _, _, fun w b1 b2 bl pa p N t ω => (gspc w b1 b2 bl pa p N t ω n ta).2.2.1, sp_cs H.1 H.2.1 H.2.2⟩)
  (ac (fun n ta H => ⟨fun t => t + _, _, _, _, _, fun w b1 b2 bl pa p N t ω => (gspc w b1 b2 bl pa p N t ω n ta).2.2.2.1, sp_cs H.1 H.2.1 H.2.2⟩)
  (ac (fun n ta H => ⟨fun t => t + _, _, _, _, _, fun w b1 b2 bl pa p N t ω => (gspc w b1 b2 bl pa p N t ω n ta).2.2.2.2.1, sp_cs H.1 H.2.1 H.2.2⟩)
  (ac (fun n ta H => ⟨fun t => t + _, _, _, _, _, fun w b1 b2 bl pa p N t ω => (gspc w b1 b2 bl pa p N t ω n ta).2.2.2.2.2.1, sp_cs H.1 H.2.1 H.2.2⟩)
  (ac (fun n ta H => ⟨fun t => t + _, _, _, _, _, fun w b1 b2 bl pa p N t ω => (gspc w b1 b2 bl pa p N t ω n ta).2.2.2.2.2.2.1, sp_cs H.1 H.2.1 H.2.2⟩)
  (ac (fun n ta H => ⟨fun t => t + _, _, _, _, _, fun w b1 b2 bl pa p N t ω => (gspc w b1 b2 bl pa p N t ω n ta).2.2.2.2.2.2.2.1, sp_cs H.1 H.2.1 H.2.2⟩)
  (ac (fun n ta H => ⟨fun t => t + _, _, _, _, _, fun w b1 b2 bl pa p N t ω => (gspc w b1 b2 bl pa p N t ω n ta).2.2.2.2.2.2.2.2.1, sp_cs H.1 H.2.1 H.2.2⟩)
  (ac (fun n ta H => ⟨fun t => t + _, _, _, _, _, fun w b1 b2 bl pa p N t ω => (gspc w b1 b2 bl pa p N t ω n ta).2.2.2.2.2.2.2.2.2, sp_cs H.1 H.2.1 H.2.2⟩)
  (ac (fun n ta H => ⟨fun t => t + _, _, _, _, _, fun w b1 b2 bl pa p N t ω => (gspd w b1 b2 bl pa p N t ω n ta).1, sp_cs H.1 H.2.1 H.2.2⟩)
  (ac (fun n ta H => ⟨fun t => t + _, _, _, _, _, fun w b1 b2 bl pa p N t ω => (gspd w b1 b2 bl pa p N t ω n ta).2.1, sp_cs H.1 H.2.1 H.2.2⟩)
  (ac (fun n ta H => ⟨fun t => t + _, _, _, _, _, fun w b1 b2 bl pa p N t ω => (gspd w b1 b2 bl pa p N t ω n ta).2.2.1, sp_cs H.1 H.2.1 H.2.2⟩)
  (ac (fun n ta H => ⟨fun t => t + _, _, _, _, _, fun w b1 b2 bl pa p N t ω => (gspd w b1 b2 bl pa p N t ω n ta).2.2.2.1, sp_cs H.1 H.2.1 H.2.2⟩)
  (ac (fun n ta H => ⟨fun t => t + _, _, _, _, _, fun w b1 b2 bl pa p N t ω => (gspd w b1 b2 bl pa p N t ω n ta).2.2.2.2.1, sp_cs H.1 H.2.1 H.2.2⟩)
  (ac (fun n ta H => ⟨fun t => t + _, _, _, _, _, fun w b1 b2 bl pa p N t ω => (gspd w b1 b2 bl pa p N t ω n ta).2.2.2.2.2.1, sp_cs H.1 H.2.1 H.2.2⟩)
  (ac (fun n ta H => ⟨fun t => t + _, _, _, _, _, fun w b1 b2 bl pa p N t ω => (gspd w b1 b2 bl pa p N t ω n ta).2.2.2.2.2.2.1, sp_cs H.1 H.2.1 H.2.2⟩)
  (ac (fun n ta H => ⟨fun t => t + _, _, _, _, _, fun w b1 b2 bl pa p N t ω => (gspd w b1 b2 bl pa p N t ω n ta).2.2.2.2.2.2.2.1, sp_cs H.1 H.2.1 H.2.2⟩)
  (ac (fun n ta H => ⟨fun t => t + _, _, _, _, _, fun w b1 b2 bl pa p N t ω => (gspd w b1 b2 bl pa p N t ω n ta).2.2.2.2.2.2.2.2.1, sp_cs H.1 H.2.1 H.2.2⟩)
  (ac (fun n ta H => ⟨fun t => t + _, _, _, _, _, fun w b1 b2 bl pa p N t ω => (gspd w b1 b2 bl pa p N t ω n ta).2.2.2.2.2.2.2.2.2, sp_cs H.1 H.2.1 H.2.2⟩)
  (ac (fun n ta H => ⟨fun t => t + _, _, _, _, _, fun w b1 b2 bl pa p N t ω => (gspe w b1 b2 bl pa p N t ω n ta).1, sp_cs H.1 H.2.1 H.2.2⟩)
  (ac (fun n ta H => ⟨fun t => t + _, _, _, _, _, fun w b1 b2 bl pa p N t ω => (gspe w b1 b2 bl pa p N t ω n ta).2.1, sp_cs H.1 H.2.1 H.2.2⟩)
  (ac (fun n ta H => ⟨fun t => t + _, _, _, _, _, fun w b1 b2 bl pa p N t ω => (gspe w b1 b2 bl pa p N t ω n ta).2.2.1, sp_cs H.1 H.2.1 H.2.2⟩)
  (ac (fun n ta H => ⟨fun t => t + _, _, _, _, _, fun w b1 b2 bl pa p N t ω => (gspe w b1 b2 bl pa p N t ω n ta).2.2.2.1, sp_cs H.1 H.2.1 H.2.2⟩)
  (ac (fun n ta H => ⟨fun t => t + _, _, _, _, _, fun w b1 b2 bl pa p N t ω => (gspe w b1 b2 bl pa p N t ω n ta).2.2.2.2.1, sp_cs H.1 H.2.1 H.2.2⟩)
  (ac (fun n ta H => ⟨fun t => t + _, _, _, _, _, fun w b1 b2 bl pa p N t ω => (gspe w b1 b2 bl pa p N t ω n ta).2.2.2.2.2.1, sp_cs H.1 H.2.1 H.2.2⟩)
  (ac (fun n ta H => ⟨fun t => t + _, _, _, _, _, fun w b1 b2 bl pa p N t ω => (gspe w b1 b2 bl pa p N t ω n ta).2.2.2.2.2.2.1, sp_cs H.1 H.2.1 H.2.2⟩)
  (ac (fun n ta H => ⟨fun t => t + _, _, _, _, _, fun w b1 b2 bl pa p N t ω => (gspe w b1 b2 bl pa p N t ω n ta).2.2.2.2.2.2.2.1, sp_cs H.1 H.2.1 H.2.2⟩)
  (ac (fun n ta H => ⟨fun t => t + _, _, _, _, _, fun w b1 b2 bl pa p N t ω => (gspe w b1 b2 bl pa p N t ω n ta).2.2.2.2.2.2.2.2.1, sp_cs H.1 H.2.1 H.2.2⟩)
  (ac (fun n ta H => ⟨fun t => t + _, _, _, _, _, fun w b1 b2 bl pa p N t ω => (gspe w b1 b2 bl pa p N t ω n ta).2.2.2.2.2.2.2.2.2, sp_cs H.1 H.2.1 H.2.2⟩)
  (ac (fun n ta H => ⟨fun t => t + _, _, _, _, _, fun w b1 b2 bl pa p N t ω => (gspf w b1 b2 bl pa p N t ω n ta).1, sp_cs H.1 H.2.1 H.2.2⟩)
  (ac (fun n ta H => ⟨fun t => t + _, _, _, _, _, fun w b1 b2 bl pa p N t ω => (gspf w b1 b2 bl pa p N t ω n ta).2.1, sp_cs H.1 H.2.1 H.2.2⟩)
  (ac (fun n ta H => ⟨fun t => t + _, _, _, _, _, fun w b1 b2 bl pa p N t ω => (gspf w b1 b2 bl pa p N t ω n ta).2.2.1, sp_cs H.1 H.2.1 H.2.2⟩)
  (ac (fun n ta H => ⟨fun t => t + _, _, _, _, _, fun w b1 b2 bl pa p N t ω => (gspf w b1 b2 bl pa p N t ω n ta).2.2.2.1, sp_cs H.1 H.2.1 H.2.2⟩)
  (ac (fun n ta H => ⟨fun t => t + _, _, _, _, _, fun w b1 b2 bl pa p N t ω => (gspf w b1 b2 bl pa p N t ω n ta).2.2.2.2.1, sp_cs H.1 H.2.1 H.2.2⟩)
  (ac (fun n ta H => ⟨fun t => t + _, _, _, _, _, fun w b1 b2 bl pa p N t ω => (gspf w b1 b2 bl pa p N t ω n ta).2.2.2.2.2.1, sp_cs H.1 H.2.1 H.2.2⟩)
  (ac (fun n ta H => ⟨fun t => t + _, _, _, _, _, fun w b1 b2 bl pa p N t ω => (gspf w b1 b2 bl pa p N t ω n ta).2.2.2.2.2.2.1, sp_cs H.1 H.2.1 H.2.2⟩)
  (ac (fun n ta H => ⟨fun t => t + _, _, _, _, _, fun w b1 b2 bl pa p N t ω => (gspf w b1 b2 bl pa p N t ω n ta).2.2.2.2.2.2.2.1, sp_cs H.1 H.2.1 H.2.2⟩)
  (ac (fun n ta H => ⟨fun t => t + _, _, _, _, _, fun w b1 b2 bl pa p N t ω => (gspf w b1 b2 bl pa p N t ω n ta).2.2.2.2.2.2.2.2.1, sp_cs H.1 H.2.1 H.2.2⟩)
  (ac (fun n ta H => ⟨fun t => t + _, _, _, _, _, fun w b1 b2 bl pa p N t ω => (gspf w b1 b2 bl pa p N t ω n ta).2.2.2.2.2.2.2.2.2, sp_cs H.1 H.2.1 H.2.2⟩)
  (ac (fun n ta H => ⟨fun t => t + _, _, _, _, _, fun w b1 b2 bl pa p N t ω => (gspg w b1 b2 bl pa p N t ω n ta).1, sp_cs H.1 H.2.1 H.2.2⟩)
  (ac (fun n ta H => ⟨fun t => t + _, _, _, _, _, fun w b1 b2 bl pa p N t ω => (gspg w b1 b2 bl pa p N t ω n ta).2.1, sp_cs H.1 H.2.1 H.2.2⟩)
  (ac (fun n ta H => ⟨fun t => t + _, _, _, _, _, fun w b1 b2 bl pa p N t ω => (gspg w b1 b2 bl pa p N t ω n ta).2.2.1, sp_cs H.1 H.2.1 H.2.2⟩)
  (ac (fun n ta H => ⟨fun t => t + _, _, _, _, _, fun w b1 b2 bl pa p N t ω => (gspg w b1 b2 bl pa p N t ω n ta).2.2.2.1, sp_cs H.1 H.2.1 H.2.2⟩)
  (ac (fun n ta H => ⟨fun t => t + _, _, _, _, _, fun w b1 b2 bl pa p N t ω => (gspg w b1 b2 bl pa p N t ω n ta).2.2.2.2.1, sp_cs H.1 H.2.1 H.2.2⟩)
  (ac (fun n ta H => ⟨fun t => t + _, _, _, _, _, fun w b1 b2 bl pa p N t ω => (gspg w b1 b2 bl pa p N t ω n ta).2.2.2.2.2.1, sp_cs H.1 H.2.1 H.2.2⟩)
  (ac (fun n ta H => ⟨fun t => t + _, _, _, _, _, fun w b1 b2 bl pa p N t ω => (gspg w b1 b2 bl pa p N t ω n ta).2.2.2.2.2.2.1, sp_cs H.1 H.2.1 H.2.2⟩)
  (ac (fun n ta H => ⟨fun t => t + _, _, _, _, _, fun w b1 b2 bl pa p N t ω => (gspg w b1 b2 bl pa p N t ω n ta).2.2.2.2.2.2.2.1, sp_cs H.1 H.2.1 H.2.2⟩)
  (ac (fun n ta H => ⟨fun t => t + _, _, _, _, _, fun w b1 b2 bl pa p N t ω => (gspg w b1 b2 bl pa p N t ω n ta).2.2.2.2.2.2.2.2.1, sp_cs H.1 H.2.1 H.2.2⟩)
  (ac (fun n ta H => ⟨fun t => t + _, _, _, _, _, fun w b1 b2 bl pa p N t ω => (gspg w b1 b2 bl pa p N t ω n ta).2.2.2.2.2.2.2.2.2, sp_cs H.1 H.2.1 H.2.2⟩)
  (ac (fun n ta H => ⟨fun t => t + _, _, _, _, _, fun w b1 b2 bl pa p N t ω => (gsph w b1 b2 bl pa p N t ω n ta).1, sp_cs H.1 H.2.1 H.2.2⟩)
  (ac (fun n ta H => ⟨fun t => t + _, _, _, _, _, fun w b1 b2 bl pa p N t ω => (gsph w b1 b2 bl pa p N t ω n ta).2.1, sp_cs H.1 H.2.1 H.2.2⟩)
  (ac (fun n ta H => ⟨fun t => t + _, _, _, _, _, fun w b1 b2 bl pa p N t ω => (gsph w b1 b2 bl pa p N t ω n ta).2.2.1, sp_cs H.1 H.2.1 H.2.2⟩)
  (ac (fun n ta H => ⟨fun t => t + _, _, _, _, _, fun w b1 b2 bl pa p N t ω => (gsph w b1 b2 bl pa p N t ω n ta).2.2.2.1, sp_cs H.1 H.2.1 H.2.2⟩)
  (ac (fun n ta H => ⟨fun t => t + _, _, _, _, _, fun w b1 b2 bl pa p N t ω => (gsph w b1 b2 bl pa p N t ω n ta).2.2.2.2.1, sp_cs H.1 H.2.1 H.2.2⟩)
  (ac (fun n ta H => ⟨fun t => t + _, _, _, _, _, fun w b1 b2 bl pa p N t ω => (gsph w b1 b2 bl pa p N t ω n ta).2.2.2.2.2.1, sp_cs H.1 H.2.1 H.2.2⟩)
  (ac (fun n ta H => ⟨fun t => t + _, _, _, _, _, fun w b1 b2 bl pa p N t ω => (gsph w b1 b2 bl pa p N t ω n ta).2.2.2.2.2.2.1, sp_cs H.1 H.2.1 H.2.2⟩)
  (ac (fun n ta H => ⟨fun t => t + _, _, _, _, _, fun w b1 b2 bl pa p N t ω => (gsph w b1 b2 bl pa p N t ω n ta).2.2.2.2.2.2.2.1, sp_cs H.1 H.2.1 H.2.2⟩)
  (ac (fun n ta H => ⟨fun t => t + _, _, _, _, _, fun w b1 b2 bl pa p N t ω => (gsph w b1 b2 bl pa p N t ω n ta).2.2.2.2.2.2.2.2.1, sp_cs H.1 H.2.1 H.2.2⟩)
  (ac (fun n ta H => ⟨fun t => t + _, _, _, _, _, fun w b1 b2 bl pa p N t ω => (gsph w b1 b2 bl pa p N t ω n ta).2.2.2.2.2.2.2.2.2, sp_cs H.1 H.2.1 H.2.2⟩)
  (ac (fun n ta H => ⟨fun t => t + _, _, _, _, _, fun w b1 b2 bl pa p N t ω => (gspi w b1 b2 bl pa p N t ω n ta).1, sp_cs H.1 H.2.1 H.2.2⟩)
  (ac (fun n ta H => ⟨fun t => t + _, _, _, _, _, fun w b1 b2 bl pa p N t ω => (gspi w b1 b2 bl pa p N t ω n ta).2.1, sp_cs H.1 H.2.1 H.2.2⟩)
  (ac (fun n ta H => ⟨fun t => t + _, _, _, _, _, fun w b1 b2 bl pa p N t ω => (gspi w b1 b2 bl pa p N t ω n ta).2.2.1, sp_cs H.1 H.2.1 H.2.2⟩)
  (ac (fun n ta H => ⟨fun t => t + _, _, _, _, _, fun w b1 b2 bl pa p N t ω => (gspi w b1 b2 bl pa p N t ω n ta).2.2.2.1, sp_cs H.1 H.2.1 H.2.2⟩)
  (ac (fun n ta H => ⟨fun t => t + _, _, _, _, _, fun w b1 b2 bl pa p N t ω => (gspi w b1 b2 bl pa p N t ω n ta).2.2.2.2.1, sp_cs H.1 H.2.1 H.2.2⟩)
  (ac (fun n ta H => ⟨fun t => t + _, _, _, _, _, fun w b1 b2 bl pa p N t ω => (gspi w b1 b2 bl pa p N t ω n ta).2.2.2.2.2.1, sp_cs H.1 H.2.1 H.2.2⟩)
  (ac (fun n ta H => ⟨fun t => t + _, _, _, _, _, fun w b1 b2 bl pa p N t ω => (gspi w b1 b2 bl pa p N t ω n ta).2.2.2.2.2.2.1, sp_cs H.1 H.2.1 H.2.2⟩)
  (ac (fun n ta H => ⟨fun t => t + _, _, _, _, _, fun w b1 b2 bl pa p N t ω => (gspi w b1 b2 bl pa p N t ω n ta).2.2.2.2.2.2.2.1, sp_cs H.1 H.2.1 H.2.2⟩)
  (ac (fun n ta H => ⟨fun t => t + _, _, _, _, _, fun w b1 b2 bl pa p N t ω => (gspi w b1 b2 bl pa p N t ω n ta).2.2.2.2.2.2.2.2.1, sp_cs H.1 H.2.1 H.2.2⟩)
  (ac (fun n ta H => ⟨fun t => t + _, _, _, _, _, fun w b1 b2 bl pa p N t ω => (gspi w b1 b2 bl pa p N t ω n ta).2.2.2.2.2.2.2.2.2, sp_cs H.1 H.2.1 H.2.2⟩)
  (ac (fun n ta H => ⟨fun t => t + _, _, _, _, _, fun w b1 b2 bl pa p N t ω => (gspj w b1 b2 bl pa p N t ω n ta).1, sp_cs H.1 H.2.1 H.2.2⟩)
  (ac (fun n ta H => ⟨fun t => t + _, _, _, _, _, fun w b1 b2 bl pa p N t ω => (gspj w b1 b2 bl pa p N t ω n ta).2.1, sp_cs H.1 H.2.1 H.2.2⟩)
  (ac (fun n ta H => ⟨fun t => t + _, _, _, _, _, fun w b1 b2 bl pa p N t ω => (gspj w b1 b2 bl pa p N t ω n ta).2.2.1, sp_cs H.1 H.2.1 H.2.2⟩)
  (ac (fun n ta H => ⟨fun t => t + _, _, _, _, _, fun w b1 b2 bl pa p N t ω => (gspj w b1 b2 bl pa p N t ω n ta).2.2.2.1, sp_cs H.1 H.2.1 H.2.2⟩)
  (ac (fun n ta H => ⟨fun t => t + _, _, _, _, _, fun w b1 b2 bl pa p N t ω => (gspj w b1 b2 bl pa p N t ω n ta).2.2.2.2.1, sp_cs H.1 H.2.1 H.2.2⟩)
  (ac (fun n ta H => ⟨fun t => t + _, _, _, _, _, fun w b1 b2 bl pa p N t ω => (gspj w b1 b2 bl pa p N t ω n ta).2.2.2.2.2, sp_cs H.1 H.2.1 H.2.2⟩) an)))))))))))))))))))))))))))))))))))))))))))))))))))))))))))))))))))))))))))))))))))))))))))))))
theorem prAll : ∀ h ∈ nn96, ∀ ta, ∃ f : Nat → Nat, ∃ j k hs cs, CheckW RuG (.call (.ref 256) ⟨[.str (spS h) ta], []⟩) (fun t => .str (lo (thing (h % 6))) (f t)) j k hs cs ∧ ∃ n, cs = List.replicate n True :=
  ac (fun ta => ⟨(fun t => t + 11), _, _, _, _, fun w b1 b2 bl pa p N t ω => (gpra w b1 b2 bl pa p N t ω ta).1, _, rfl⟩)
  (ac (fun ta => ⟨(fun t => t + 11), _, _, _, _, fun w b1 b2 bl pa p N t ω => (gpra w b1 b2 bl pa p N t ω ta).2.1, _, rfl⟩)
  (ac (fun ta => ⟨(fun t => t + 22), _, _, _, _, fun w b1 b2 bl pa p N t ω => (gpra w b1 b2 bl pa p N t ω ta).2.2.1, _, rfl⟩)
  (ac (fun ta => ⟨(fun t => t + 22), _, _, _, _, fun w b1 b2 bl pa p N t ω => (gpra w b1 b2 bl pa p N t ω ta).2.2.2.1, _, rfl⟩)
  (ac (fun ta => ⟨(fun t => t + 32), _, _, _, _, fun w b1 b2 bl pa p N t ω => (gpra w b1 b2 bl pa p N t ω ta).2.2.2.2.1, _, rfl⟩)
  (ac (fun ta => ⟨(fun t => t + 11), _, _, _, _, fun w b1 b2 bl pa p N t ω => (gpra w b1 b2 bl pa p N t ω ta).2.2.2.2.2.1, _, rfl⟩)
  (ac (fun ta => ⟨(fun t => t + 11), _, _, _, _, fun w b1 b2 bl pa p N t ω => (gpra w b1 b2 bl pa p N t ω ta).2.2.2.2.2.2.1, _, rfl⟩)
  (ac (fun ta => ⟨(fun t => t + 11), _, _, _, _, fun w b1 b2 bl pa p N t ω => (gpra w b1 b2 bl pa p N t ω ta).2.2.2.2.2.2.2.1, _, rfl⟩)
  (ac (fun ta => ⟨(fun t => t + 22), _, _, _, _, fun w b1 b2 bl pa p N t ω => (gpra w b1 b2 bl pa p N t ω ta).2.2.2.2.2.2.2.2.1, _, rfl⟩)
  (ac (fun ta => ⟨(fun t => t + 22), _, _, _, _, fun w b1 b2 bl pa p N t ω => (gpra w b1 b2 bl pa p N t ω ta).2.2.2.2.2.2.2.2.2, _, rfl⟩)
  (ac (fun ta => ⟨(fun t => t + 32), _, _, _, _, fun w b1 b2 bl pa p N t ω => (gprb w b1 b2 bl pa p N t ω ta).1, _, rfl⟩)
  (ac (fun ta => ⟨(fun t => t + 11), _, _, _, _, fun w b1 b2 bl pa p N t ω => (gprb w b1 b2 bl pa p N t ω ta).2.1, _, rfl⟩)
  (ac (fun ta => ⟨(fun t => 1211), _, _, _, _, fun w b1 b2 bl pa p N t ω => (gprb w b1 b2 bl pa p N t ω ta).2.2.1, _, rfl⟩)
  (ac (fun ta => ⟨(fun t => 1220), _, _, _, _, fun w b1 b2 bl pa p N t ω => (gprb w b1 b2 bl pa p N t ω ta).2.2.2.1, _, rfl⟩)
  (ac (fun ta => ⟨(fun t => t + 20), _, _, _, _, fun w b1 b2 bl pa p N t ω => (gprb w b1 b2 bl pa p N t ω ta).2.2.2.2.1, _, rfl⟩)
  (ac (fun ta => ⟨(fun t => t + 20), _, _, _, _, fun w b1 b2 bl pa p N t ω => (gprb w b1 b2 bl pa p N t ω ta).2.2.2.2.2.1, _, rfl⟩)
  (ac (fun ta => ⟨(fun t => t + 29), _, _, _, _, fun w b1 b2 bl pa p N t ω => (gprb w b1 b2 bl pa p N t ω ta).2.2.2.2.2.2.1, _, rfl⟩)
  (ac (fun ta => ⟨(fun t => 1229), _, _, _, _, fun w b1 b2 bl pa p N t ω => (gprb w b1 b2 bl pa p N t ω ta).2.2.2.2.2.2.2.1, _, rfl⟩)
  (ac (fun ta => ⟨(fun t => 995), _, _, _, _, fun w b1 b2 bl pa p N t ω => (gprb w b1 b2 bl pa p N t ω ta).2.2.2.2.2.2.2.2.1, _, rfl⟩)
  (ac (fun ta => ⟨(fun t => 941), _, _, _, _, fun w b1 b2 bl pa p N t ω => (gprb w b1 b2 bl pa p N t ω ta).2.2.2.2.2.2.2.2.2.1, _, rfl⟩)
  (ac (fun ta => ⟨(fun t => 1160), _, _, _, _, fun w b1 b2 bl pa p N t ω => (gprb w b1 b2 bl pa p N t ω ta).2.2.2.2.2.2.2.2.2.2, _, rfl⟩)
  (ac (fun ta => ⟨(fun t => 1163), _, _, _, _, fun w b1 b2 bl pa p N t ω => (gprc w b1 b2 bl pa p N t ω ta).1, _, rfl⟩)
  (ac (fun ta => ⟨(fun t => 1169), _, _, _, _, fun w b1 b2 bl pa p N t ω => (gprc w b1 b2 bl pa p N t ω ta).2.1, _, rfl⟩)
  (ac (fun ta => ⟨(fun t => 947), _, _, _, _, fun w b1 b2 bl pa p N t ω => (gprc w b1 b2 bl pa p N t ω ta).2.2.1, _, rfl⟩)
  (ac (fun ta => ⟨(fun t => t + 16), _, _, _, _, fun w b1 b2 bl pa p N t ω => (gprc w b1 b2 bl pa p N t ω ta).2.2.2.1, _, rfl⟩)
  (ac (fun ta => ⟨(fun t => t + 16), _, _, _, _, fun w b1 b2 bl pa p N t ω => (gprc w b1 b2 bl pa p N t ω ta).2.2.2.2.1, _, rfl⟩)
  (ac (fun ta => ⟨(fun t => t + 27), _, _, _, _, fun w b1 b2 bl pa p N t ω => (gprc w b1 b2 bl pa p N t ω ta).2.2.2.2.2.1, _, rfl⟩)
  (ac (fun ta => ⟨(fun t => t + 27), _, _, _, _, fun w b1 b2 bl pa p N t ω => (gprc w b1 b2 bl pa p N t ω ta).2.2.2.2.2.2.1, _, rfl⟩)
  (ac (fun ta => ⟨(fun t => t + 37), _, _, _, _, fun w b1 b2 bl pa p N t ω => (gprc w b1 b2 bl pa p N t ω ta).2.2.2.2.2.2.2.1, _, rfl⟩)
  (ac (fun ta => ⟨(fun t => t + 16), _, _, _, _, fun w b1 b2 bl pa p N t ω => (gprc w b1 b2 bl pa p N t ω ta).2.2.2.2.2.2.2.2, _, rfl⟩)
  (ac (fun ta => ⟨(fun t => t + 16), _, _, _, _, fun w b1 b2 bl pa p N t ω => (gprd w b1 b2 bl pa p N t ω ta).1, _, rfl⟩)
  (ac (fun ta => ⟨(fun t => t + 16), _, _, _, _, fun w b1 b2 bl pa p N t ω => (gprd w b1 b2 bl pa p N t ω ta).2.1, _, rfl⟩)
  (ac (fun ta => ⟨(fun t => t + 27), _, _, _, _, fun w b1 b2 bl pa p N t ω => (gprd w b1 b2 bl pa p N t ω ta).2.2.1, _, rfl⟩)
  (ac (fun ta => ⟨(fun t => t + 27), _, _, _, _, fun w b1 b2 bl pa p N t ω => (gprd w b1 b2 bl pa p N t ω ta).2.2.2.1, _, rfl⟩)
  (ac (fun ta => ⟨(fun t => t + 37), _, _, _, _, fun w b1 b2 bl pa p N t ω => (gprd w b1 b2 bl pa p N t ω ta).2.2.2.2.1, _, rfl⟩)
  (ac (fun ta => ⟨(fun t => t + 16), _, _, _, _, fun w b1 b2 bl pa p N t ω => (gprd w b1 b2 bl pa p N t ω ta).2.2.2.2.2.1, _, rfl⟩)
  (ac (fun ta => ⟨(fun t => 1211), _, _, _, _, fun w b1 b2 bl pa p N t ω => (gprd w b1 b2 bl pa p N t ω ta).2.2.2.2.2.2.1, _, rfl⟩)
  (ac (fun ta => ⟨(fun t => 1220), _, _, _, _, fun w b1 b2 bl pa p N t ω => (gprd w b1 b2 bl pa p N t ω ta).2.2.2.2.2.2.2, _, rfl⟩)
  (ac (fun ta => ⟨(fun t => t + 25), _, _, _, _, fun w b1 b2 bl pa p N t ω => (gpre w b1 b2 bl pa p N t ω ta).1, _, rfl⟩)
  (ac (fun ta => ⟨(fun t => t + 25), _, _, _, _, fun w b1 b2 bl pa p N t ω => (gpre w b1 b2 bl pa p N t ω ta).2.1, _, rfl⟩)
  (ac (fun ta => ⟨(fun t => t + 34), _, _, _, _, fun w b1 b2 bl pa p N t ω => (gpre w b1 b2 bl pa p N t ω ta).2.2.1, _, rfl⟩)
  (ac (fun ta => ⟨(fun t => 1229), _, _, _, _, fun w b1 b2 bl pa p N t ω => (gpre w b1 b2 bl pa p N t ω ta).2.2.2.1, _, rfl⟩)
  (ac (fun ta => ⟨(fun t => 995), _, _, _, _, fun w b1 b2 bl pa p N t ω => (gpre w b1 b2 bl pa p N t ω ta).2.2.2.2.1, _, rfl⟩)
  (ac (fun ta => ⟨(fun t => 941), _, _, _, _, fun w b1 b2 bl pa p N t ω => (gpre w b1 b2 bl pa p N t ω ta).2.2.2.2.2.1, _, rfl⟩)
  (ac (fun ta => ⟨(fun t => 1160), _, _, _, _, fun w b1 b2 bl pa p N t ω => (gpre w b1 b2 bl pa p N t ω ta).2.2.2.2.2.2.1, _, rfl⟩)
  (ac (fun ta => ⟨(fun t => 1163), _, _, _, _, fun w b1 b2 bl pa p N t ω => (gpre w b1 b2 bl pa p N t ω ta).2.2.2.2.2.2.2.1, _, rfl⟩)
  (ac (fun ta => ⟨(fun t => 1169), _, _, _, _, fun w b1 b2 bl pa p N t ω => (gpre w b1 b2 bl pa p N t ω ta).2.2.2.2.2.2.2.2, _, rfl⟩)
  (ac (fun ta => ⟨(fun t => 947), _, _, _, _, fun w b1 b2 bl pa p N t ω => (gprf w b1 b2 bl pa p N t ω ta).1, _, rfl⟩)
  (ac (fun ta => ⟨(fun t => t + 16), _, _, _, _, fun w b1 b2 bl pa p N t ω => (gprf w b1 b2 bl pa p N t ω ta).2.1, _, rfl⟩)
  (ac (fun ta => ⟨(fun t => t + 16), _, _, _, _, fun w b1 b2 bl pa p N t ω => (gprf w b1 b2 bl pa p N t ω ta).2.2.1, _, rfl⟩)
  (ac (fun ta => ⟨(fun t => t + 27), _, _, _, _, fun w b1 b2 bl pa p N t ω => (gprf w b1 b2 bl pa p N t ω ta).2.2.2.1, _, rfl⟩)
  (ac (fun ta => ⟨(fun t => t + 27), _, _, _, _, fun w b1 b2 bl pa p N t ω => (gprf w b1 b2 bl pa p N t ω ta).2.2.2.2.1, _, rfl⟩)
  (ac (fun ta => ⟨(fun t => t + 37), _, _, _, _, fun w b1 b2 bl pa p N t ω => (gprf w b1 b2 bl pa p N t ω ta).2.2.2.2.2.1, _, rfl⟩)
  (ac (fun ta => ⟨(fun t => t + 16), _, _, _, _, fun w b1 b2 bl pa p N t ω => (gprf w b1 b2 bl pa p N t ω ta).2.2.2.2.2.2.1, _, rfl⟩)
  (ac (fun ta => ⟨(fun t => t + 16), _, _, _, _, fun w b1 b2 bl pa p N t ω => (gprf w b1 b2 bl pa p N t ω ta).2.2.2.2.2.2.2, _, rfl⟩)
  (ac (fun ta => ⟨(fun t => t + 16), _, _, _, _, fun w b1 b2 bl pa p N t ω => (gprg w b1 b2 bl pa p N t ω ta).1, _, rfl⟩)
  (ac (fun ta => ⟨(fun t => t + 27), _, _, _, _, fun w b1 b2 bl pa p N t ω => (gprg w b1 b2 bl pa p N t ω ta).2.1, _, rfl⟩)
  (ac (fun ta => ⟨(fun t => t + 27), _, _, _, _, fun w b1 b2 bl pa p N t ω => (gprg w b1 b2 bl pa p N t ω ta).2.2.1, _, rfl⟩)
  (ac (fun ta => ⟨(fun t => t + 37), _, _, _, _, fun w b1 b2 bl pa p N t ω => (gprg w b1 b2 bl pa p N t ω ta).2.2.2.1, _, rfl⟩)
  (ac (fun ta => ⟨(fun t => t + 16), _, _, _, _, fun w b1 b2 bl pa p N t ω => (gprg w b1 b2 bl pa p N t ω ta).2.2.2.2.1, _, rfl⟩)
  (ac (fun ta => ⟨(fun t => 1211), _, _, _, _, fun w b1 b2 bl pa p N t ω => (gprg w b1 b2 bl pa p N t ω ta).2.2.2.2.2.1, _, rfl⟩)
  (ac (fun ta => ⟨(fun t => 1220), _, _, _, _, fun w b1 b2 bl pa p N t ω => (gprg w b1 b2 bl pa p N t ω ta).2.2.2.2.2.2.1, _, rfl⟩)
  (ac (fun ta => ⟨(fun t => t + 25), _, _, _, _, fun w b1 b2 bl pa p N t ω => (gprg w b1 b2 bl pa p N t ω ta).2.2.2.2.2.2.2, _, rfl⟩)
  (ac (fun ta => ⟨(fun t => t + 25), _, _, _, _, fun w b1 b2 bl pa p N t ω => (gprh w b1 b2 bl pa p N t ω ta).1, _, rfl⟩)
  (ac (fun ta => ⟨(fun t => t + 34), _, _, _, _, fun w b1 b2 bl pa p N t ω => (gprh w b1 b2 bl pa p N t ω ta).2.1, _, rfl⟩)
  (ac (fun ta => ⟨(fun t => 1229), _, _, _, _, fun w b1 b2 bl pa p N t ω => (gprh w b1 b2 bl pa p N t ω ta).2.2.1, _, rfl⟩)
  (ac (fun ta => ⟨(fun t => 995), _, _, _, _, fun w b1 b2 bl pa p N t ω => (gprh w b1 b2 bl pa p N t ω ta).2.2.2.1, _, rfl⟩)
  (ac (fun ta => ⟨(fun t => 941), _, _, _, _, fun w b1 b2 bl pa p N t ω => (gprh w b1 b2 bl pa p N t ω ta).2.2.2.2.1, _, rfl⟩)
  (ac (fun ta => ⟨(fun t => 1160), _, _, _, _, fun w b1 b2 bl pa p N t ω => (gprh w b1 b2 bl pa p N t ω ta).2.2.2.2.2.1, _, rfl⟩)
  (ac (fun ta => ⟨(fun t => 1163), _, _, _, _, fun w b1 b2 bl pa p N t ω => (gprh w b1 b2 bl pa p N t ω ta).2.2.2.2.2.2.1, _, rfl⟩)
  (ac (fun ta => ⟨(fun t => 1169), _, _, _, _, fun w b1 b2 bl pa p N t ω => (gprh w b1 b2 bl pa p N t ω ta).2.2.2.2.2.2.2.1, _, rfl⟩)
  (ac (fun ta => ⟨(fun t => 947), _, _, _, _, fun w b1 b2 bl pa p N t ω => (gprh w b1 b2 bl pa p N t ω ta).2.2.2.2.2.2.2.2, _, rfl⟩)
  (ac (fun ta => ⟨(fun t => t + 16), _, _, _, _, fun w b1 b2 bl pa p N t ω => (gpri w b1 b2 bl pa p N t ω ta).1, _, rfl⟩)
  (ac (fun ta => ⟨(fun t => t + 16), _, _, _, _, fun w b1 b2 bl pa p N t ω => (gpri w b1 b2 bl pa p N t ω ta).2.1, _, rfl⟩)
  (ac (fun ta => ⟨(fun t => t + 27), _, _, _, _, fun w b1 b2 bl pa p N t ω => (gpri w b1 b2 bl pa p N t ω ta).2.2.1, _, rfl⟩)
  (ac (fun ta => ⟨(fun t => t + 27), _, _, _, _, fun w b1 b2 bl pa p N t ω => (gpri w b1 b2 bl pa p N t ω ta).2.2.2.1, _, rfl⟩)
  (ac (fun ta => ⟨(fun t => t + 37), _, _, _, _, fun w b1 b2 bl pa p N t ω => (gpri w b1 b2 bl pa p N t ω ta).2.2.2.2.1, _, rfl⟩)
  (ac (fun ta => ⟨(fun t => t + 16), _, _, _, _, fun w b1 b2 bl pa p N t ω => (gpri w b1 b2 bl pa p N t ω ta).2.2.2.2.2.1, _, rfl⟩)
  (ac (fun ta => ⟨(fun t => t + 16), _, _, _, _, fun w b1 b2 bl pa p N t ω => (gpri w b1 b2 bl pa p N t ω ta).2.2.2.2.2.2.1, _, rfl⟩)
  (ac (fun ta => ⟨(fun t => t + 16), _, _, _, _, fun w b1 b2 bl pa p N t ω => (gpri w b1 b2 bl pa p N t ω ta).2.2.2.2.2.2.2, _, rfl⟩)
  (ac (fun ta => ⟨(fun t => t + 27), _, _, _, _, fun w b1 b2 bl pa p N t ω => (gprj w b1 b2 bl pa p N t ω ta).1, _, rfl⟩)
  (ac (fun ta => ⟨(fun t => t + 27), _, _, _, _, fun w b1 b2 bl pa p N t ω => (gprj w b1 b2 bl pa p N t ω ta).2.1, _, rfl⟩)
  (ac (fun ta => ⟨(fun t => t + 37), _, _, _, _, fun w b1 b2 bl pa p N t ω => (gprj w b1 b2 bl pa p N t ω ta).2.2.1, _, rfl⟩)
  (ac (fun ta => ⟨(fun t => t + 16), _, _, _, _, fun w b1 b2 bl pa p N t ω => (gprj w b1 b2 bl pa p N t ω ta).2.2.2.1, _, rfl⟩)
  (ac (fun ta => ⟨(fun t => 1211), _, _, _, _, fun w b1 b2 bl pa p N t ω => (gprj w b1 b2 bl pa p N t ω ta).2.2.2.2.1, _, rfl⟩)
  (ac (fun ta => ⟨(fun t => 1220), _, _, _, _, fun w b1 b2 bl pa p N t ω => (gprj w b1 b2 bl pa p N t ω ta).2.2.2.2.2.1, _, rfl⟩)
  (ac (fun ta => ⟨(fun t => t + 25), _, _, _, _, fun w b1 b2 bl pa p N t ω => (gprj w b1 b2 bl pa p N t ω ta).2.2.2.2.2.2, _, rfl⟩)
  (ac (fun ta => ⟨(fun t => t + 25), _, _, _, _, fun w b1 b2 bl pa p N t ω => (gprk w b1 b2 bl pa p N t ω ta).1, _, rfl⟩)
  (ac (fun ta => ⟨(fun t => t + 34), _, _, _, _, fun w b1 b2 bl pa p N t ω => (gprk w b1 b2 bl pa p N t ω ta).2.1, _, rfl⟩)
  (ac (fun ta => ⟨(fun t => 1229), _, _, _, _, fun w b1 b2 bl pa p N t ω => (gprk w b1 b2 bl pa p N t ω ta).2.2.1, _, rfl⟩)
  (ac (fun ta => ⟨(fun t => 995), _, _, _, _, fun w b1 b2 bl pa p N t ω => (gprk w b1 b2 bl pa p N t ω ta).2.2.2.1, _, rfl⟩)
  (ac (fun ta => ⟨(fun t => 941), _, _, _, _, fun w b1 b2 bl pa p N t ω => (gprk w b1 b2 bl pa p N t ω ta).2.2.2.2.1, _, rfl⟩)
  (ac (fun ta => ⟨(fun t => 1160), _, _, _, _, fun w b1 b2 bl pa p N t ω => (gprk w b1 b2 bl pa p N t ω ta).2.2.2.2.2.1, _, rfl⟩)
  (ac (fun ta => ⟨(fun t => 1163), _, _, _, _, fun w b1 b2 bl pa p N t ω => (gprk w b1 b2 bl pa p N t ω ta).2.2.2.2.2.2.1, _, rfl⟩)
  (ac (fun ta => ⟨(fun t => 1169), _, _, _, _, fun w b1 b2 bl pa p N t ω => (gprk w b1 b2 bl pa p N t ω ta).2.2.2.2.2.2.2.1, _, rfl⟩)
  (ac (fun ta => ⟨(fun t => 947), _, _, _, _, fun w b1 b2 bl pa p N t ω => (gprk w b1 b2 bl pa p N t ω ta).2.2.2.2.2.2.2.2, _, rfl⟩) an)))))))))))))))))))))))))))))))))))))))))))))))))))))))))))))))))))))))))))))))))))))))))))))))
theorem trues (n : Nat) : ∀ q ∈ List.replicate n True, q := fun q hq => by rw [List.eq_of_mem_replicate hq]; trivial
end Mine.B
end
section
namespace Mine.B
open PySem PySem.W PySem.W.X
noncomputable def ApOk (n : Int) (h : Nat) : Prop := n = Int.ofNat h ∧ h ∈ nums
noncomputable def NuOk (s : Str) (h : Nat) : Prop := (s = apS h ∧ h ∈ nums) ∨ (s = lo h ∧ h ∈ things)
noncomputable def DcOk (b : Array UInt8) (h : Nat) : Prop := b = apB h ∧ h ∈ nums
noncomputable def PrOk (s : Str) (h : Nat) : Prop := ∃ k ∈ nn96, s = spS k ∧ h = thing (k % 6)
noncomputable def CvOk (s : Str) (fl : Bool) : Prop := (fl = true ∧ ∃ h ∈ things, s = apS h ∨ s = lo h) ∨ (fl = false ∧ ∃ h ∈ counts1, s = apS h)
noncomputable def LwOk (s : Str) (h : Nat) : Prop := h ∈ things ∧ (s = apS h ∨ s = lo h)
noncomputable def selFree : Code → List Nat → Option ((Nat → Value) × List Nat × Prop)
  | .call (.ref a) ⟨[x], []⟩, h :: hs => match a with
    | 182 => match x with
      | .int n _ => some (fun t => .bytes (apB h) t, hs, ApOk n h)
      | _ => none
    | 263 => match x with
      | .str s _ => some (fun t => .int (Int.ofNat h) t, hs, NuOk s h)
      | _ => none
    | 251 => match x with
      | .int n _ => some (fun t => .str (spS h) t, hs, SpOk n h)
      | _ => none
    | 256 => match x with
      | .str s _ => some (fun t => .str (lo h) t, hs, PrOk s h)
      | _ => none
    | _ => none
  | .builtin i ⟨[.bytes b _, .str e _], []⟩, h :: hs => match i == "bytes.decode" && e == asciiS with
    | true => some (fun t => .str (apS h) t, hs, DcOk b h)
    | false => none
  | _, _ => none
noncomputable def selConv : Code → SS → List Nat → Option R.Ans
  | .call (.ref a) ⟨[_, .str s t], [(k, .bool fl)]⟩, S, hs => match Nat.beq a 70 && k == nameS with
    | true => some ⟨.str s t, ⟨S.T, S.b, S.j + 1, S.tb, S.ti + 4⟩, hs, [], CvOk s fl⟩
    | false => none
  | .builtin i ⟨[.str s _], []⟩, S, h :: hs => match i == "str.lower" with
    | true => some ⟨.str (lo h) (S.tb + S.ti), ⟨S.T, S.b, S.j, S.tb, S.ti + 1⟩, hs, [], LwOk s h⟩
    | false => none
  | _, _, _ => none
theorem modW {w : World} {B : Nat} : ∀ E', EOk w E' → ∀ r, R.Valid E' B (RuM r) := fun E' HE _ => R.leafRule_valid fun c hs v d rest q h hq => HE.M ▸ R.selMod_ok c hs v d rest q h hq
theorem es201_ok (P : Params) : R.keysInt (es201 P) = true := by kernel_rfl
theorem k201_is (P : Params) : k201 P = { cls := .type "dict", data := .dict (es201 P).toArray 650 } := by kernel_rfl
theorem kt201 (P : Params) : (kt P).get 201 = some (k201 P) := by kernel_rfl
theorem getW {w : World} {B : Nat} : ∀ E', EOk w E' → ∀ r, R.Valid E' B (RuG w r) := fun E' HE _ =>
  R.selGet_valid HE.M (n := 650) (by rw [HE.kt, kt201, k201_is]) (es201_ok _) (by decide)
theorem freeB {w : World} {E : R.World0} (HE : EOk w E) {B : Nat} (hB : B + 320 ≤ 990) : R.Valid E B (R.freeRule selFree) := by
  refine R.freeRule_valid fun c hs v rest q h hq => ?_
  unfold selFree at h
  split at h
  · rename_i a x h' hs'
    split at h
    · split at h
      · cases h
        obtain ⟨rfl, hm⟩ := hq
        obtain ⟨j, k, i, hs, z⟩ := apAll _ hm _
        exact free_of (f := fun t => t + i) (exact_of HE hB z (R.weight_le rfl))
      · cases h
    · split at h
      · cases h
        rcases hq with ⟨rfl, hm⟩ | ⟨rfl, hm⟩
        · obtain ⟨j, k, i, hs, z⟩ := nuAll _ hm _
          exact free_of (f := fun t => t + i) (exact_of HE hB z (R.weight_le rfl))
        · obtain ⟨j, k, i, hs, z⟩ := nlAll _ hm _
          exact free_of (f := fun t => t + i) (exact_of HE hB z (R.weight_le rfl))
      · cases h
    · split at h
      · cases h
        obtain ⟨hm, hq⟩ := hq
        obtain ⟨f, j, k, hs, cs, z, hcs⟩ := spAll _ hm _ _ hq
        exact free_of (f := f) (exact_ofQ HE hB (v := fun t => .str (spS h') (f t)) (j := j) (k := k) (ru := RuM) (modW) (.inl z) hcs (R.weight_le rfl))
      · cases h
    · split at h
      · cases h
        obtain ⟨n, hm, rfl, rfl⟩ := hq
        obtain ⟨f, j, k, hs, cs, z, m, rfl⟩ := prAll _ hm _
        exact free_of (f := f) (exact_ofQ HE hB (v := fun t => .str (lo (thing (n % 6))) (f t)) (j := j) (k := k) (ru := RuG w) (getW) (.inr ⟨RuG, rfl, z⟩) (trues m) (R.weight_le rfl))
      · cases h
    · cases h
  · rename_i i b tb e te h' hs'
    split at h
    · rename_i hi
      cases h
      obtain ⟨e1, e2⟩ := Bool.and_eq_true_iff.mp hi
      obtain rfl : i = "bytes.decode" := beq_iff_eq.mp e1
      obtain rfl : e = asciiS := beq_iff_eq.mp e2
      obtain ⟨rfl, hm⟩ := hq
      obtain ⟨j, k, i, hs, z⟩ := dcAll _ hm _ _
      exact free_of (f := fun t => t + i) (exact_of HE hB z (R.weight_le rfl))
    · cases h
  · cases h
theorem convB {w : World} {E : R.World0} (HE : EOk w E) {B : Nat} (hB : B + 320 ≤ 990) : R.Valid E B (R.exactRule selConv) := by
  refine R.exactRule_valid fun {Γ c S hs x p s} h hob hq hc h1 h2 hf D => ?_
  unfold selConv at h
  split at h
  · rename_i a sv s' t k fl
    split at h
    · rename_i hi
      cases h
      obtain ⟨e1, e2⟩ := Bool.and_eq_true_iff.mp hi
      obtain rfl : a = 70 := Nat.eq_of_beq_eq_true e1
      obtain rfl : k = nameS := beq_iff_eq.mp e2
      rcases hq with ⟨rfl, n, hm, rfl | rfl⟩ | ⟨rfl, n, hm, rfl⟩
      · obtain ⟨hs, z⟩ := cvapSAll _ hm sv t
        exact exact_of HE hB z (R.weight_le rfl) hc h1 h2 hf D
      · obtain ⟨hs, z⟩ := cvloAll _ hm sv t
        exact exact_of HE hB z (R.weight_le rfl) hc h1 h2 hf D
      · obtain ⟨hs, z⟩ := cvfAll _ hm sv t
        exact exact_of HE hB z (R.weight_le rfl) hc h1 h2 hf D
    · cases h
  · rename_i i s' t h' hs'
    split at h
    · rename_i hi
      cases h
      obtain rfl : i = "str.lower" := beq_iff_eq.mp hi
      obtain ⟨hm, rfl | rfl⟩ := hq
      · obtain ⟨hs, z⟩ := lwapSAll _ hm t
        exact exact_of HE hB z (R.weight_le rfl) hc h1 h2 hf D
      · obtain ⟨hs, z⟩ := lwloAll _ hm t
        exact exact_of HE hB z (R.weight_le rfl) hc h1 h2 hf D
    · cases h
  · cases h
noncomputable def Rb (kl : Cells) : Nat → Rule
  | 0 => R.freeRule selFree
  | 1 => R.exactRule selConv
  | 2 => R.leafRule (R.selCmp "int.__lt__" fun a b => a < b)
  | 3 => R.leafRule (R.selCmp "int.__le__" fun a b => a ≤ b)
  | 4 => R.leafRule (R.selCmp "int.__gt__" fun a b => a > b)
  | 5 => R.leafRule (R.selCmp "int.__eq__" fun a b => a = b)
  | 6 => R.leafRule (R.selStr "str.__eq__" true)
  | 7 => R.leafRule (R.selStr "str.__ne__" false)
  | 8 => R.leafRule R.selMod
  | 9 => R.exactRule (R.selIndex kl)
  | 10 => R.exactRule (R.selCount kl)
  | 11 => R.exactRule (R.selNe kl)
  | 12 => R.exactRule R.selAppend
  | 13 => R.exactRule (selSorted kl)
  | _ => noRule 0
end Mine.B
end
section
namespace Mine.B
open PySem PySem.W PySem.W.X
theorem leafV {w : World} {E : R.World0} (HE : EOk w E) {B : Nat} {sel : Code → List Nat → Option ((Nat → Value) × Nat × List Nat × Prop)} (h : ∀ c hs v d rest q, sel c hs = some (v, d, rest, q) → q → R.LeafCall (model pw2 w) c v d) : R.Valid E B (R.leafRule sel) :=
  R.leafRule_valid fun c hs v d rest q e hq => HE.M ▸ h c hs v d rest q e hq
theorem beqT (b : Bool) : (b == true) = b := by cases b <;> rfl
theorem beqF {α : Type} [BEq α] (a b : α) : ((a == b) == false) = (a != b) := by unfold bne; cases (a == b) <;> rfl
theorem e_seq : entryFor table "str.__eq__" = some Builtin.«str.__eq__» := entryFor_of_tree (by kernel_rfl)
theorem e_sne : entryFor table "str.__ne__" = some Builtin.«str.__ne__» := entryFor_of_tree (by kernel_rfl)
theorem Rb_valid {w : World} {E : R.World0} (HE : EOk w E) {B : Nat} (hB : B + 320 ≤ 990) {kl : Cells} (hk : kl = E.K) : ∀ r, R.Valid E B (Rb kl r)
  | 0 => freeB HE hB
  | 1 => convB HE hB
  | 2 => leafV HE (R.selCmp_ok (f := fun a b => decide (a < b)) R.e_lt (by decide +kernel) AutoIntG1.int___lt___int_int_0 (fun _ _ => decide_eq_true_iff))
  | 3 => leafV HE (R.selCmp_ok (f := fun a b => decide (a ≤ b)) R.e_le (by decide +kernel) AutoIntG1.int___le___int_int_0 (fun _ _ => decide_eq_true_iff))
  | 4 => leafV HE (R.selCmp_ok (f := fun a b => decide (a > b)) R.e_gt (by decide +kernel) AutoIntG4.int___gt___int_int_0 (fun _ _ => decide_eq_true_iff))
  | 5 => leafV HE (R.selCmp_ok (f := fun a b => a == b) R.e_eq (by decide +kernel) AutoIntG7.int___eq___int_int_0 (fun _ _ => beq_iff_eq))
  | 6 => leafV HE (R.selStr_ok e_seq (by decide +kernel) (fun x t y u => by rw [beqT]; exact R.g_str_eq x t y u))
  | 7 => leafV HE (R.selStr_ok e_sne (by decide +kernel) (fun x t y u => by rw [beqF]; exact R.g_str_ne x t y u))
  | 8 => leafV HE R.selMod_ok
  | 9 => R.selIndex_valid HE.M hk
  | 10 => R.selCount_valid HE.M hk
  | 11 => R.selNe_valid HE.M (by omega) hk
  | 12 => R.selAppend_valid HE.M
  | 13 => selSorted_valid HE hB hk
  | n + 14 => R.noRule_valid E B 0
end Mine.B
end
section
namespace Mine.B
open PySem PySem.W PySem.W.X
noncomputable def lawStmts (P : Params) : List Stmt := match (k280 P).data with
  | .func fd => match fd.body with
    | .stmts b => b
    | _ => []
  | _ => []
noncomputable def passS : Stmt := .Pass ⟨0, 0, 0, 0⟩
noncomputable def forOf (s : Stmt) : Expr × Expr × List Stmt × List Stmt := match s with
  | .For t i b o _ => (t, i, b, o)
  | _ => (.Constant .none 0 ⟨0, 0, 0, 0⟩, .Constant .none 0 ⟨0, 0, 0, 0⟩, [], [])
noncomputable def for1 (P : Params) : Expr × Expr × List Stmt × List Stmt := forOf ((lawStmts P).getD 5 passS)
noncomputable def for2 (P : Params) : Expr × Expr × List Stmt × List Stmt := forOf ((lawStmts P).getD 6 passS)
noncomputable def body1 (P : Params) : List Stmt := (for1 P).2.2.1
noncomputable def body2 (P : Params) : List Stmt := (for2 P).2.2.1
noncomputable def leastS : Str := ⟨#[108, 101, 97, 115, 116]⟩
noncomputable def envL (P : Params) : Env := match (k280 P).data with
  | .func fd => { scope := fd.scope, locals := 282, globals := fd.globals, cells := (leastS, 283) :: fd.closure, qual := ⟨#[108, 97, 119, 46, 60, 108, 111, 99, 97, 108, 115, 62, 46]⟩, func := some 280, code := fd.code, frame := some 282, builtins := fd.builtins }
  | _ => default
noncomputable def key (P : Params) (s : Str) (t : Nat) (v : Value) : DictEntry := ⟨PyData.keyHash P s, .str s t, v⟩
noncomputable def frKeys : List (Str × Nat) := [(⟨#[115, 99, 114, 105, 112, 116]⟩, 0), (⟨#[114, 111, 111, 109]⟩, 1), (⟨#[102, 101, 119]⟩, 3), (⟨#[112, 108, 97, 99, 101, 115]⟩, 4), (⟨#[115, 97, 105, 100]⟩, 5), (⟨#[116, 111, 108, 100]⟩, 6), (⟨#[110, 117, 109, 98, 101, 114]⟩, 8), (⟨#[116, 104, 105, 110, 103]⟩, 10), (⟨#[119, 111, 114, 100]⟩, 12), (⟨#[100, 117, 101]⟩, 14)]
noncomputable def frG (P : Params) (τ : Nat → Nat) (vs : List Value) : Obj := ⟨.type "frame", none, .dict ⟨List.zipWith (fun k v => key P k.1 (τ k.2) v) frKeys vs⟩ 10, #[]⟩
noncomputable def frL (P : Params) (τ : Nat → Nat) (room told num thg : Int) (word : Str) (due : Nat) : Obj := frG P τ [.ref 281, .int room (τ 2), .ref 286, .ref 294, .ref 295, .int told (τ 7), .int num (τ 9), .int thg (τ 11), .str word (τ 13), .ref due]
noncomputable def cellL (v : Int) (t : Nat) : Obj := { cls := .type "cell", data := .cell (some (.int v t)) }
noncomputable def dictF (P : Params) (t : Nat) : Obj := { cls := .type "dict", data := .dict ⟨[key P ⟨#[95, 104, 101, 97, 100, 101, 114, 115]⟩ t (.ref 288)]⟩ 1 }
noncomputable def instF : Obj := { cls := .ref 171, dict := some 285 }
noncomputable def listV (xs : Array Value) (n : Nat) : Obj := { cls := .type "list", data := .seq xs n }
noncomputable def tupS (a : Str) (t : Nat) (b : Str) (u : Nat) : Obj := { cls := .type "tuple", data := .seq #[.str a t, .str b u] }
noncomputable abbrev pp (w : World) (b1 b2 : Bool) : Params := (wb w b1 b2).params
noncomputable abbrev evB (w : World) (b1 b2 : Bool) (cd : Code) (bl : List (Code × Pos)) (pa : Option Value) (p : Pos) (N t : Nat) (ω : Nat → Nat) (kl : Cells) (tree : Sem Fin) (T : Cells) (hs : List Nat) : Option Out :=
  R.ev (FW (wb w b1 b2) kl (Rb kl)) 1000000 20 ⟨cd, none, none, bl, pa⟩ p tree [] ⟨T, N + 301, 0, t + 2595, 0⟩ hs ω [] []
end Mine.B
end
section
namespace Mine.B
open PySem PySem.W PySem.W.X
structure Hold (E : R.World0) (T K : Cells) (N t : Nat) (s : Shared) : Prop where
  rep : R.Rep E ⟨T, N + 301, 0, t + 2595, 0⟩ s
  tup : ∀ x ∈ K, s.heap.get? x.1 = some x.2 ∧ R.frozen x.2 = true
noncomputable def restOf (T0 T : Cells) : Cells := T0.filter fun x => !(T.any fun y => y.1 == x.1)
theorem mem_rest {T0 T : Cells} {x : Nat × Obj} : x ∈ restOf T0 T ↔ x ∈ T0 ∧ x.1 ∉ T.map (·.1) := by
  unfold restOf
  rw [List.mem_filter]
  simp only [Bool.not_eq_true', List.any_eq_false, beq_iff_eq, List.mem_map, not_exists, not_and]
theorem seg_use {w : World} {E : R.World0} (HE : EOk w E) (hP : E.P0 ≤ 301) {B : Nat} (hB : B + 320 ≤ 990) {T0 K0 T K : Cells} {N t : Nat} {s : Shared} (D : Hold E T0 K0 N t s) (hT : ∀ x ∈ T, x ∈ T0) (hn : (T.map (·.1)).Nodup) (hK : ∀ x ∈ K, x ∈ K0) (hfz : ∀ x ∈ T, R.frozen x.2 = false)
    {α : Type} {m : Sem α} {f : α → Flow} {Γ : Ctx} {p : Pos} {hs idx : List Nat} {r : Flow} {T' : (Nat → Nat) → Cells} {N' t' : (Nat → Nat) → Nat} {cs : (Nat → Nat) → List Prop} (hΓ : R.COk B Γ 20)
    (h : ∀ ω, Checks (R.ev (FW w K (Rb K)) 1000000 20 Γ p (m.bind fun a => .pure (.done (f a))) [] ⟨T, N + 301, 0, t + 2595, 0⟩ hs ω [] []) idx (.ok r) (T' ω) (N' ω) (t' ω) (cs ω)) (hi : idx.Nodup) (hc : ∀ ω, ∀ q ∈ cs ω, q) :
    Sem.wp E.M Γ m (fun a _ s' => f a = r ∧ ∃ ω N1 t1, Hold E (T' ω ++ restOf T0 T) K0 N1 t1 s') (fun _ _ _ => False) p s := by
  have D0 : R.Rep (E.at s K (T.map (·.1))) ⟨T, N + 301, 0, t + 2595, 0⟩ s := D.rep.at (fun x hx => D.tup x (hK x hx)) hT hn
  have HE' : EOk w (E.at s K (T.map (·.1))) := ⟨HE.M, HE.kt, HE.t0⟩
  have H : R.Fits (E.at s K (T.map (·.1))) (FW w K (Rb K)) B := fitsW HE' (by omega) rfl (Rb_valid HE' hB rfl)
  have z := R.seg_wp H hΓ (r := fun _ => .ok r) h hi hc D0
  refine Sem.wp_mono _ _ _ (fun a p' s' h' => ?_) (fun e p' s' h' => ?_) _ _ z
  · obtain ⟨ω, e, D1⟩ := h'
    refine ⟨by injection e, ω, ?_⟩
    have D2 := D.rep.back (T2 := restOf T0 T) hT D1 (fun x hx => mem_rest.mp hx) (by
      have hs : ((restOf T0 T).map (·.1)).Sublist (T0.map (·.1)) := (List.filter_sublist).map _
      exact hs.nodup D.rep.nodup) hfz
    have hsz : N + 301 ≤ N' ω + 0 := by
      have q : s.heap.objs.size ≤ N' ω + 0 := D1.old
      rw [D.rep.size] at q
      exact q
    have htk : E.t0 ≤ t' ω + 0 := D1.told
    rw [HE.t0] at htk
    refine ⟨N' ω - 301, t' ω - 2595, ?_, ?_⟩
    · exact ⟨by rw [D2.size]; show N' ω + 0 = N' ω - 301 + 301 + 0; omega, by rw [D2.toks]; show t' ω + 0 = t' ω - 2595 + 2595 + 0; omega, D2.cell, D2.nodup, D2.own, D2.known, D2.keep,
        by show E.P0 ≤ N' ω - 301 + 301 + 0; omega, by have q : E.h0.objs.size ≤ N' ω + 0 := D2.old; show E.h0.objs.size ≤ N' ω - 301 + 301 + 0; omega, D2.gens, D2.drawn, D2.os, D2.froz, by show E.t0 ≤ t' ω - 2595 + 2595 + 0; rw [HE.t0]; omega⟩
    · intro x hx
      obtain ⟨q1, q2⟩ := D.tup x hx
      refine ⟨D1.keep _ _ q1 fun hm => ?_, q2⟩
      obtain ⟨y, hy, e⟩ := List.mem_map.mp hm
      have c := D.rep.cell y (hT y hy)
      rw [e, q1] at c
      rw [Option.some.inj c, hfz y hy] at q2
      cases q2
  · obtain ⟨ω, e, _⟩ := h'
    cases e
theorem Hold.sub {E : R.World0} {T K T2 K2 : Cells} {N t : Nat} {s : Shared} (D : Hold E T K N t s) (hT : ∀ x ∈ T2, x ∈ T) (hn : (T2.map (·.1)).Nodup) (hK : ∀ x ∈ K2, x ∈ K ∨ (x ∈ T ∧ R.frozen x.2 = true)) : Hold E T2 K2 N t s :=
  ⟨D.rep.of_mem hT hn, fun x hx => by
    rcases hK x hx with h | ⟨h, hf⟩
    · exact D.tup x h
    · exact ⟨D.rep.cell x h, hf⟩⟩
end Mine.B
end
section
namespace Mine.B
open PySem PySem.W PySem.W.X
noncomputable def thingsI : List Int := [5, 8, 85, 88, 1368, 11]
noncomputable def up (e : Nat × Nat) : Int × Int := (Int.ofNat e.1, Int.ofNat e.2)
noncomputable def over (L : Int) (P : List (Int × Int)) : List (Int × Int) := (P.filter fun e => decide (e.2 > L)).map fun e => (e.1, e.2 - L)
noncomputable def HearQ (F : List (Nat × Nat)) (x r : Nat) (F' : List (Nat × Nat)) : Prop :=
  (∃ y, (x, y) ∈ F ∧ F' = (F.filter fun e => !(e.1 == x)) ++ [(x, y + 1)]) ∨ ((∀ e ∈ F, e.1 ≠ x) ∧ F.length < r ∧ F' = F ++ [(x, 1)]) ∨
  ((∀ e ∈ F, e.1 ≠ x) ∧ r ≤ F.length ∧ F' = (F.filter fun e => !(e.2 - 1 == 0)).map fun e => (e.1, e.2 - 1))
noncomputable def TakeQ (l : List (Int × Int)) (t : Int) (l' : List (Int × Int)) : Prop :=
  (∃ (i : Nat) (c : Int), l[i]? = some (t, c) ∧ l' = l.set i (t, c + 1)) ∨ ((∀ e ∈ l, e.1 ≠ t) ∧ ∃ (j : Nat) (w c : Int), l[j]? = some (w, c) ∧ (∀ e ∈ l, c ≤ e.2) ∧ l' = l.set j (t, c + 1))
structure PInv (F : List (Nat × Nat)) (P : List (Int × Int)) (S : List Int) (r k : Nat) (L : Int) : Prop where
  len : P.length = r + 1
  names : ∀ e ∈ F, e.1 ∈ [5, 8, 85, 88, 1368, 11] ∧ 1 ≤ e.2 ∧ e.2 ≤ k
  nd : (F.map (·.1)).Nodup
  low : ∃ e ∈ P, e.2 = L
  min : ∀ e ∈ P, L ≤ e.2
  perm : (F.map up).Perm (over L P)
  placed : ∀ e ∈ P, e.1 ∈ thingsI ∨ (e.1 = 0 ∧ e.2 = 0)
  pd : P.Pairwise fun a b => a.1 ∈ thingsI → a.1 ≠ b.1
  c1 : ∀ e ∈ P, e.1 ∈ thingsI → (S.count e.1 : Int) ≤ e.2 ∧ e.2 ≤ S.count e.1 + L
  c2 : ∀ x ∈ thingsI, (∀ e ∈ P, e.1 ≠ x) → (S.count x : Int) ≤ L
  l0 : 0 ≤ L
theorem split_set {α : Type} : ∀ {l : List α} {i : Nat} {a b : α}, l[i]? = some a → ∃ A B, l = A ++ a :: B ∧ l.set i b = A ++ b :: B
  | [], i, a, b, h => by simp at h
  | x :: l, 0, a, b, h => by simp only [List.getElem?_cons_zero, Option.some.injEq] at h; subst h; exact ⟨[], l, rfl, rfl⟩
  | x :: l, i + 1, a, b, h => by
    obtain ⟨A, B, e1, e2⟩ := split_set (b := b) (List.getElem?_cons_succ ▸ h : l[i]? = some a)
    exact ⟨x :: A, B, by rw [e1]; rfl, by rw [List.set_cons_succ, e2]; rfl⟩
theorem over_append (L : Int) (A B : List (Int × Int)) : over L (A ++ B) = over L A ++ over L B := by simp [over]
theorem over_cons_hi {L : Int} {e : Int × Int} {B : List (Int × Int)} (h : e.2 > L) : over L (e :: B) = (e.1, e.2 - L) :: over L B := by simp [over, h]
theorem over_cons_lo {L : Int} {e : Int × Int} {B : List (Int × Int)} (h : ¬ e.2 > L) : over L (e :: B) = over L B := by simp [over, h]
theorem mem_over {L : Int} {P : List (Int × Int)} {w d : Int} : (w, d) ∈ over L P ↔ ∃ c, (w, c) ∈ P ∧ c > L ∧ d = c - L := by
  unfold over
  simp only [List.mem_map, List.mem_filter, decide_eq_true_eq, Prod.mk.injEq]
  constructor
  · rintro ⟨⟨a, c⟩, ⟨h1, h2⟩, rfl, rfl⟩
    exact ⟨c, h1, h2, rfl⟩
  · rintro ⟨c, h1, h2, rfl⟩
    exact ⟨(w, c), ⟨h1, h2⟩, rfl, rfl⟩
theorem nat_mem {x : Nat} (h : x ∈ [5, 8, 85, 88, 1368, 11]) : Int.ofNat x ∈ thingsI := by
  revert x; decide
theorem over_len {L : Int} {P : List (Int × Int)} : (over L P).length + (P.filter fun e => !decide (e.2 > L)).length = P.length := by
  unfold over
  rw [List.length_map]
  induction P with
  | nil => rfl
  | cons e P ih =>
    by_cases h : e.2 > L <;> simp [List.filter_cons, h] at ih ⊢ <;> omega
theorem down_eq : ∀ (F : List (Nat × Nat)), (∀ e ∈ F, 1 ≤ e.2) → ((F.filter fun e => !(e.2 - 1 == 0)).map fun e => (e.1, e.2 - 1)).map up = ((F.map up).filter fun e => decide (e.2 > 1)).map fun e => (e.1, e.2 - 1)
  | [], _ => rfl
  | e :: F, h => by
    have ih := down_eq F fun e he => h e (.tail _ he)
    have he := h e (.head _)
    rw [List.filter_cons, List.map_cons, List.filter_cons]
    have hu : (up e).2 = (e.2 : Int) := rfl
    by_cases h1 : e.2 - 1 = 0
    · rw [if_neg (by simp [h1]), if_neg (by rw [hu]; simp; omega), ih]
    · rw [if_pos (by simpa using h1), if_pos (by rw [hu]; simp; omega), List.map_cons, List.map_cons, List.map_cons, ih]
      congr 1
      show (Int.ofNat e.1, Int.ofNat (e.2 - 1)) = (Int.ofNat e.1, (e.2 : Int) - 1)
      congr 1
      show ((e.2 - 1 : Nat) : Int) = _
      omega
theorem step {F F' : List (Nat × Nat)} {P P' : List (Int × Int)} {S : List Int} {r k x : Nat} {L : Int} (I : PInv F P S r k L) (hx : x ∈ [5, 8, 85, 88, 1368, 11]) (hH : HearQ F x r F') (hT : TakeQ P (Int.ofNat x) P') :
    ∃ L', PInv F' P' (S ++ [Int.ofNat x]) r (k + 1) L' := by
  have hxI := nat_mem hx
  -- the place
  obtain ⟨A, w, c, B, hP, hP', hwt⟩ : ∃ A w c B, P = A ++ (w, c) :: B ∧ P' = A ++ (Int.ofNat x, c + 1) :: B ∧ (w = Int.ofNat x ∨ ((∀ e ∈ P, e.1 ≠ Int.ofNat x) ∧ ∀ e ∈ P, c ≤ e.2)) := by
    rcases hT with ⟨i, c, h1, h2⟩ | ⟨h0, j, w, c, h1, h2, h3⟩
    · obtain ⟨A, B, e1, e2⟩ := split_set (b := (Int.ofNat x, c + 1)) h1
      exact ⟨A, _, c, B, e1, h2.trans e2, .inl rfl⟩
    · obtain ⟨A, B, e1, e2⟩ := split_set (b := (Int.ofNat x, c + 1)) h1
      exact ⟨A, w, c, B, e1, h3.trans e2, .inr ⟨h0, h2⟩⟩
  generalize ht : Int.ofNat x = t at *
  have hc : L ≤ c := I.min (w, c) (by rw [hP]; simp)
  have pdP := I.pd
  rw [hP] at pdP
  obtain ⟨pA, pB, pAB⟩ := List.pairwise_append.mp pdP
  obtain ⟨pc, pB'⟩ := List.pairwise_cons.mp pB
  -- no other place has t
  have nA : ∀ e ∈ A, e.1 ≠ t := by
    intro e he q
    rcases hwt with rfl | ⟨h0, _⟩
    · exact pAB e he (w, c) (.head _) (q ▸ hxI) q
    · exact h0 e (by rw [hP]; simp [he]) q
  have nB : ∀ e ∈ B, e.1 ≠ t := by
    intro e he q
    rcases hwt with rfl | ⟨h0, _⟩
    · exact pc e he hxI q.symm
    · exact h0 e (by rw [hP]; simp [he]) q
  have len' : P'.length = r + 1 := by rw [← I.len, hP, hP']; simp
  have placed' : ∀ e ∈ P', e.1 ∈ thingsI ∨ (e.1 = 0 ∧ e.2 = 0) := by
    intro e he
    rw [hP'] at he
    rcases List.mem_append.mp he with he | he
    · exact I.placed e (by rw [hP]; simp [he])
    · rcases List.mem_cons.mp he with rfl | he
      · exact .inl hxI
      · exact I.placed e (by rw [hP]; simp [he])
  have pd' : P'.Pairwise fun a b => a.1 ∈ thingsI → a.1 ≠ b.1 := by
    rw [hP']
    refine List.pairwise_append.mpr ⟨pA, List.pairwise_cons.mpr ⟨fun e he _ q => nB e he q.symm, pB'⟩, fun a ha b hb hi => ?_⟩
    rcases List.mem_cons.mp hb with rfl | hb
    · exact nA a ha
    · exact pAB a ha b (.tail _ hb) hi
  have cntT : ((S ++ [t]).count t : Int) = S.count t + 1 := by simp
  have cntO : ∀ z, z ≠ t → ((S ++ [t]).count z : Int) = S.count z := by
    intro z hz
    have : ([t] : List Int).count z = 0 := List.count_eq_zero.mpr (by simpa using hz)
    simp [this]
  -- what stands of t so far
  have tc : (S.count t : Int) ≤ c ∧ c ≤ S.count t + L := by
    rcases hwt with rfl | ⟨h0, hm⟩
    · exact I.c1 (w, c) (by rw [hP]; simp) hxI
    · have h1 := I.c2 t hxI h0
      obtain ⟨e, he, rfl⟩ := I.low
      have h2 := hm e he
      have h3 : c = e.2 := Int.le_antisymm h2 hc
      omega
  -- all but the names' lists
  have rest : ∀ L', L ≤ L' → (∃ e ∈ P', e.2 = L') → (∀ e ∈ P', L' ≤ e.2) → (c > L → L' = L) → (∀ e ∈ F', e.1 ∈ [5, 8, 85, 88, 1368, 11] ∧ 1 ≤ e.2 ∧ e.2 ≤ k + 1) → (F'.map (·.1)).Nodup → (F'.map up).Perm (over L' P') → PInv F' P' (S ++ [t]) r (k + 1) L' := by
    intro L' hL hlow hmin _ hn hnd hp
    refine ⟨len', hn, hnd, hlow, hmin, hp, placed', pd', ?_, ?_, Int.le_trans I.l0 hL⟩
    · intro e he hi
      rw [hP'] at he
      have old : e ∈ A ∨ e ∈ B → ((S ++ [t]).count e.1 : Int) ≤ e.2 ∧ e.2 ≤ ((S ++ [t]).count e.1 : Int) + L' := by
        intro h
        have hne : e.1 ≠ t := by rcases h with h | h; exact nA e h; exact nB e h
        rw [cntO _ hne]
        have := I.c1 e (by rw [hP]; rcases h with h | h <;> simp [h]) hi
        omega
      rcases List.mem_append.mp he with he | he
      · exact old (.inl he)
      · rcases List.mem_cons.mp he with rfl | he
        · dsimp only
          rw [cntT]
          omega
        · exact old (.inr he)
    · intro z hz hno
      have hne : z ≠ t := by
        intro q
        exact hno (t, c + 1) (by rw [hP']; simp) q.symm
      rw [cntO _ hne]
      by_cases hzw : z = w
      · subst hzw
        rcases hwt with rfl | ⟨h0, hm⟩
        · exact absurd rfl hne
        · obtain ⟨e, he, hle⟩ := I.low
          have h2 := hm e he
          have := (I.c1 (z, c) (by rw [hP]; simp) hz).1
          dsimp only at this
          omega
      · have := I.c2 z hz (fun e he q => by
          rw [hP] at he
          rcases List.mem_append.mp he with he | he
          · exact hno e (by rw [hP']; simp [he]) q
          · rcases List.mem_cons.mp he with rfl | he
            · exact hzw q.symm
            · exact hno e (by rw [hP']; simp [he]) q)
        omega
  have permP := I.perm
  rw [hP, over_append] at permP
  rcases hH with ⟨y, hy, hF'⟩ | ⟨hno, hlen, hF'⟩ | ⟨hno, hlen, hF'⟩
  · -- found
    have hin : (t, (y : Int)) ∈ over L P := by
      rw [← I.perm.mem_iff]
      exact List.mem_map.mpr ⟨(x, y), hy, by rw [← ht]; rfl⟩
    obtain ⟨c', h1, h2, h3⟩ := mem_over.mp hin
    have hwc : w = t ∧ c' = c := by
      rw [hP] at h1
      rcases List.mem_append.mp h1 with h | h
      · exact absurd rfl (nA _ h)
      · rcases List.mem_cons.mp h with h | h
        · injection h with a b; exact ⟨a.symm, b⟩
        · exact absurd rfl (nB _ h)
    obtain ⟨rfl, rfl⟩ := hwc
    have hy1 := (I.names _ hy).2
    obtain ⟨e0, he0, hl0⟩ := I.low
    refine ⟨L, rest L (Int.le_refl _) ?_ ?_ (fun _ => rfl) ?_ ?_ ?_⟩
    · refine ⟨e0, ?_, hl0⟩
      rw [hP] at he0; rw [hP']
      rcases List.mem_append.mp he0 with h | h
      · simp [h]
      · rcases List.mem_cons.mp h with rfl | h
        · dsimp only at hl0; omega
        · simp [h]
    · intro e he
      rw [hP'] at he
      rcases List.mem_append.mp he with h | h
      · exact I.min e (by rw [hP]; simp [h])
      · rcases List.mem_cons.mp h with rfl | h
        · dsimp only; omega
        · exact I.min e (by rw [hP]; simp [h])
    · intro e he
      rw [hF'] at he
      rcases List.mem_append.mp he with h | h
      · have := I.names e (List.mem_filter.mp h).1
        exact ⟨this.1, this.2.1, by omega⟩
      · simp only [List.mem_singleton] at h
        subst h
        dsimp only at hy1 ⊢
        exact ⟨hx, by omega, by omega⟩
    · rw [hF', List.map_append]
      refine List.nodup_append.mpr ⟨((List.filter_sublist).map _).nodup I.nd, by simp, ?_⟩
      intro a ha b hb q
      simp only [List.map_cons, List.map_nil, List.mem_singleton] at hb
      subst hb
      subst q
      obtain ⟨e, he, rfl⟩ := List.mem_map.mp ha
      have := (List.mem_filter.mp he).2
      simp at this
    · rw [hF', hP', over_append, over_cons_hi (by dsimp only; omega)]
      rw [over_cons_hi (by exact h2)] at permP
      have h4 := permP.filter fun e => !(e.1 == w)
      have e1 : (F.map up).filter (fun e => !(e.1 == w)) = (F.filter fun e => !(e.1 == x)).map up := by
        rw [List.filter_map]
        congr 1
        apply List.filter_congr
        intro e _
        show (!((Int.ofNat e.1) == w)) = !(e.1 == x)
        rw [← ht]
        congr 1
        rw [Bool.eq_iff_iff, beq_iff_eq, beq_iff_eq]
        exact ⟨fun q => Int.ofNat.inj q, fun q => by rw [q]⟩
      have ns : ∀ C : List (Int × Int), (∀ e ∈ C, e.1 ≠ w) → (over L C).filter (fun e => !(e.1 == w)) = over L C := by
        intro C hC
        rw [List.filter_eq_self]
        intro e he
        obtain ⟨a, d⟩ := e
        obtain ⟨c', h1, _⟩ := mem_over.mp he
        have := hC _ h1
        simpa using this
      rw [e1, List.filter_append, ns A nA, List.filter_cons, ns B nB] at h4
      simp only [beq_self_eq_true, Bool.not_true, Bool.false_eq_true, if_false] at h4
      rw [List.map_append]
      have e2 : ([(x, y + 1)] : List (Nat × Nat)).map up = [(w, c' + 1 - L)] := by
        show [(Int.ofNat x, Int.ofNat (y + 1))] = _
        rw [ht]
        have : Int.ofNat (y + 1) = c' + 1 - L := by show ((y + 1 : Nat) : Int) = _; omega
        rw [this]
      rw [e2]
      refine (h4.append_right _).trans ?_
      rw [List.append_assoc]
      exact List.Perm.append_left _ (List.perm_append_comm.trans (List.Perm.refl _))
  · -- room is left
    have hcL : c = L := by
      rcases hwt with rfl | ⟨h0, hm⟩
      · rcases Int.lt_or_eq_of_le hc with h | h
        · exfalso
          have : (w, c - L) ∈ over L P := mem_over.mpr ⟨c, by rw [hP]; simp, h, rfl⟩
          rw [← I.perm.mem_iff] at this
          obtain ⟨e, he, q⟩ := List.mem_map.mp this
          have q1 : Int.ofNat e.1 = w := congrArg Prod.fst q
          rw [← ht] at q1
          exact hno e he (Int.ofNat.inj q1)
        · exact h.symm
      · obtain ⟨e, he, rfl⟩ := I.low
        exact Int.le_antisymm (hm e he) hc
    subst hcL
    rw [over_cons_lo (by dsimp only; omega)] at permP
    have hl := permP.length_eq
    have hl2 := over_len (L := c) (P := A ++ B)
    rw [over_append] at hl2
    have hl3 : (A ++ B).length = r := by have := I.len; rw [hP] at this; simp at this ⊢; omega
    have hne : 0 < ((A ++ B).filter fun e => !decide (e.2 > c)).length := by
      rw [List.length_map] at hl
      omega
    obtain ⟨e0, he0⟩ := List.exists_mem_of_length_pos hne
    obtain ⟨he1, he2⟩ := List.mem_filter.mp he0
    have he3 : e0.2 = c := by
      have h1 : ¬ e0.2 > c := by simpa using he2
      have h2 := I.min e0 (by rw [hP]; rcases List.mem_append.mp he1 with h | h <;> simp [h])
      omega
    refine ⟨c, rest c (Int.le_refl _) ?_ ?_ (fun _ => rfl) ?_ ?_ ?_⟩
    · refine ⟨e0, ?_, he3⟩
      rw [hP']
      rcases List.mem_append.mp he1 with h | h <;> simp [h]
    · intro e he
      rw [hP'] at he
      rcases List.mem_append.mp he with h | h
      · exact I.min e (by rw [hP]; simp [h])
      · rcases List.mem_cons.mp h with rfl | h
        · dsimp only; omega
        · exact I.min e (by rw [hP]; simp [h])
    · intro e he
      rw [hF'] at he
      rcases List.mem_append.mp he with h | h
      · have := I.names e h
        exact ⟨this.1, this.2.1, by omega⟩
      · simp only [List.mem_singleton] at h
        subst h
        exact ⟨hx, Nat.le_refl 1, by omega⟩
    · rw [hF', List.map_append]
      refine List.nodup_append.mpr ⟨I.nd, by simp, ?_⟩
      intro a ha b hb q
      simp only [List.map_cons, List.map_nil, List.mem_singleton] at hb
      subst hb
      subst q
      obtain ⟨e, he, q⟩ := List.mem_map.mp ha
      exact hno e he q
    · rw [hF', hP', over_append, over_cons_hi (by dsimp only; omega), List.map_append]
      have e2 : ([(x, 1)] : List (Nat × Nat)).map up = [(t, c + 1 - c)] := by
        show [(Int.ofNat x, Int.ofNat 1)] = _
        rw [ht]
        have : Int.ofNat 1 = c + 1 - c := by show ((1 : Nat) : Int) = _; omega
        rw [this]
      rw [e2]
      refine (permP.append_right _).trans ?_
      rw [List.append_assoc]
      exact List.Perm.append_left _ (List.perm_append_comm.trans (List.Perm.refl _))
  · -- no room: all go down
    have hcL : c = L := by
      rcases hwt with rfl | ⟨h0, hm⟩
      · rcases Int.lt_or_eq_of_le hc with h | h
        · exfalso
          have : (w, c - L) ∈ over L P := mem_over.mpr ⟨c, by rw [hP]; simp, h, rfl⟩
          rw [← I.perm.mem_iff] at this
          obtain ⟨e, he, q⟩ := List.mem_map.mp this
          have q1 : Int.ofNat e.1 = w := congrArg Prod.fst q
          rw [← ht] at q1
          exact hno e he (Int.ofNat.inj q1)
        · exact h.symm
      · obtain ⟨e, he, rfl⟩ := I.low
        exact Int.le_antisymm (hm e he) hc
    subst hcL
    rw [over_cons_lo (by dsimp only; omega)] at permP
    have hl := permP.length_eq
    have hl2 := over_len (L := c) (P := A ++ B)
    rw [over_append] at hl2
    have hl3 : (A ++ B).length = r := by have := I.len; rw [hP] at this; simp at this ⊢; omega
    have hz : ((A ++ B).filter fun e => !decide (e.2 > c)).length = 0 := by
      rw [List.length_map] at hl
      omega
    have hi : ∀ e ∈ A ++ B, e.2 > c := by
      intro e he
      have := List.length_eq_zero_iff.mp hz
      rw [List.filter_eq_nil_iff] at this
      have := this e he
      simpa using this
    refine ⟨c + 1, rest (c + 1) (by omega) ⟨(t, c + 1), by rw [hP']; simp, rfl⟩ ?_ (fun h => by omega) ?_ ?_ ?_⟩
    · intro e he
      rw [hP'] at he
      rcases List.mem_append.mp he with h | h
      · have := hi e (by simp [h]); omega
      · rcases List.mem_cons.mp h with rfl | h
        · exact Int.le_refl _
        · have := hi e (by simp [h]); omega
    · intro e he
      rw [hF'] at he
      obtain ⟨e', h, rfl⟩ := List.mem_map.mp he
      obtain ⟨h1, h2⟩ := List.mem_filter.mp h
      have := I.names e' h1
      have h3 : ¬ e'.2 - 1 = 0 := by simpa using h2
      exact ⟨this.1, by dsimp only; omega, by dsimp only; omega⟩
    · rw [hF', List.map_map]
      exact (((List.filter_sublist).map _).nodup I.nd : ((F.filter _).map (·.1)).Nodup)
    · rw [hF', hP', over_append, over_cons_lo (by dsimp only; omega)]
      have key : ∀ C : List (Int × Int), (∀ e ∈ C, e.2 > c) → ((over c C).filter fun e => decide (e.2 > 1)).map (fun e => (e.1, e.2 - 1)) = over (c + 1) C := by
        intro C
        induction C with
        | nil => intro _; rfl
        | cons e C ih =>
          intro h
          have ih := ih fun e he => h e (.tail _ he)
          have he := h e (.head _)
          rw [over_cons_hi he]
          by_cases h1 : e.2 > c + 1
          · rw [over_cons_hi h1, List.filter_cons, if_pos (by simp; omega), List.map_cons, ih]
            congr 2
            omega
          · rw [over_cons_lo h1, List.filter_cons, if_neg (by simp; omega), ih]
      have h4 := (permP.filter fun e => decide (e.2 > 1)).map fun e => (e.1, e.2 - 1)
      rw [List.filter_append, List.map_append, key A (fun e he => hi e (by simp [he])), key B (fun e he => hi e (by simp [he]))] at h4
      refine List.Perm.trans (List.Perm.of_eq ?_) h4
      exact down_eq F fun e he => (I.names e he).2.1
end Mine.B
end
section
namespace Mine.B
open PySem PySem.W PySem.W.X
noncomputable def fnL {α : Type} : List (Nat × α) → (Nat → α) → Nat → α
  | [], d, i => d i
  | (k, v) :: r, d, i => match Nat.beq i k with
    | true => v
    | false => fnL r d i
structure HE where
  a : Nat
  s : Str
  t : Nat
  c : Str
  u : Nat
  x : Nat
  y : Nat
structure PE where
  a : Nat
  who : Int
  t : Nat
  cnt : Int
  u : Nat
structure Loc where
  room : Int
  told : Int
  num : Int
  thg : Int
  word : Str
  due : Nat
  τ : Nat → Nat
  least : Int
  lt : Nat
  dt : Nat
  e0 : Nat
  e1 : Nat
  e2 : Nat
  X : Array Value
  o1 : Obj
  o2 : Obj
  o3 : Obj
noncomputable def heK (hd : List HE) : Cells := hd.map fun h => (h.a, tupS h.s h.t h.c h.u)
noncomputable def peK (pl : List PE) : Cells := pl.map fun q => (q.a, R.tupO q.who q.t q.cnt q.u)
noncomputable def TT (P : Params) (L : Loc) (hd : List HE) (pl : List PE) : Cells :=
  [(282, frL P L.τ L.room L.told L.num L.thg L.word L.due), (283, cellL L.least L.lt), (285, dictF P L.dt), (286, instF), (288, listV (hd.map fun h => Value.ref h.a).toArray L.e0), (294, listV (pl.map fun q => Value.ref q.a).toArray L.e1), (295, listV L.X L.e2), (299, L.o1), (300, L.o2), (281, L.o3)]
theorem TT_keys (P : Params) (L : Loc) (hd : List HE) (pl : List PE) : (TT P L hd pl).map (·.1) = [282, 283, 285, 286, 288, 294, 295, 299, 300, 281] := rfl
theorem TT_nodup (P : Params) (L : Loc) (hd : List HE) (pl : List PE) : ((TT P L hd pl).map (·.1)).Nodup := by rw [TT_keys]; decide
noncomputable def HEok (k : Nat) (h : HE) : Prop := h.x ∈ things ∧ (h.s = apS h.x ∨ h.s = lo h.x) ∧ h.c = apS h.y ∧ 1 ≤ h.y ∧ h.y ≤ k
theorem lo_inj : ∀ a ∈ things, ∀ b ∈ things, lo a = lo b → a = b := by decide
theorem counts_mem {y : Nat} (h1 : 1 ≤ y) (h2 : y ≤ 20) : y ∈ counts1 := by
  have : ∀ y < 21, 1 ≤ y → y ∈ counts1 := by decide
  exact this y (by omega) h1
theorem nums_mem {y : Nat} (h2 : y ≤ 20) : y ∈ nums := by
  have : ∀ y < 21, y ∈ nums := by decide
  exact this y (by omega)
theorem things_nums : ∀ a ∈ things, a ∈ nums := by decide
theorem lwOk {k : Nat} {h : HE} (H : HEok k h) : LwOk h.s h.x := ⟨H.1, H.2.1⟩
theorem lwLo {x : Nat} (h : x ∈ things) : LwOk (lo x) x := ⟨h, .inr rfl⟩
theorem lwAp {x : Nat} (h : x ∈ things) : LwOk (apS x) x := ⟨h, .inl rfl⟩
theorem cvName {k : Nat} {h : HE} (H : HEok k h) : CvOk h.s true := .inl ⟨rfl, h.x, H.1, H.2.1⟩
theorem cvLo {x : Nat} (h : x ∈ things) : CvOk (lo x) true := .inl ⟨rfl, x, h, .inr rfl⟩
theorem cvAp {x : Nat} (h : x ∈ things) : CvOk (apS x) true := .inl ⟨rfl, x, h, .inl rfl⟩
theorem cvNum {y : Nat} (h1 : 1 ≤ y) (h2 : y ≤ 20) : CvOk (apS y) false := .inr ⟨rfl, y, counts_mem h1 h2, rfl⟩
theorem nuC {k : Nat} {h : HE} (H : HEok k h) (hk : k ≤ 20) : NuOk h.c h.y := .inl ⟨H.2.2.1, nums_mem (by have := H.2.2.2.2; omega)⟩
theorem nuN {k : Nat} {h : HE} (H : HEok k h) : NuOk h.s h.x := by
  rcases H.2.1 with q | q
  · exact .inl ⟨q, things_nums _ H.1⟩
  · exact .inr ⟨q, H.1⟩
theorem nuLo {x : Nat} (h : x ∈ things) : NuOk (lo x) x := .inr ⟨rfl, h⟩
theorem apUp {y : Nat} (h : y ≤ 19) : ApOk (Int.ofNat y + 1) (y + 1) := ⟨rfl, nums_mem (by omega)⟩
theorem apDn {y : Nat} (h1 : 1 ≤ y) (h : y ≤ 20) : ApOk (Int.ofNat y - 1) (y - 1) := ⟨by show (y : Int) - 1 = ((y - 1 : Nat) : Int); omega, nums_mem (by omega)⟩
theorem apTh {x : Nat} (h : x ∈ things) : ApOk (Int.ofNat x) x := ⟨rfl, things_nums _ h⟩
theorem dcUp {y : Nat} (h : y ≤ 19) : DcOk (apB (y + 1)) (y + 1) := ⟨rfl, nums_mem (by omega)⟩
theorem dcDn {y : Nat} (h : y ≤ 20) : DcOk (apB (y - 1)) (y - 1) := ⟨rfl, nums_mem (by omega)⟩
theorem dcTh {x : Nat} (h : x ∈ things) : DcOk (apB x) x := ⟨rfl, things_nums _ h⟩
theorem dies : ∀ y < 21, apS (y - 1) = (⟨#[]⟩ : Str) ↔ y - 1 = 0 := by decide
theorem cvDn {y : Nat} (h1 : 2 ≤ y) (h2 : y ≤ 20) : CvOk (apS (y - 1)) false := .inr ⟨rfl, y - 1, counts_mem (by omega) (by omega), rfl⟩
noncomputable def keyH (h : HE) : Nat × Nat := (h.x, h.y)
noncomputable def keyP (q : PE) : Int × Int := (q.who, q.cnt)
noncomputable def AllOk (k : Nat) (hd : List HE) : Prop := ∀ h ∈ hd, HEok k h
theorem HEok.mono {k j : Nat} {h : HE} (H : HEok k h) (hj : k ≤ j) : HEok j h := ⟨H.1, H.2.1, H.2.2.1, H.2.2.2.1, Nat.le_trans H.2.2.2.2 hj⟩
noncomputable def nin (i : Nat) : List Nat → Bool
  | [] => true
  | j :: l => match Nat.beq i j with
    | true => false
    | false => nin i l
noncomputable def unsF (ix : List Nat) : Nat → Cells → Cells
  | _, [] => []
  | i, x :: r => match nin i ix with
    | true => x :: unsF ix (i + 1) r
    | false => unsF ix (i + 1) r
noncomputable def sel : List Nat → Cells → Cells
  | [], _ => []
  | i :: ix, T => match gt T i with
    | some x => x :: sel ix T
    | none => sel ix T
theorem nin_iff {i : Nat} : ∀ {l : List Nat}, nin i l = true ↔ i ∉ l
  | [] => by simp [nin]
  | j :: l => by
    unfold nin
    cases e : Nat.beq i j with
    | true => simp [Nat.eq_of_beq_eq_true e]
    | false =>
      have : i ≠ j := Nat.ne_of_beq_eq_false e
      simp [this, nin_iff (l := l)]
theorem mem_sel {x : Nat × Obj} {T : Cells} : ∀ {ix : List Nat}, x ∈ sel ix T ↔ ∃ i ∈ ix, gt T i = some x
  | [] => by simp [sel]
  | i :: ix => by
    unfold sel
    cases e : gt T i with
    | none => simp [mem_sel (ix := ix), e]
    | some y => simp [mem_sel (ix := ix), e, eq_comm]
theorem mem_uns {ix : List Nat} {x : Nat × Obj} : ∀ {T : Cells} {k : Nat}, x ∈ unsF ix k T ↔ ∃ i, i + k ∉ ix ∧ gt T i = some x
  | [], k => by simp [unsF, gt]
  | y :: r, k => by
    have ih := mem_uns (ix := ix) (x := x) (T := r) (k := k + 1)
    have step : (∃ i, i + k ∉ ix ∧ gt (y :: r) i = some x) ↔ (k ∉ ix ∧ y = x) ∨ ∃ i, i + (k + 1) ∉ ix ∧ gt r i = some x := by
      constructor
      · rintro ⟨i, h1, h2⟩
        cases i with
        | zero => exact .inl ⟨by simpa using h1, by simpa [gt] using h2⟩
        | succ i => exact .inr ⟨i, by rw [show i + (k + 1) = i + 1 + k by omega]; exact h1, h2⟩
      · rintro (⟨h1, h2⟩ | ⟨i, h1, h2⟩)
        · exact ⟨0, by simpa using h1, by simp [gt, h2]⟩
        · exact ⟨i + 1, by rw [show i + 1 + k = i + (k + 1) by omega]; exact h1, h2⟩
    rw [step]
    unfold unsF
    cases e : nin k ix with
    | true => have := nin_iff.mp e; simp [ih, this, eq_comm]
    | false =>
      have : k ∈ ix := by
        have h : ¬ nin k ix = true := by simp [e]
        rw [nin_iff] at h
        simpa using h
      simp [ih, this]
theorem gt_of_mem {x : Nat × Obj} : ∀ {T : Cells}, x ∈ T → ∃ i, gt T i = some x
  | y :: r, h => by
    rcases List.mem_cons.mp h with rfl | h
    · exact ⟨0, rfl⟩
    · obtain ⟨i, e⟩ := gt_of_mem h
      exact ⟨i + 1, e⟩
theorem split_mem {ix : List Nat} {T : Cells} {x : Nat × Obj} (h : x ∈ T) : x ∈ sel ix T ∨ x ∈ unsF ix 0 T := by
  obtain ⟨i, e⟩ := gt_of_mem h
  by_cases hi : i ∈ ix
  · exact .inl (mem_sel.mpr ⟨i, hi, e⟩)
  · exact .inr (mem_uns.mpr ⟨i, hi, e⟩)
theorem uns_rest {ix : List Nat} {T : Cells} {x : Nat × Obj} (hn : (T.map (·.1)).Nodup) (h : x ∈ unsF ix 0 T) : x ∈ restOf T (sel ix T) := by
  obtain ⟨i, hi, e⟩ := mem_uns.mp h
  refine mem_rest.mpr ⟨gt_mem e, fun hm => ?_⟩
  obtain ⟨y, hy, ek⟩ := List.mem_map.mp hm
  obtain ⟨j, hj, e2⟩ := mem_sel.mp hy
  exact hi (gt_inj hn e2 e ek ▸ hj)
theorem sel_nodup {T : Cells} (hn : (T.map (·.1)).Nodup) : ∀ {ix : List Nat}, ix.Nodup → ((sel ix T).map (·.1)).Nodup
  | [], _ => List.nodup_nil
  | i :: ix, h => by
    obtain ⟨h1, h2⟩ := List.nodup_cons.mp h
    unfold sel
    cases e : gt T i with
    | none => exact sel_nodup hn h2
    | some x =>
      refine List.nodup_cons.mpr ⟨fun hm => ?_, sel_nodup hn h2⟩
      obtain ⟨y, hy, ek⟩ := List.mem_map.mp hm
      obtain ⟨j, hj, e2⟩ := mem_sel.mp hy
      exact h1 (gt_inj hn e e2 ek.symm ▸ hj)
structure RS where
  T : Params → Cells
  ex : Cells
  N : Nat
  t : Nat
noncomputable abbrev SegQ (cd : Params → Code) (bl : Params → List (Code × Pos)) (w : World) (b1 b2 : Bool) (pa : Option Value) (p : Pos) (N t : Nat) (ω : Nat → Nat) (Kc : Cells) (T0 : Params → Cells) (ix ix' : List Nat) (tree : Params → Sem Flow) (hs idx : List Nat) (R : Nat → Nat → (Nat → Nat) → RS) (cs : List Prop) : Prop :=
  Checks (evB w b1 b2 (cd (pp w b1 b2)) (bl (pp w b1 b2)) pa p N t ω Kc ((tree (pp w b1 b2)).bind fun f => .pure (.done f)) (sel ix (T0 (pp w b1 b2))) hs) idx (.ok .next) (sel ix' ((R N t ω).T (pp w b1 b2)) ++ (R N t ω).ex) (R N t ω).N (R N t ω).t cs
noncomputable def SegC (cd : Params → Code) (bl : Params → List (Code × Pos)) (Kc : Cells) (T0 : Params → Cells) (ix ix' : List Nat) (tree : Params → Sem Flow) (hs idx : List Nat) (R : Nat → Nat → (Nat → Nat) → RS) (cs : List Prop) : Prop :=
  ∀ (w : World) (b1 b2 : Bool) (pa : Option Value) (p : Pos) (N t : Nat) (ω : Nat → Nat), SegQ cd bl w b1 b2 pa p N t ω Kc T0 ix ix' tree hs idx R cs
noncomputable def allFz (b : Bool) : Cells → Bool
  | [] => true
  | x :: r => match R.frozen x.2 == b with
    | true => allFz b r
    | false => false
theorem allFz_cons {b : Bool} {y : Nat × Obj} {r : Cells} (h : allFz b (y :: r) = true) : R.frozen y.2 = b ∧ allFz b r = true := by
  have e : allFz b (y :: r) = (match R.frozen y.2 == b with | true => allFz b r | false => false) := rfl
  rw [e] at h
  generalize R.frozen y.2 = c at h ⊢
  cases c <;> cases b <;> first | exact ⟨rfl, h⟩ | exact absurd h Bool.false_ne_true
theorem allFz_ok {b : Bool} {T : Cells} (h : allFz b T = true) : ∀ x ∈ T, R.frozen x.2 = b := by
  induction T with
  | nil => intro x hx; cases hx
  | cons y r ih =>
    intro x hx
    obtain ⟨h1, h2⟩ := allFz_cons h
    rcases List.mem_cons.mp hx with e | hx
    · rw [e]; exact h1
    · exact ih h2 x hx
theorem segc_use {w : World} {b1 b2 : Bool} {E : R.World0} (HEo : EOk (wb w b1 b2) E) (hP : E.P0 ≤ 301) {B : Nat} (hB : B + 320 ≤ 990) {cd : Params → Code} {bl : Params → List (Code × Pos)} {pa : Option Value} (hΓ : R.COk B ⟨cd (pp w b1 b2), none, none, bl (pp w b1 b2), pa⟩ 20)
    {Kc K : Cells} {T0 : Params → Cells} {ix ix' : List Nat} {tree : Params → Sem Flow} {hs idx : List Nat} {R : Nat → Nat → (Nat → Nat) → RS} {cs : List Prop} (C : SegC cd bl Kc T0 ix ix' tree hs idx R cs) (hi : idx.Nodup) (hix : ix.Nodup)
    (hfz : ∀ P, allFz false (sel ix (T0 P)) = true) (hun : ∀ P N t ω, unsF ix 0 (T0 P) = unsF ix' 0 ((R N t ω).T P)) (hex : ∀ N t ω, allFz true (R N t ω).ex = true) (hn : ∀ P N t ω, (((R N t ω).T P).map (·.1)).Nodup) (hc : ∀ q ∈ cs, q)
    {p : Pos} {N t : Nat} {s : Shared} (hK : ∀ x ∈ Kc, x ∈ K) (D : Hold E (T0 (pp w b1 b2)) K N t s) :
    Sem.wp E.M ⟨cd (pp w b1 b2), none, none, bl (pp w b1 b2), pa⟩ (tree (pp w b1 b2)) (fun f _ s' => f = .next ∧ ∃ N' t' ω N1 t1, Hold E ((R N' t' ω).T (pp w b1 b2)) ((R N' t' ω).ex ++ K) N1 t1 s') (fun _ _ _ => False) p s := by
  have hn0 : ((T0 (pp w b1 b2)).map (·.1)).Nodup := D.rep.nodup
  have z := seg_use HEo hP hB D (K := Kc) (T := sel ix (T0 (pp w b1 b2))) (fun x hx => by obtain ⟨i, _, e⟩ := mem_sel.mp hx; exact gt_mem e) (sel_nodup hn0 hix) hK (allFz_ok (hfz _)) hΓ (f := fun f => f) (fun ω => C w b1 b2 pa p N t ω) hi (fun _ => hc)
  refine Sem.wp_mono _ _ _ (fun f p' s' h' => ?_) (fun _ _ _ h => h) _ _ z
  obtain ⟨hf, ω, N1, t1, D1⟩ := h'
  refine ⟨hf, N, t, ω, N1, t1, D1.sub (fun x hx => ?_) (hn _ _ _ _) (fun x hx => ?_)⟩
  · rcases split_mem (ix := ix') hx with h | h
    · exact List.mem_append_left _ (List.mem_append_left _ h)
    · rw [← hun] at h
      exact List.mem_append_right _ (uns_rest hn0 h)
  · rcases List.mem_append.mp hx with h | h
    · exact .inr ⟨List.mem_append_left _ (List.mem_append_right _ h), allFz_ok (hex _ _ _) x h⟩
    · exact .inl h
@[irreducible] noncomputable def sgT (i : Nat) (P : Params) : Sem Flow := execs [(body1 P).getD i passS] (envL P)
end Mine.B
end
section
namespace Mine.B
open PySem PySem.W PySem.W.X
noncomputable abbrev cd1 (P : Params) : Code := .forLoop (for1 P).1 (.ref 300) (body1 P) (for1 P).2.2.2 (envL P)
noncomputable abbrev bl1 (P : Params) (q1 q2 : Pos) : List (Code × Pos) := [(.func (lawStmts P) (envL P), q1), (.builtin "claim.caller" {}, q2)]
noncomputable def keptK : Str × Nat := (⟨#[107, 101, 112, 116]⟩, 15)
noncomputable def frM (P : Params) (ks : List (Str × Nat)) (τ : Nat → Nat) (vs : List Value) : Obj := ⟨.type "frame", none, .dict ⟨List.zipWith (fun k v => key P k.1 (τ k.2) v) ks vs⟩ vs.length, #[]⟩
noncomputable def cell0 : Obj := { cls := .type "cell", data := .cell none }
noncomputable def fr5 (P : Params) (τ : Nat → Nat) (r : Int) : Obj := frM P (frKeys.take 5) τ [.ref 281, .int r (τ 2), .ref 286, .ref 294, .ref 295]
noncomputable def T1 (P : Params) (τ : Nat → Nat) (r : Int) (dt m e0 e1 e2 : Nat) (o1 o2 o3 : Obj) : Cells :=
  [(282, fr5 P τ r), (283, cell0), (285, dictF P dt), (286, instF), (288, listV #[] e0), (294, listV (List.replicate m (Value.ref 292)).toArray e1), (295, listV #[] e2), (299, o1), (300, o2), (281, o3)]
noncomputable def vsL (L : Loc) : List Value := [.ref 281, .int L.room (L.τ 2), .ref 286, .ref 294, .ref 295, .int L.told (L.τ 7), .int L.num (L.τ 9), .int L.thg (L.τ 11), .str L.word (L.τ 13), .ref L.due]
noncomputable def FF (P : Params) (b : Bool) (L : Loc) (kept : Int) : Obj := match b with
  | true => frM P (frKeys ++ [keptK]) L.τ (vsL L ++ [.int kept (L.τ 16)])
  | false => frM P frKeys L.τ (vsL L)
noncomputable def TF (P : Params) (b : Bool) (L : Loc) (kept : Int) (hd : List HE) : Cells :=
  [(282, FF P b L kept), (283, cellL L.least L.lt), (285, dictF P L.dt), (286, instF), (288, listV (hd.map fun h => Value.ref h.a).toArray L.e0), (295, listV L.X L.e2), (281, L.o3)]
theorem TF_nodup (P : Params) (b : Bool) (L : Loc) (kept : Int) (hd : List HE) : ((TF P b L kept hd).map (·.1)).Nodup := by
  show ([282, 283, 285, 286, 288, 295, 281] : List Nat).Nodup
  decide
@[irreducible] noncomputable def fiT (v : Int) (vt : Nat) (P : Params) : Sem Flow := (assign (for1 P).1 (envL P) (.int v vt)).bind fun _ => execs ((body1 P).take 4) (envL P)
@[irreducible] noncomputable def fnT (v : Int) (vt : Nat) (P : Params) : Sem Flow := (assign (for2 P).1 (envL P) (.int v vt)).bind fun _ => execs (body2 P) (envL P)
@[irreducible] noncomputable def ftT (vt : Nat) (P : Params) : Sem Flow := (assign (for1 P).1 (envL P) (.int 21 vt)).bind fun _ => execs (body1 P) (envL P)
section
variable (w : World) (b1 b2 : Bool) (cd : Code) (bl : List (Code × Pos)) (q1 q2 : Pos) (pa : Option Value) (p : Pos) (N t : Nat) (ω : Nat → Nat)
structure HR where
  e : Nat
  hd : List HE
  j : Nat
  N : Nat
  t : Nat
noncomputable abbrev Lw (L : Loc) (x0 : Nat) : Loc := { L with word := lo x0 }
noncomputable def hrR (L : Loc) (pl : List PE) (f : Nat → Nat → (Nat → Nat) → HR) (N t : Nat) (ω : Nat → Nat) : RS := ⟨fun P => TT P { L with e0 := (f N t ω).e } (f N t ω).hd pl, heK ((f N t ω).hd.drop (f N t ω).j), (f N t ω).N, (f N t ω).t⟩
noncomputable abbrev HrQ (L : Loc) (hd : List HE) (pl : List PE) (hs idx : List Nat) (f : Nat → Nat → (Nat → Nat) → HR) (cs : List Prop) : Prop := SegQ (fun _ => cd) (fun _ => bl) w b1 b2 pa p N t ω (heK hd) (fun P => TT P L hd pl) [0, 2, 3, 4] [0, 2, 3, 4] (sgT 4) hs idx (hrR L pl f) cs
structure TR where
  e : Nat
  i : Nat
  q : PE
  N : Nat
  t : Nat
noncomputable def tkR (L : Loc) (hd : List HE) (pl : List PE) (f : Nat → Nat → (Nat → Nat) → TR) (N t : Nat) (ω : Nat → Nat) : RS := ⟨fun P => TT P { L with e1 := (f N t ω).e } hd (pl.set (f N t ω).i (f N t ω).q), peK [(f N t ω).q], (f N t ω).N, (f N t ω).t⟩
noncomputable abbrev TkQ (L : Loc) (hd : List HE) (pl : List PE) (hs idx : List Nat) (f : Nat → Nat → (Nat → Nat) → TR) (cs : List Prop) : Prop := SegQ (fun _ => cd) (fun _ => bl) w b1 b2 pa p N t ω (peK pl) (fun P => TT P L hd pl) [0, 5] [0, 5] (sgT 5) hs idx (tkR L hd pl f) cs
structure LR where
  v : Int
  u : Nat
  N : Nat
  t : Nat
noncomputable def lsR (L : Loc) (hd : List HE) (pl : List PE) (f : Nat → Nat → (Nat → Nat) → LR) (N t : Nat) (ω : Nat → Nat) : RS := ⟨fun P => TT P { L with least := (f N t ω).v, lt := (f N t ω).u } hd pl, [], (f N t ω).N, (f N t ω).t⟩
noncomputable abbrev LsQ (L : Loc) (hd : List HE) (pl : List PE) (hs idx : List Nat) (f : Nat → Nat → (Nat → Nat) → LR) (cs : List Prop) : Prop := SegQ (fun _ => cd) (fun _ => bl) w b1 b2 pa p N t ω (peK pl) (fun P => TT P L hd pl) [0, 1, 5] [0, 1, 5] (sgT 7) hs idx (lsR L hd pl f) cs
structure NR where
  N : Nat
  t : Nat
noncomputable def apE (X : Array Value) (v : Value) (e : Nat) : Nat := if (X.push v).size == X.size then e else e + 1
noncomputable abbrev Lp (L : Loc) : Loc := { L with X := L.X.push (.int L.thg (L.τ 11)), e2 := apE L.X (.int L.thg (L.τ 11)) L.e2 }
noncomputable def apR (L : Loc) (hd : List HE) (pl : List PE) (f : Nat → Nat → (Nat → Nat) → NR) (N t : Nat) (ω : Nat → Nat) : RS := ⟨fun P => TT P (Lp L) hd pl, [], (f N t ω).N, (f N t ω).t⟩
noncomputable abbrev ApQ (L : Loc) (hd : List HE) (pl : List PE) (hs idx : List Nat) (f : Nat → Nat → (Nat → Nat) → NR) (cs : List Prop) : Prop := SegQ (fun _ => cd) (fun _ => bl) w b1 b2 pa p N t ω [] (fun P => TT P L hd pl) [0, 6] [0, 6] (sgT 6) hs idx (apR L hd pl f) cs
structure FR where
  τ : Nat → Nat
  N : Nat
  t : Nat
noncomputable abbrev Lf (L : Loc) (v : Int) (nu TH : Nat) (τ : Nat → Nat) : Loc := { L with told := v, num := Int.ofNat nu, thg := Int.ofNat TH, word := lo TH, τ := τ }
noncomputable def fiR (L : Loc) (hd : List HE) (pl : List PE) (v : Int) (nu TH : Nat) (f : Nat → Nat → (Nat → Nat) → FR) (N t : Nat) (ω : Nat → Nat) : RS := ⟨fun P => TT P (Lf L v nu TH (f N t ω).τ) hd pl, [], (f N t ω).N, (f N t ω).t⟩
noncomputable abbrev FiQ (L : Loc) (hd : List HE) (pl : List PE) (v : Int) (vt nu TH : Nat) (hs idx : List Nat) (f : Nat → Nat → (Nat → Nat) → FR) (cs : List Prop) : Prop := SegQ (fun _ => cd) (fun _ => bl) w b1 b2 pa p N t ω [] (fun P => TT P L hd pl) [0] [0] (fiT v vt) hs idx (fiR L hd pl v nu TH f) cs
structure DR where
  a : Nat
  e : Nat
  dl : List PE
  N : Nat
  t : Nat
noncomputable def pick (π as : List Nat) : List Nat := π.map fun i => as.getD i 0
noncomputable def duR (L : Loc) (hd : List HE) (pl : List PE) (π : List Nat) (f : Nat → Nat → (Nat → Nat) → DR) (N t : Nat) (ω : Nat → Nat) : RS := ⟨fun P => TT P { L with due := (f N t ω).a } hd pl ++ [((f N t ω).a, R.listR (pick π ((f N t ω).dl.map fun q => q.a)) (f N t ω).e)], peK (f N t ω).dl, (f N t ω).N, (f N t ω).t⟩
noncomputable abbrev DuQ (L : Loc) (hd : List HE) (pl : List PE) (π hs idx : List Nat) (f : Nat → Nat → (Nat → Nat) → DR) (cs : List Prop) : Prop := SegQ (fun _ => cd) (fun _ => bl) w b1 b2 pa p N t ω (peK pl) (fun P => TT P L hd pl) [0, 1, 5] [0, 1, 5, 10] (sgT 8) hs idx (duR L hd pl π f) cs
noncomputable def ckR (L : Loc) (hd : List HE) (pl : List PE) (f : Nat → Nat → (Nat → Nat) → NR) (N t : Nat) (ω : Nat → Nat) : RS := ⟨fun P => TT P L hd pl, [], (f N t ω).N, (f N t ω).t⟩
noncomputable abbrev CkQ (L : Loc) (hd : List HE) (pl dl : List PE) (e5 : Nat) (hs idx : List Nat) (f : Nat → Nat → (Nat → Nat) → NR) (cs : List Prop) : Prop := SegQ cd1 (fun P => bl1 P q1 q2) w b1 b2 pa p N t ω (heK hd ++ peK dl) (fun P => TT P L hd pl ++ [(L.due, R.listR (dl.map fun q => q.a) e5)]) [0, 2, 3, 4, 10] [0, 2, 3, 4] (sgT 9) hs idx (ckR L hd pl f) cs
structure KR where
  τ : Nat → Nat
  kept : Int
  N : Nat
  t : Nat
noncomputable def fnR (L : Loc) (hd : List HE) (Xc : Cells) (x0 : Nat) (f : Nat → Nat → (Nat → Nat) → KR) (N t : Nat) (ω : Nat → Nat) : RS := ⟨fun P => TF P true { L with thg := Int.ofNat x0, τ := (f N t ω).τ } (f N t ω).kept hd ++ Xc, [], (f N t ω).N, (f N t ω).t⟩
noncomputable abbrev FnQ (b : Bool) (L : Loc) (kept : Int) (hd : List HE) (Xc : Cells) (x0 vt : Nat) (hs idx : List Nat) (f : Nat → Nat → (Nat → Nat) → KR) (cs : List Prop) : Prop := SegQ (fun _ => cd) (fun _ => bl) w b1 b2 pa p N t ω (heK hd) (fun P => TF P b L kept hd ++ Xc) [0, 1, 2, 3, 4, 5] [0, 1, 2, 3, 4, 5] (fnT (Int.ofNat x0) vt) hs idx (fnR L hd Xc x0 f) cs
structure GR where
  L : Loc
  h : HE
  q : PE
  r : Nat
  N : Nat
  t : Nat
noncomputable def ftR (u0 u1 : Nat) (f : Nat → Nat → (Nat → Nat) → GR) (N t : Nat) (ω : Nat → Nat) : RS := ⟨fun P => TT P (f N t ω).L [(f N t ω).h] ((f N t ω).q :: List.replicate (f N t ω).r ⟨292, 0, u0, 0, u1⟩), heK [(f N t ω).h] ++ peK [(f N t ω).q], (f N t ω).N, (f N t ω).t⟩
noncomputable abbrev FtQ (τ0 : Nat → Nat) (r : Int) (dt m e0 e1 e2 : Nat) (o1 o2 o3 : Obj) (u0 u1 vt : Nat) (hs idx : List Nat) (f : Nat → Nat → (Nat → Nat) → GR) (cs : List Prop) : Prop := SegQ cd1 (fun P => bl1 P q1 q2) w b1 b2 pa p N t ω [(292, R.tupO 0 u0 0 u1)] (fun P => T1 P τ0 r dt m e0 e1 e2 o1 o2 o3) [0, 1, 2, 3, 4, 5, 6] [0, 1, 2, 3, 4, 5, 6] (ftT vt) hs idx (ftR u0 u1 f) cs
end
end Mine.B
end
section
namespace Mine.B
open PySem PySem.W PySem.W.X
noncomputable def z0 : List Nat := [5,0,7,1,5,0,1]
noncomputable def z1 : List Nat := [3,3,1,3,3,3,7]
noncomputable def z2 : List Nat := [1,1,1,0,1,0,1,1]
noncomputable def z3 : List Nat := [0,1,1,0,1,0,1,1]
noncomputable def z4 : List Nat := [0,1,1,1,1,1,5,5]
noncomputable def z5 : List Nat := [0,1,0,1,0,1,0,1,1]
noncomputable def z6 : List Nat := [0,0,0,0,1,1,0,0,1]
noncomputable def z7 : List Nat := [0,1,0,3,0,3,0,3,0,3,3]
noncomputable def z8 : List Nat := [4,0,8,1,0,3,0,3,0,3,3]
noncomputable def z9 : List Nat := [2,2,0,0,0,1,2,0,2,0,2,2]
noncomputable def z10 : List Nat := [2,2,0,3,0,0,1,2,0,2,0,2,2]
noncomputable def z11 : List Nat := [2,2,1,1,1,0,1,2,0,2,0,2,2]
noncomputable def z12 : List Nat := [0,0,0,0,1,1,1,1,1,1,0,0,1]
noncomputable def z13 : List Nat := [6,6,6,6,11,11,11,11,6,0,11,11,11]
noncomputable def z14 : List Nat := [9,9,9,9,14,14,14,14,9,0,14,11,14]
noncomputable def z15 : List Nat := [0,0,0,0,0,0,0,2,2,1,1,0,0,2]
noncomputable def z16 : List Nat := [0,0,0,0,0,0,0,1,1,1,1,0,0,1]
noncomputable def z17 : List Nat := [3,3,1,1,1,100002,100002,100002,0,100002,0,100002,0,2]
noncomputable def z18 : List Nat := [3,3,1,1,1,100003,100003,100003,0,100003,0,100003,0,2]
noncomputable def z19 : List Nat := [3,3,1,1,1,100001,100001,100001,0,100001,0,100001,0,2]
noncomputable def z20 : List Nat := [3,3,1,1,1,13,13,13,0,13,0,13,0,2]
noncomputable def z21 : List Nat := [3,3,1,1,1,12,12,12,0,12,0,12,0,2]
noncomputable def z22 : List Nat := [0,0,0,93,0,0,0,93,0,0,0,0,93,92]
noncomputable def z23 : List Nat := [20,0,0,0,20,0,0,0,20,0,0,0,0,20]
noncomputable def z24 : List Nat := [0,0,0,6,0,6,6,6,0,7,0,7,0,7,7]
noncomputable def z25 : List Nat := [0,6,0,0,1,0,1,0,1,1,1,1,0,0,0]
noncomputable def z26 : List Nat := [0,5,1,15,15,19,0,0,0,17,0,17,17,17,0]
noncomputable def z27 : List Nat := [2,2,0,0,1,1,1,0,1,2,0,2,0,2,2]
noncomputable def z28 : List Nat := [2,2,0,3,1,1,1,1,0,1,2,0,2,0,2,2]
noncomputable def z29 : List Nat := [0,0,0,0,0,0,0,1,1,1,1,1,1,0,0,1,1]
noncomputable def z30 : List Nat := [4,0,8,0,1,0,2,0,2,2,2,0,3,0,3,0,3,3]
noncomputable def z31 : List Nat := (fl [z10, [18,2,2,1,3,3,3,23,23]])
noncomputable def z32 : List Nat := [1,1,0,1,4,0,0,0,4,0,0,0,4,0,0,0,0,4,3,0,1,0,1]
noncomputable def z33 : List Nat := (fl [z28, [18,2,2,1,3,3,3,23,23]])
noncomputable def z34 : List Nat := [0,0,0,0,1,1,0,1,0,1,1,1,0,1,0,1,1,1,1,0,1,0,1,0,1,1,1,1,1,1,1]
noncomputable def z35 : List Nat := [0,0,0,0,0,1,1,1,1,1,1,0,0,1,5,0,0,0,5,0,0,0,5,0,0,0,0,5,4,1,0,2]
noncomputable def z36 : List Nat := (fl [[100001,100001,100001,0,100001], z3, [100001], z2, [100001], z2, [100001,1,1,1]])
noncomputable def z37 : List Nat := (fl [[100002,100002,100002,0,100002], z3, [100002], z2, [100002], z2, [100002,1,1,1,8,8,8,8]])
noncomputable def z38 : List Nat := (fl [[9,9,9,100003,100003,100003,0,100003], z3, [100003], z2, [100003], z2, [100003,1,1,1,10,10]])
noncomputable def z39 : List Nat := (fl [[100003,100003,100003,0,100003], z3, [100003], z2, [100003], z2, [100003,1,1,1,11,11,11,11,11]])
noncomputable def z40 : List Nat := (fl [[9,9,1,9,9,9,9,9,9,0,0,10,10,0,10,0,1,0,1,2,0,2,0,2,2,12], z11, [12]])
noncomputable def z41 : List Nat := (fl [[6,6,6,100002,100002,100002,0,100002], z3, [100002], z2, [100002], z2, [100002,1,1,1,7,7,7,7,7]])
noncomputable def z42 : List Nat := (fl [[51,51,51,0,7,1,51,51,54,0,54], z15, [56,0,0,0,56,0,0,0,56,0,0,0,0,56,55,1,0,2]])
noncomputable def z43 : List Nat := [1,1,1,4,4,4,4,0,4,0,1,88,0,4,0,1,1,0,6,0,6,6,6,0,7,0,7,0,7,7,8,7,7,1,7,7,7,7,7,7,0,14,8,3]
noncomputable def z44 : List Nat := (fl [z28, [22,2,2,1,3,3,3,26,26,26,26,0,0,27,27,25,25,25,25,27,0,25,10,25,3,29,29,0,29,0,29,29,29]])
noncomputable def z45 : List Nat := (fl [[0,5,0,0,13,0,13,0,13,13,16,13,13,13,100004,100004,100004,0,100004], z3, [100004], z2, [100004], z2, [100004,1,1,1,14,14,14,14,14,18]])
noncomputable def z46 : List Nat := (fl [[3,3,3], z36, [4,4,4,4,4,0,5,0,5,5,5,0,6,0,6,0,6,6]])
noncomputable def z47 : List Nat := (fl [z41, [0,8,0,8,8,8,0,9,0,9,0,9,9]])
noncomputable def z48 : List Nat := (fl [z38, [10,10,10,0,11,0,11,11,11,0,12,0,12,0,12,12]])
noncomputable def z49 : List Nat := (fl [[6,6,6], z36, [7,7,7,7,7,0,8,0,8,8,8,0,9,0,9,0,9,9]])
noncomputable def z50 : List Nat := (fl [[9,9,9], z36, [10,10,10,10,10,0,11,0,11,11,11,0,12,0,12,0,12,12]])
noncomputable def z51 : List Nat := (fl [[5,0,7,0,0,4,0,4,0,4,4,10,4,4,4], z37, [8,0,2]])
noncomputable def z52 : List Nat := (fl [[0,6,0,6,6,6,0,7,0,7,0,7,7,8,7,7,7], z37, [0,8,0,1]])
noncomputable def z53 : List Nat := (fl [[0,1,1,1], z12, [4,0,0,0,4,0,0,0,4,0,0,0,0,4,3,1,0,0,0,0,0,1,1,1,1,1,1,0,0,1,5,0,0,0,5,0,0,0,5,0,0,0,0,5,4,1,0,2]])
noncomputable def z54 : List Nat := (fl [[0,5,1,11,11,15,0,0,0,13,0,13,13,13,0,14,0,14,0,14,14,17,14,14,14,100004,100004,100004,0,100004], z3, [100004], z2, [100004], z2, [100004,1,1,1,15,15,15,15,15,19]])
noncomputable def z55 : List Nat := (fl [[0,2,1,1,1,5,0,0,0,0,5,0,0,0,5,5,0,4,6,6,0,6], z5, [7,1,1,1], z36, [5,5,5,5,5,0,2]])
noncomputable def z56 : List Nat := (fl [[0,2,1,1,1,50,0,0,0,0,50,0,0,0,50,50,0,49,51,51,0,51], z5, [52,1,1,1], z36, [5,5,5,5,5,0,2]])
noncomputable def z57 : List Nat := (fl [[0,31,0,31,0,31,31,44,31,31,75,75,0,0,75,75,78,0,0,0,0,0,78], z16, [79,0,0,0,79,0,0,0,79,0,0,0,0,79,78,1,0,0,0,0,0,1,1,1,1,1,1,0,0,1,80,0,0,0,80,0,0,0,80,0,0,0,0,80,79,1,0,2]])
noncomputable def z58 : List Nat := (fl [[0,0,1,3,0,0,0,3,0,0,0,3,0,0,0,0,3,2], z6, [4,0,0,0,0,4,0,0,0,4,4,0,3,6,6,6,0,6,0,1,1,1,1,1,6,0,1,1,0,1,0,1,0,3,0,3,0,3,0,3,3,4,3,3,3], z36, [4,4,4,4,0,4,0,1]])
noncomputable def z59 : List Nat := (fl [[0,0,1,3,3,0,3], z7, [6,3,3,3], z36, [4,4,4,4,4,8,0,5,1,4,4,8], z24, [10,7,7,7], z37, [8,12]])
noncomputable def z60 : List Nat := (fl [[0,0,1,3,3,0,3], z7, [6,3,3,3], z36, [4,4,4,4,4,8,0,5,0,0,6,0,6,0,6,6,9], z41, [11,0,5,1,7,7,11,0,0,0,9,0,9,9,9,0]])
noncomputable def z61 : List Nat := (fl [z30, [60], z1, [61,0,0,0,0,61,0,0,0,61,61,0,60,63,63,0,63], z4, [63,63,63,63,0,15,0,15,0,15,15,28,15,15,59,59,0,0,59,59,62,0,0,0,0,0,62], z16, [63,0,0,0,63,0,0,0,63,0,0,0,0,63,62,1,0,0,0,0,0,1,1,1,1,1,1,0,0,1,64,0,0,0,64,0,0,0,64,0,0,0,0,64,63,1,0,2]])
noncomputable def z62 : List Nat := (fl [[5,0,7,0,0,4,0,4,0,4,4,10,4,4,1,0,7,8,8,8,0,0,8,11,0,0,0,11,0,0,0,11,0,0,0,0,11,10], z6, [12,0,0,0,0,12,0,0,0,12,12,0,11,13,13,0,13], z7, [16], z46, [19,6,6,1,6,6,6,6,6,6,0,0,7,0,7,0,7,17,0,3]])
noncomputable def z63 : List Nat := (fl [z60, [10,0,10,0,10,10,13,10,10,10], z39, [15]])
noncomputable def z64 : List Nat := (fl [z59, [0,5,0,0,10,0,10,0,10,10,13,10,10,10], z39, [15]])
noncomputable def z65 : List Nat := (fl [z59, [0,5,1,8,8,12,0,0,0,10,0,10,10,10,0,11,0,11,0,11,11,14,11,11,11,100003,100003,100003,0,100003], z3, [100003], z2, [100003], z2, [100003,1,1,1,12,12,12,12,12,16]])
noncomputable def z66 : List Nat := (fl [[8,0,7,0,0,7,0,7,0,7,7,13,7,7,1,0,10,11,11,11,0,0,11,14,0,0,0,14,0,0,0,14,0,0,0,0,14,13], z6, [15,0,0,0,0,15,0,0,0,15,15,0,14,16,16,0,16], z7, [19], z46, [22], z47, [25,9,9,1,9,9,9,9,9,9,0,0,10,0,10,0,10,23,0,3]])
noncomputable def z67 : List Nat := (fl [[0,1,1,0,0,0,0,1,1,1,1,0,0,1,3,3,0,3], z7, [6], z46, [9], z47, [12,9,9,1,12,12,9,9,9,9,9,9,0,0,0,0,12,0,0,14,0,14,0,14], z34, [14,14,14,14,16,16,16,0,16,0,16,100001,100001,100001,0,100001,0,100001,0,14]])
noncomputable def z68 : List Nat := (fl [[0,0,1,3,3,0,3], z7, [6], z46, [9], z47, [12], z48, [15,12,12,1,12,12,12,12,12,12,0,0,13,13,0,13,0,1,0,1,2,0,2,0,2,2,15], z11, [15]])
noncomputable def z69 : List Nat := (fl [z46, [9], z47, [12], z48, [15,12,12,12,100004,100004,100004,0,100004], z3, [100004], z2, [100004], z2, [100004,1,1,1,13,13,13,13,13,0,14,0,14,14,14,0,15,0,15,0,15,15,18,15,15,1]])
noncomputable def z70 : List Nat := (fl [[0,1,1,0,0,0,0,1,1,1,1,0,0,1,3,3,0,3], z7, [6], z46, [9], z47, [12], z48, [15,12,12,1,15,15,12,12,12,12,12,12,0,0,0,0,15,0,0,17,0,17,0,17], z34, [17,17,17,17,19,19,19,0,19,0,19,100001,100001,100001,0,100001,0,100001,0]])
noncomputable def z71 : List Nat := (fl [[0,0,1,3,3,0,3], z7, [6], z69, [15,15,15,15,15,15,0,0,16,16,0,16,0,1,0,1,2,0,2,0,2,2,18], z11, [18], z10, [18]])
noncomputable def z72 : List Nat := (fl [[0,0,1,3,3,0,3], z7, [6], z69, [15,15,15,15,15,15,0,0,16,16,0,16,0,1,0,1,2,0,2,0,2,2,18], z11, [18], z28, [18]])
noncomputable def z73 : List Nat := (fl [[0,1,1,0,0,0,0,1,1,1,1,0,0,1,3,3,0,3], z7, [6], z69, [18,18,15,15,15,15,15,15,0,0,0,0,18,0,0,20,0,20,0,20], z34, [20,20,20,20,22,22,22,0,22,0,22,100001,100001,100001,0,100001,0,100001,0]])
noncomputable def z74 : List Nat := (fl [z70, [17,0,6,0,0,1,0,1,0,1,1,1,1,1,1,1,17,17,17,17,19,19,19,0,19,0,19,100002,100002,100002,0,100002,0,100002,0,17,0,6,0,0,1,0,1,0,1,1,1,1,1,1,1,17,17,17,17,19,19,19,0,19,0,19,100003,100003,100003,0,100003,0,100003,0,17], z25, [19,0,0,17,17,0,17,0,1,0,1,2,0,2,0,2,2,19], z11, [19]])
noncomputable def z75 : List Nat := (fl [z66, [0,23,26,0,0,0,26,0,0,0,26,0,0,0,0,26,25], z6, [27,0,0,0,0,27,0,0,0,27,27,0,26,28,28,0,28], z7, [31], z46, [34], z47, [37,9,9,1,9,9,9,9,9,9,10,10,0,10], z5, [11,1,1,36,36,0,0,36,36,39,0,0,0,0,0,39], z16, [40,0,0,0,40,0,0,0,40,0,0,0,0,40,39,1,0,0,0,0,0,1,1,1,1,1,1,0,0,1,41,0,0,0,41,0,0,0,41,0,0,0,0,41,40,1,0,2]])
noncomputable def z76 : List Nat := (fl [z73, [20,0,6,0,0,1,0,1,0,1,1,1,1,1,1,1,20,20,20,20,22,22,22,0,22,0,22,100002,100002,100002,0,100002,0,100002,0,20,0,6,0,0,1,0,1,0,1,1,1,1,1,1,1,20,20,20,20,22,22,22,0,22,0,22,100003,100003,100003,0,100003,0,100003,0,20,0,6,0,0,1,0,1,0,1,1,1,1,1,1,1,20,20,20,20,22,22,22,0,22,0,22,100004,100004,100004,0,100004,0,100004,0,20], z25, [22,0,0,20,20,0,20,0,1,0,1,2,0,2,0,2,2,22], z11, [22]])
noncomputable def z77 : List Nat := (fl [[1,1,1,0,0,1,1,2,0,0,1,1,1,0,1,0,1,0,2,2,0,0,2,0,1,21,0,1,88,2,2,2,0,2,0,1,88,0,1,88,0,2,88,0,8,1,0,2,2,2], z12, [6,0,0,0,6,0,0,0,6,0,0,0,0,6,5,1,0,0,0,0,0,1,1,1,1,1,1,0,0,1,7,0,0,0,7,0,0,0,7,0,0,0,0,7,6,1,0,2,88,0,2,1,1,1,7,0,0,0,0,7,0,0,0,7,7,0,6,8,8,0,8], z5, [9,1,1,1,0,4,5,5,5,0,0,5,10,0,0,0,10,0,0,0,10,0,0,0,0,10,9], z6, [11,0,0,0,0,11,0,0,0,11,11,0,10,12,12,0,12], z7, [15,3,3,1,3,3,0,0,4,0,4,0,4,11,0,0,11,16,0,0,0,16,0,0,0,16,0,0,0,0,16,15,0,0,11,0,1,88,0,1,88,0,1,88], z12, [17,0,0,0,17,0,0,0,17,0,0,0,0,17,16,1,0,0,0,0,0,1,1,1,1,1,1,0,0,1,18,0,0,0,18,0,0,0,18,0,0,0,0,18,17,1,0,2,88,0,2,1,1,1,18,0,0,0,0,18,0,0,0,18,18,0,17,19,19,0,19], z5, [20,1,1,1,0,4,5,5,5,5,21,0,0,0,0,21,0,0,0,21,21,0,20,22,22,22,22,5,21,0,0,0,21,0,0,0,21,0,0,0,0,21,20,5,0,2,5,21,0,0,0,21,0,0,0,21,0,0,0,0,21,20,5,0,2,0,23,0,23,23,23,6,0,19,19,0,0,0,0,1,1,1,1,0,0,1,25,25,0,25], z7, [28], z46, [31], z49, [34]])
noncomputable def z78 : List Nat := (fl [[11,0,7,0,0,10,0,10,0,10,10,16,10,10,1,0,13,14,14,14,0,0,14,17,0,0,0,17,0,0,0,17,0,0,0,0,17,16], z6, [18,0,0,0,0,18,0,0,0,18,18,0,17,19,19,0,19], z7, [22], z46, [25], z47, [28], z48, [31,12,12,1,12,12,12,12,12,12,0,0,13,0,13,0,13,29,0,3,0,29,32,0,0,0,32,0,0,0,32,0,0,0,0,32,31], z6, [33,0,0,0,0,33,0,0,0,33,33,0,32,34,34,0,34], z7, [37], z46, [40], z47, [43], z48, [46,12,12,1,12,12,12,12,12,12,13,13,0,13], z5, [14,1,1,45,45,0,0,45,45,48,0,0,0,0,0,48], z16, [49,0,0,0,49,0,0,0,49,0,0,0,0,49,48,1,0,0,0,0,0,1,1,1,1,1,1,0,0,1,50,0,0,0,50,0,0,0,50,0,0,0,0,50,49,1,0,2]])
theorem hrG1a (L : Loc) (pl : List PE) (x0 : Nat) (h0 : HE) (w : World) (b1 b2 : Bool) (cd : Code) (bl : List (Code × Pos)) (pa : Option Value) (p : Pos) (N t : Nat) (ω : Nat → Nat) : HrQ w b1 b2 cd bl pa p N t ω (Lw L x0) [h0] pl (fl [z53, [(x0)], z55, [(h0.x),5,0,7,1,5,6,6,6,0,0,6,0,1,(h0.y),0,0,0,1,(h0.y + 1),0,1,(h0.y + 1),6,6,9,0,9], z29, [10,0,10], z15, [12,0,0,0,12,0,0,0,12,0,0,0,0,12,11,1,0,2,(x0),0,2,1,1,2,12,0,0,0,0,12,0,0,0,12,12,0,11,13,13,0,13], z7, [16], z19, [(h0.x)], z8, [16], z1, [17,0,0,0,0,17,0,0,0,17,17,0,16,19,19,0,19], z4, [19,19,19,19,9,18,0,0,0,0,18,0,0,0,18,18,0,17,19,19,19,19,9,18,0,0,0,18,0,0,0,18,0,0,0,0,18,17,9,0,2,9,18,0,0,0,18,0,0,0,18,0,0,0,0,18,17,9,0,2,0,20,0,20,20,20]]) [16, 17, 18, 19, 0] (fun N t ω => ⟨L.e0 + 2, [⟨ω 96 + (ω 80 + (ω 64 + (N + 301 + 7))) + 12, (lo (x0)), (L.τ 13), (apS (h0.y + 1)), (ω 98), x0, h0.y + 1⟩], 0, (ω 96 + (ω 80 + (ω 64 + (N + 301 + 7))) + 13), (ω 97 + (ω 81 + (ω 65 + (t + 2595 + 17) + 2) + 1) + 23)⟩) [(CvOk (apS (h0.y + 1)) false), (CvOk (lo (x0)) true), ((lo (h0.x)) = (lo (x0))), (LwOk (h0.s) (h0.x)), (CvOk (lo (x0)) true), (LwOk (lo (x0)) (x0)), (DcOk (apB (h0.y + 1)) (h0.y + 1)), (ApOk (Int.ofNat (h0.y) + 1) (h0.y + 1)), (NuOk (h0.c) (h0.y)), ((lo (h0.x)) = (lo (x0))), (LwOk (h0.s) (h0.x)), (CvOk (lo (x0)) true), (LwOk (lo (x0)) (x0))] ∧
  HrQ w b1 b2 cd bl pa p N t ω (Lw L x0) [h0] pl (fl [z53, [(x0)], z55, [(h0.x)], z62, [1,17], z23, [19,0,0,17,0,1,(x0),0,1,(x0),0,1,(x0)], z12, [21,0,0,0,21,0,0,0,21,0,0,0,0,21,20,1,0,0,0,0,0,1,1,1,1,1,1,0,0,1,22,0,0,0,22,0,0,0,22,0,0,0,0,22,21,1,0,2,(x0),0,2,1,1,1,22,0,0,0,0,22,0,0,0,22,22,0,21,23,23,0,23], z5, [24,1,1,1], z36, [5,5,5,5,5,0,2,(h0.x),5,0,7,0,0,4,0,4,0,4,4,27,4,4,1,0,7,8,8,8,8,28,0,0,0,0,28,0,0,0,28,28,0,27,29,29,29,29,8,28,0,0,0,28,0,0,0,28,0,0,0,0,28,27,8,0,2,8,28,0,0,0,28,0,0,0,28,0,0,0,0,28,27,8,0,2,0,30,0,30,30,30,9]]) [26, 27, 28, 29, 0] (fun N t ω => ⟨L.e0 + 1, [h0, ⟨ω 112 + (ω 96 + (ω 80 + (N + 301 + 18))) + 11, (apS (x0)), (ω 114), (⟨#[66]⟩ : Str), (ω 113 + (ω 97 + (ω 81 + (t + 2595 + 23)) + 1)), x0, 1⟩], 1, (ω 112 + (ω 96 + (ω 80 + (N + 301 + 18))) + 12), (ω 113 + (ω 97 + (ω 81 + (t + 2595 + 23)) + 1) + 27)⟩) [(CvOk (⟨#[66]⟩ : Str) false), (CvOk (apS (x0)) true), ((lo (h0.x)) ≠ (lo (x0))), (LwOk (h0.s) (h0.x)), (CvOk (lo (x0)) true), (LwOk (apS (x0)) (x0)), (DcOk (apB (x0)) (x0)), (ApOk (Int.ofNat (x0)) (x0)), (NuOk (lo (x0)) (x0)), ((1) < (L.room)), ((lo (h0.x)) ≠ (lo (x0))), (LwOk (h0.s) (h0.x)), (CvOk (lo (x0)) true), (LwOk (lo (x0)) (x0))] := by
  cases b1 <;> exact ⟨by kernel_rfl, by kernel_rfl⟩
theorem hrG1b (L : Loc) (pl : List PE) (x0 : Nat) (h0 : HE) (w : World) (b1 b2 : Bool) (cd : Code) (bl : List (Code × Pos)) (pa : Option Value) (p : Pos) (N t : Nat) (ω : Nat → Nat) : HrQ w b1 b2 cd bl pa p N t ω (Lw L x0) [h0] pl (fl [z53, [(x0)], z55, [(h0.x)], z62, [0,17], z23, [19], z6, [21,0,0,0,0,21,0,0,0,21,21,0,20,22,22,0,22], z7, [25], z46, [28,6,6,1,6,6,6,6,6,6,7,7,0,7], z5, [8,1,1,27,27,0,0,27,27,30,0,0,0,0,0,30], z16, [31,0,0,0,31,0,0,0,31,0,0,0,0,31,30,1,0,0,0,0,0,1,1,1,1,1,1,0,0,1,32,0,0,0,32,0,0,0,32,0,0,0,0,32,31,1,0,2,(h0.x),0,2,1,1,1,32,0,0,0,0,32,0,0,0,32,32,0,31,33,33,0,33], z5, [34,1,1,1], z36, [5,5,5,5,5,0,2,(h0.x)], z0, [(h0.y),0,0,0,1,(h0.y - 1),0,1,(h0.y - 1),33,33,33,0,7,0,33,33,33,36,0,36], z29, [37,0,37], z15, [39,0,0,0,39,0,0,0,39,0,0,0,0,39,38,1,0,2,(h0.x),0,2,1,1,2,39,0,0,0,0,39,0,0,0,39,39,0,38,40,40,0,40], z7, [43], z19, [(h0.x)], z8, [43], z1, [44,0,0,0,0,44,0,0,0,44,44,0,43,46,46,0,46], z4, [46,46,46,46,9,45,0,0,0,0,45,0,0,0,45,45,0,44,46,46,46,46,9,45,0,0,0,45,0,0,0,45,0,0,0,0,45,44,9,0,2,9,45,0,0,0,45,0,0,0,45,0,0,0,0,45,44,9,0,2,0,47,0,47,47,47,0,17,0,17,0,17,17,24,17,17,1,0]]) [45, 46, 47, 48, 2] (fun N t ω => ⟨L.e0 + 2, [⟨ω 176 + (ω 160 + (ω 144 + (N + 301 + 35))) + 12, (h0.s), (h0.t), (apS (h0.y - 1)), (ω 178), h0.x, h0.y - 1⟩], 0, (ω 176 + (ω 160 + (ω 144 + (N + 301 + 35))) + 15), (ω 177 + (ω 161 + (ω 145 + (t + 2595 + 43) + 2) + 1) + 25)⟩) [(CvOk (apS (h0.y - 1)) false), (CvOk (h0.s) true), ((lo (h0.x)) = (lo (h0.x))), (LwOk (h0.s) (h0.x)), (CvOk (lo (h0.x)) true), (LwOk (h0.s) (h0.x)), ((apS (h0.y - 1)) ≠ (⟨#[]⟩ : Str)), (DcOk (apB (h0.y - 1)) (h0.y - 1)), (ApOk (Int.ofNat (h0.y) - 1) (h0.y - 1)), (NuOk (h0.c) (h0.y)), ((lo (h0.x)) = (lo (h0.x))), (LwOk (h0.s) (h0.x)), (CvOk (lo (h0.x)) true), (LwOk (h0.s) (h0.x)), (¬ ((1) < (L.room))), ((lo (h0.x)) ≠ (lo (x0))), (LwOk (h0.s) (h0.x)), (CvOk (lo (x0)) true), (LwOk (lo (x0)) (x0))] := by
  cases b1 <;> exact by kernel_rfl
theorem hrG1c (L : Loc) (pl : List PE) (x0 : Nat) (h0 : HE) (w : World) (b1 b2 : Bool) (cd : Code) (bl : List (Code × Pos)) (pa : Option Value) (p : Pos) (N t : Nat) (ω : Nat → Nat) : HrQ w b1 b2 cd bl pa p N t ω (Lw L x0) [h0] pl (fl [z53, [(x0)], z55, [(h0.x)], z62, [0,17], z23, [19], z6, [21,0,0,0,0,21,0,0,0,21,21,0,20,22,22,0,22], z7, [25], z46, [28,6,6,1,6,6,6,6,6,6,7,7,0,7], z5, [8,1,1,27,27,0,0,27,27,30,0,0,0,0,0,30], z16, [31,0,0,0,31,0,0,0,31,0,0,0,0,31,30,1,0,0,0,0,0,1,1,1,1,1,1,0,0,1,32,0,0,0,32,0,0,0,32,0,0,0,0,32,31,1,0,2,(h0.x),0,2,1,1,1,32,0,0,0,0,32,0,0,0,32,32,0,31,33,33,0,33], z5, [34,1,1,1], z36, [5,5,5,5,5,0,2,(h0.x)], z0, [(h0.y),0,0,0,1,(h0.y - 1),0,1,(h0.y - 1),33,33,33,0,7,1,33,33,36,0,36], z15, [38,0,0,0,38,0,0,0,38,0,0,0,0,38,37,1,0,2,(h0.x),0,2,1,1,2,38,0,0,0,0,38,0,0,0,38,38,0,37,39,39,0,39], z7, [42], z19, [(h0.x)], z8, [42], z1, [43,0,0,0,0,43,0,0,0,43,43,0,42,45,45,0,45], z4, [45,45,45,45,0,15,0,15,0,15,15,22,15,15,1,0]]) [43, 44, 45, 46] (fun N t ω => ⟨L.e0 + 1, [], 0, (ω 176 + (ω 160 + (ω 144 + (N + 301 + 35))) + 11), (ω 177 + (ω 161 + (ω 145 + (t + 2595 + 43) + 2) + 1) + 13)⟩) [((lo (h0.x)) = (lo (h0.x))), (LwOk (h0.s) (h0.x)), (CvOk (lo (h0.x)) true), (LwOk (h0.s) (h0.x)), ((apS (h0.y - 1)) = (⟨#[]⟩ : Str)), (DcOk (apB (h0.y - 1)) (h0.y - 1)), (ApOk (Int.ofNat (h0.y) - 1) (h0.y - 1)), (NuOk (h0.c) (h0.y)), ((lo (h0.x)) = (lo (h0.x))), (LwOk (h0.s) (h0.x)), (CvOk (lo (h0.x)) true), (LwOk (h0.s) (h0.x)), (¬ ((1) < (L.room))), ((lo (h0.x)) ≠ (lo (x0))), (LwOk (h0.s) (h0.x)), (CvOk (lo (x0)) true), (LwOk (lo (x0)) (x0))] := by
  cases b1 <;> exact by kernel_rfl
theorem hrG2a (L : Loc) (pl : List PE) (x0 : Nat) (h0 h1 : HE) (w : World) (b1 b2 : Bool) (cd : Code) (bl : List (Code × Pos)) (pa : Option Value) (p : Pos) (N t : Nat) (ω : Nat → Nat) : HrQ w b1 b2 cd bl pa p N t ω (Lw L x0) [h0, h1] pl (fl [z53, [(x0)], z55, [(h0.x),5,0,7,1,5,6,6,6,0,0,6,0,1,(h0.y),0,0,0,1,(h0.y + 1),0,1,(h0.y + 1),6,6,9,0,9], z29, [10,0,10], z15, [12,0,0,0,12,0,0,0,12,0,0,0,0,12,11,1,0,2,(x0),0,2,1,1,2,12,0,0,0,0,12,0,0,0,12,12,0,11,13,13,0,13], z7, [16], z19, [(h0.x)], z8, [16], z17, [(h1.x)], z30, [16], z1, [17,0,0,0,0,17,0,0,0,17,17,0,16,19,19,0,19], z4, [19,19,19,19,9,18,0,0,0,0,18,0,0,0,18,18,0,17,19,19,19,19,9,18,0,0,0,18,0,0,0,18,0,0,0,0,18,17,9,0,2,9,18,0,0,0,18,0,0,0,18,0,0,0,0,18,17,9,0,2,0,20,0,20,20,20]]) [16, 17, 18, 19, 0] (fun N t ω => ⟨L.e0 + 2, [h1, ⟨ω 96 + (ω 80 + (ω 64 + (N + 301 + 7))) + 12, (lo (x0)), (L.τ 13), (apS (h0.y + 1)), (ω 98), x0, h0.y + 1⟩], 1, (ω 96 + (ω 80 + (ω 64 + (N + 301 + 7))) + 13), (ω 97 + (ω 81 + (ω 65 + (t + 2595 + 17) + 2) + 1) + 26)⟩) [(CvOk (apS (h0.y + 1)) false), (CvOk (lo (x0)) true), ((lo (h1.x)) ≠ (lo (x0))), (LwOk (h1.s) (h1.x)), ((lo (h0.x)) = (lo (x0))), (LwOk (h0.s) (h0.x)), (CvOk (lo (x0)) true), (LwOk (lo (x0)) (x0)), (DcOk (apB (h0.y + 1)) (h0.y + 1)), (ApOk (Int.ofNat (h0.y) + 1) (h0.y + 1)), (NuOk (h0.c) (h0.y)), ((lo (h0.x)) = (lo (x0))), (LwOk (h0.s) (h0.x)), (CvOk (lo (x0)) true), (LwOk (lo (x0)) (x0))] ∧
  HrQ w b1 b2 cd bl pa p N t ω (Lw L x0) [h0, h1] pl (fl [z53, [(x0)], z55, [(h0.x)], z51, [(h1.x),8,0,7,1,8,9,9,9,0,0,9,0,1,(h1.y),0,0,0,1,(h1.y + 1),0,1,(h1.y + 1),9,9,12,0,12], z29, [13,0,13], z15, [15,0,0,0,15,0,0,0,15,0,0,0,0,15,14,1,0,2,(x0),0,2,1,1,2,15,0,0,0,0,15,0,0,0,15,15,0,14,16,16,0,16], z7, [19], z19, [(h0.x)], z30, [19], z17, [(h1.x)], z8, [19], z1, [20,0,0,0,0,20,0,0,0,20,20,0,19,22,22,0,22], z4, [22,22,22,22,9,21,0,0,0,0,21,0,0,0,21,21,0,20,22,22,22,22,9,21,0,0,0,21,0,0,0,21,0,0,0,0,21,20,9,0,2,9,21,0,0,0,21,0,0,0,21,0,0,0,0,21,20,9,0,2,0,23,0,23,23,23]]) [19, 20, 21, 22, 0] (fun N t ω => ⟨L.e0 + 2, [h0, ⟨ω 128 + (ω 112 + (ω 96 + (N + 301 + 10))) + 12, (lo (x0)), (L.τ 13), (apS (h1.y + 1)), (ω 130), x0, h1.y + 1⟩], 1, (ω 128 + (ω 112 + (ω 96 + (N + 301 + 10))) + 13), (ω 129 + (ω 113 + (ω 97 + (t + 2595 + 20) + 2) + 1) + 26)⟩) [(CvOk (apS (h1.y + 1)) false), (CvOk (lo (x0)) true), ((lo (h1.x)) = (lo (x0))), (LwOk (h1.s) (h1.x)), ((lo (h0.x)) ≠ (lo (x0))), (LwOk (h0.s) (h0.x)), (CvOk (lo (x0)) true), (LwOk (lo (x0)) (x0)), (DcOk (apB (h1.y + 1)) (h1.y + 1)), (ApOk (Int.ofNat (h1.y) + 1) (h1.y + 1)), (NuOk (h1.c) (h1.y)), ((lo (h1.x)) = (lo (x0))), (LwOk (h1.s) (h1.x)), ((lo (h0.x)) ≠ (lo (x0))), (LwOk (h0.s) (h0.x)), (CvOk (lo (x0)) true), (LwOk (lo (x0)) (x0))] := by
  cases b1 <;> exact ⟨by kernel_rfl, by kernel_rfl⟩
theorem hrG2b (L : Loc) (pl : List PE) (x0 : Nat) (h0 h1 : HE) (w : World) (b1 b2 : Bool) (cd : Code) (bl : List (Code × Pos)) (pa : Option Value) (p : Pos) (N t : Nat) (ω : Nat → Nat) : HrQ w b1 b2 cd bl pa p N t ω (Lw L x0) [h0, h1] pl (fl [z53, [(x0)], z55, [(h0.x)], z51, [(h1.x)], z66, [1,23,26,0,0,0,26,0,0,0,26,0,0,0,0,26,25,0,0,23,0,1,(x0),0,1,(x0),0,1,(x0)], z12, [27,0,0,0,27,0,0,0,27,0,0,0,0,27,26,1,0,0,0,0,0,1,1,1,1,1,1,0,0,1,28,0,0,0,28,0,0,0,28,0,0,0,0,28,27,1,0,2,(x0),0,2,1,1,1,28,0,0,0,0,28,0,0,0,28,28,0,27,29,29,0,29], z5, [30,1,1,1], z36, [5,5,5,5,5,0,2,(h0.x),5,0,7,0,0,4,0,4,0,4,4,33,4,4,4], z37, [8,0,2,(h1.x),8,0,7,0,0,7,0,7,0,7,7,36,7,7,1,0,10,11,11,11,11,37,0,0,0,0,37,0,0,0,37,37,0,36,38,38,38,38,11,37,0,0,0,37,0,0,0,37,0,0,0,0,37,36,11,0,2,11,37,0,0,0,37,0,0,0,37,0,0,0,0,37,36,11,0,2,0,39,0,39,39,39,12]]) [35, 36, 37, 38, 0] (fun N t ω => ⟨L.e0 + 1, [h0, h1, ⟨ω 144 + (ω 128 + (ω 112 + (N + 301 + 24))) + 14, (apS (x0)), (ω 146), (⟨#[66]⟩ : Str), (ω 145 + (ω 129 + (ω 113 + (t + 2595 + 28)) + 1)), x0, 1⟩], 2, (ω 144 + (ω 128 + (ω 112 + (N + 301 + 24))) + 15), (ω 145 + (ω 129 + (ω 113 + (t + 2595 + 28)) + 1) + 30)⟩) [(CvOk (⟨#[66]⟩ : Str) false), (CvOk (apS (x0)) true), ((lo (h1.x)) ≠ (lo (x0))), (LwOk (h1.s) (h1.x)), ((lo (h0.x)) ≠ (lo (x0))), (LwOk (h0.s) (h0.x)), (CvOk (lo (x0)) true), (LwOk (apS (x0)) (x0)), (DcOk (apB (x0)) (x0)), (ApOk (Int.ofNat (x0)) (x0)), (NuOk (lo (x0)) (x0)), ((2) < (L.room)), ((lo (h1.x)) ≠ (lo (x0))), (LwOk (h1.s) (h1.x)), ((lo (h0.x)) ≠ (lo (x0))), (LwOk (h0.s) (h0.x)), (CvOk (lo (x0)) true), (LwOk (lo (x0)) (x0))] := by
  cases b1 <;> exact by kernel_rfl
theorem hrG2c (L : Loc) (pl : List PE) (x0 : Nat) (h0 h1 : HE) (w : World) (b1 b2 : Bool) (cd : Code) (bl : List (Code × Pos)) (pa : Option Value) (p : Pos) (N t : Nat) (ω : Nat → Nat) : HrQ w b1 b2 cd bl pa p N t ω (Lw L x0) [h0, h1] pl (fl [z53, [(x0)], z55, [(h0.x)], z51, [(h1.x)], z75, [(h0.x),0,2,1,1,1,41,0,0,0,0,41,0,0,0,41,41,0,40,42,42,0,42], z5, [43,1,1,1], z36, [5,5,5,5,5,0,2,(h0.x)], z0, [(h0.y),0,0,0,1,(h0.y - 1),0,1,(h0.y - 1),42,42,42,0,7,0,42,42,42,45,0,45], z29, [46,0,46], z15, [48,0,0,0,48,0,0,0,48,0,0,0,0,48,47,1,0,2,(h0.x),0,2,1,1,2,48,0,0,0,0,48,0,0,0,48,48,0,47,49,49,0,49], z7, [52], z19, [(h0.x)], z8, [52], z17, [(h1.x)], z30, [52], z1, [53,0,0,0,0,53,0,0,0,53,53,0,52,55,55,0,55], z4, [55,55,55,55,9,54,0,0,0,0,54,0,0,0,54,54,0,53,55,55,55,55,9,54,0,0,0,54,0,0,0,54,0,0,0,0,54,53,9,0,2,9,54,0,0,0,54,0,0,0,54,0,0,0,0,54,53,9,0,2,0,56,0,56,56,56,0,17,0,17,0,17,17,27,17,17,52,52,0,0,52,52,55,0,0,0,0,0,55], z16, [56,0,0,0,56,0,0,0,56,0,0,0,0,56,55,1,0,0,0,0,0,1,1,1,1,1,1,0,0,1,57,0,0,0,57,0,0,0,57,0,0,0,0,57,56,1,0,2,(h1.x),0,2,1,1,1,57,0,0,0,0,57,0,0,0,57,57,0,56,58,58,0,58], z5, [59,1,1,1,100002,100002,100002,0,100002], z3, [100002], z2, [100002], z2, [100002,1,1,1,5,5,5,5,5,0,2,(h1.x)], z0, [(h1.y),0,0,0,1,(h1.y - 1),0,1,(h1.y - 1),58,58,58,0,7,0,58,58,58,61,0,61], z29, [62,0,62], z15, [64,0,0,0,64,0,0,0,64,0,0,0,0,64,63,1,0,2,(h1.x),0,2,1,1,2,64,0,0,0,0,64,0,0,0,64,64,0,63,65,65,0,65], z7, [68], z17, [(h1.x)], z8, [68], z20, [(h0.x)], z30, [68], z1, [69,0,0,0,0,69,0,0,0,69,69,0,68,71,71,0,71], z4, [71,71,71,71,9,70,0,0,0,0,70,0,0,0,70,70,0,69,71,71,71,71,9,70,0,0,0,70,0,0,0,70,0,0,0,0,70,69,9,0,2,9,70,0,0,0,70,0,0,0,70,0,0,0,0,70,69,9,0,2,0,72,0,72,72,72,0,33,0,33,0,33,33,43,33,33,1,0]]) [70, 71, 72, 73, 18, 2] (fun N t ω => ⟨L.e0 + 4, [⟨ω 208 + (ω 192 + (ω 176 + (N + 301 + 44))) + 12, (h0.s), (h0.t), (apS (h0.y - 1)), (ω 210), h0.x, h0.y - 1⟩, ⟨ω 464 + (ω 448 + (ω 432 + (ω 208 + (ω 192 + (ω 176 + (N + 301 + 44))) + 20))) + 12, (h1.s), (h1.t), (apS (h1.y - 1)), (ω 466), h1.x, h1.y - 1⟩], 0, (ω 464 + (ω 448 + (ω 432 + (ω 208 + (ω 192 + (ω 176 + (N + 301 + 44))) + 20))) + 15), (ω 465 + (ω 449 + (ω 433 + (ω 209 + (ω 193 + (ω 177 + (t + 2595 + 50) + 2) + 1) + 44) + 2) + 1) + 28)⟩) [(CvOk (apS (h1.y - 1)) false), (CvOk (h1.s) true), ((lo (h0.x)) ≠ (lo (h1.x))), (LwOk (h0.s) (h0.x)), ((lo (h1.x)) = (lo (h1.x))), (LwOk (h1.s) (h1.x)), (CvOk (lo (h1.x)) true), (LwOk (h1.s) (h1.x)), ((apS (h1.y - 1)) ≠ (⟨#[]⟩ : Str)), (DcOk (apB (h1.y - 1)) (h1.y - 1)), (ApOk (Int.ofNat (h1.y) - 1) (h1.y - 1)), (NuOk (h1.c) (h1.y)), ((lo (h1.x)) = (lo (h1.x))), (LwOk (h1.s) (h1.x)), (CvOk (lo (h1.x)) true), (LwOk (h1.s) (h1.x)), (CvOk (apS (h0.y - 1)) false), (CvOk (h0.s) true), ((lo (h1.x)) ≠ (lo (h0.x))), (LwOk (h1.s) (h1.x)), ((lo (h0.x)) = (lo (h0.x))), (LwOk (h0.s) (h0.x)), (CvOk (lo (h0.x)) true), (LwOk (h0.s) (h0.x)), ((apS (h0.y - 1)) ≠ (⟨#[]⟩ : Str)), (DcOk (apB (h0.y - 1)) (h0.y - 1)), (ApOk (Int.ofNat (h0.y) - 1) (h0.y - 1)), (NuOk (h0.c) (h0.y)), ((lo (h0.x)) = (lo (h0.x))), (LwOk (h0.s) (h0.x)), (CvOk (lo (h0.x)) true), (LwOk (h0.s) (h0.x)), (¬ ((2) < (L.room))), ((lo (h1.x)) ≠ (lo (x0))), (LwOk (h1.s) (h1.x)), ((lo (h0.x)) ≠ (lo (x0))), (LwOk (h0.s) (h0.x)), (CvOk (lo (x0)) true), (LwOk (lo (x0)) (x0))] := by
  cases b1 <;> exact by kernel_rfl
theorem hrG2d (L : Loc) (pl : List PE) (x0 : Nat) (h0 h1 : HE) (w : World) (b1 b2 : Bool) (cd : Code) (bl : List (Code × Pos)) (pa : Option Value) (p : Pos) (N t : Nat) (ω : Nat → Nat) : HrQ w b1 b2 cd bl pa p N t ω (Lw L x0) [h0, h1] pl (fl [z53, [(x0)], z55, [(h0.x)], z51, [(h1.x)], z75, [(h0.x),0,2,1,1,1,41,0,0,0,0,41,0,0,0,41,41,0,40,42,42,0,42], z5, [43,1,1,1], z36, [5,5,5,5,5,0,2,(h0.x)], z0, [(h0.y),0,0,0,1,(h0.y - 1),0,1,(h0.y - 1),42,42,42,0,7,0,42,42,42,45,0,45], z29, [46,0,46], z15, [48,0,0,0,48,0,0,0,48,0,0,0,0,48,47,1,0,2,(h0.x),0,2,1,1,2,48,0,0,0,0,48,0,0,0,48,48,0,47,49,49,0,49], z7, [52], z19, [(h0.x)], z8, [52], z17, [(h1.x)], z30, [52], z1, [53,0,0,0,0,53,0,0,0,53,53,0,52,55,55,0,55], z4, [55,55,55,55,9,54,0,0,0,0,54,0,0,0,54,54,0,53,55,55,55,55,9,54,0,0,0,54,0,0,0,54,0,0,0,0,54,53,9,0,2,9,54,0,0,0,54,0,0,0,54,0,0,0,0,54,53,9,0,2,0,56,0,56,56,56,0,17,0,17,0,17,17,27,17,17,52,52,0,0,52,52,55,0,0,0,0,0,55], z16, [56,0,0,0,56,0,0,0,56,0,0,0,0,56,55,1,0,0,0,0,0,1,1,1,1,1,1,0,0,1,57,0,0,0,57,0,0,0,57,0,0,0,0,57,56,1,0,2,(h1.x),0,2,1,1,1,57,0,0,0,0,57,0,0,0,57,57,0,56,58,58,0,58], z5, [59,1,1,1,100002,100002,100002,0,100002], z3, [100002], z2, [100002], z2, [100002,1,1,1,5,5,5,5,5,0,2,(h1.x)], z0, [(h1.y),0,0,0,1,(h1.y - 1),0,1,(h1.y - 1),58,58,58,0,7,1,58,58,61,0,61], z15, [63,0,0,0,63,0,0,0,63,0,0,0,0,63,62,1,0,2,(h1.x),0,2,1,1,2,63,0,0,0,0,63,0,0,0,63,63,0,62,64,64,0,64], z7, [67], z17, [(h1.x)], z8, [67], z21, [(h0.x)], z30, [67], z1, [68,0,0,0,0,68,0,0,0,68,68,0,67,70,70,0,70], z4, [70,70,70,70,0,31,0,31,0,31,31,41,31,31,1,0]]) [68, 69, 70, 71, 16] (fun N t ω => ⟨L.e0 + 3, [⟨ω 208 + (ω 192 + (ω 176 + (N + 301 + 44))) + 12, (h0.s), (h0.t), (apS (h0.y - 1)), (ω 210), h0.x, h0.y - 1⟩], 0, (ω 464 + (ω 448 + (ω 432 + (ω 208 + (ω 192 + (ω 176 + (N + 301 + 44))) + 20))) + 11), (ω 465 + (ω 449 + (ω 433 + (ω 209 + (ω 193 + (ω 177 + (t + 2595 + 50) + 2) + 1) + 44) + 2) + 1) + 16)⟩) [((lo (h0.x)) ≠ (lo (h1.x))), (LwOk (h0.s) (h0.x)), ((lo (h1.x)) = (lo (h1.x))), (LwOk (h1.s) (h1.x)), (CvOk (lo (h1.x)) true), (LwOk (h1.s) (h1.x)), ((apS (h1.y - 1)) = (⟨#[]⟩ : Str)), (DcOk (apB (h1.y - 1)) (h1.y - 1)), (ApOk (Int.ofNat (h1.y) - 1) (h1.y - 1)), (NuOk (h1.c) (h1.y)), ((lo (h1.x)) = (lo (h1.x))), (LwOk (h1.s) (h1.x)), (CvOk (lo (h1.x)) true), (LwOk (h1.s) (h1.x)), (CvOk (apS (h0.y - 1)) false), (CvOk (h0.s) true), ((lo (h1.x)) ≠ (lo (h0.x))), (LwOk (h1.s) (h1.x)), ((lo (h0.x)) = (lo (h0.x))), (LwOk (h0.s) (h0.x)), (CvOk (lo (h0.x)) true), (LwOk (h0.s) (h0.x)), ((apS (h0.y - 1)) ≠ (⟨#[]⟩ : Str)), (DcOk (apB (h0.y - 1)) (h0.y - 1)), (ApOk (Int.ofNat (h0.y) - 1) (h0.y - 1)), (NuOk (h0.c) (h0.y)), ((lo (h0.x)) = (lo (h0.x))), (LwOk (h0.s) (h0.x)), (CvOk (lo (h0.x)) true), (LwOk (h0.s) (h0.x)), (¬ ((2) < (L.room))), ((lo (h1.x)) ≠ (lo (x0))), (LwOk (h1.s) (h1.x)), ((lo (h0.x)) ≠ (lo (x0))), (LwOk (h0.s) (h0.x)), (CvOk (lo (x0)) true), (LwOk (lo (x0)) (x0))] := by
  cases b1 <;> exact by kernel_rfl
theorem hrG2e (L : Loc) (pl : List PE) (x0 : Nat) (h0 h1 : HE) (w : World) (b1 b2 : Bool) (cd : Code) (bl : List (Code × Pos)) (pa : Option Value) (p : Pos) (N t : Nat) (ω : Nat → Nat) : HrQ w b1 b2 cd bl pa p N t ω (Lw L x0) [h0, h1] pl (fl [z53, [(x0)], z55, [(h0.x)], z51, [(h1.x)], z75, [(h0.x),0,2,1,1,1,41,0,0,0,0,41,0,0,0,41,41,0,40,42,42,0,42], z5, [43,1,1,1], z36, [5,5,5,5,5,0,2,(h0.x)], z0, [(h0.y),0,0,0,1,(h0.y - 1),0,1,(h0.y - 1),42,42,42,0,7,1,42,42,45,0,45], z15, [47,0,0,0,47,0,0,0,47,0,0,0,0,47,46,1,0,2,(h0.x),0,2,1,1,2,47,0,0,0,0,47,0,0,0,47,47,0,46,48,48,0,48], z7, [51], z19, [(h0.x)], z8, [51], z17, [(h1.x)], z30, [51], z1, [52,0,0,0,0,52,0,0,0,52,52,0,51,54,54,0,54], z4, [54,54,54,54,0,15,0,15,0,15,15,25,15,15,50,50,0,0,50,50,53,0,0,0,0,0,53], z16, [54,0,0,0,54,0,0,0,54,0,0,0,0,54,53,1,0,0,0,0,0,1,1,1,1,1,1,0,0,1,55,0,0,0,55,0,0,0,55,0,0,0,0,55,54,1,0,2,(h1.x),0,2,1,1,1,55,0,0,0,0,55,0,0,0,55,55,0,54,56,56,0,56], z5, [57,1,1,1,100002,100002,100002,0,100002], z3, [100002], z2, [100002], z2, [100002,1,1,1,5,5,5,5,5,0,2,(h1.x)], z0, [(h1.y),0,0,0,1,(h1.y - 1),0,1,(h1.y - 1),56,56,56,0,7,0,56,56,56,59,0,59], z29, [60,0,60], z15, [62,0,0,0,62,0,0,0,62,0,0,0,0,62,61,1,0,2,(h1.x),0,2,1,1,2,62,0,0,0,0,62,0,0,0,62,62,0,61,63,63,0,63], z7, [66], z17, [(h1.x)], z8, [66], z1, [67,0,0,0,0,67,0,0,0,67,67,0,66,69,69,0,69], z4, [69,69,69,69,9,68,0,0,0,0,68,0,0,0,68,68,0,67,69,69,69,69,9,68,0,0,0,68,0,0,0,68,0,0,0,0,68,67,9,0,2,9,68,0,0,0,68,0,0,0,68,0,0,0,0,68,67,9,0,2,0,70,0,70,70,70,0,31,0,31,0,31,31,41,31,31,1,0]]) [68, 69, 70, 71, 2] (fun N t ω => ⟨L.e0 + 3, [⟨ω 432 + (ω 416 + (ω 400 + (ω 208 + (ω 192 + (ω 176 + (N + 301 + 44))) + 16))) + 12, (h1.s), (h1.t), (apS (h1.y - 1)), (ω 434), h1.x, h1.y - 1⟩], 0, (ω 432 + (ω 416 + (ω 400 + (ω 208 + (ω 192 + (ω 176 + (N + 301 + 44))) + 16))) + 15), (ω 433 + (ω 417 + (ω 401 + (ω 209 + (ω 193 + (ω 177 + (t + 2595 + 50) + 2) + 1) + 32) + 2) + 1) + 25)⟩) [(CvOk (apS (h1.y - 1)) false), (CvOk (h1.s) true), ((lo (h1.x)) = (lo (h1.x))), (LwOk (h1.s) (h1.x)), (CvOk (lo (h1.x)) true), (LwOk (h1.s) (h1.x)), ((apS (h1.y - 1)) ≠ (⟨#[]⟩ : Str)), (DcOk (apB (h1.y - 1)) (h1.y - 1)), (ApOk (Int.ofNat (h1.y) - 1) (h1.y - 1)), (NuOk (h1.c) (h1.y)), ((lo (h1.x)) = (lo (h1.x))), (LwOk (h1.s) (h1.x)), (CvOk (lo (h1.x)) true), (LwOk (h1.s) (h1.x)), ((lo (h1.x)) ≠ (lo (h0.x))), (LwOk (h1.s) (h1.x)), ((lo (h0.x)) = (lo (h0.x))), (LwOk (h0.s) (h0.x)), (CvOk (lo (h0.x)) true), (LwOk (h0.s) (h0.x)), ((apS (h0.y - 1)) = (⟨#[]⟩ : Str)), (DcOk (apB (h0.y - 1)) (h0.y - 1)), (ApOk (Int.ofNat (h0.y) - 1) (h0.y - 1)), (NuOk (h0.c) (h0.y)), ((lo (h0.x)) = (lo (h0.x))), (LwOk (h0.s) (h0.x)), (CvOk (lo (h0.x)) true), (LwOk (h0.s) (h0.x)), (¬ ((2) < (L.room))), ((lo (h1.x)) ≠ (lo (x0))), (LwOk (h1.s) (h1.x)), ((lo (h0.x)) ≠ (lo (x0))), (LwOk (h0.s) (h0.x)), (CvOk (lo (x0)) true), (LwOk (lo (x0)) (x0))] := by
  cases b1 <;> exact by kernel_rfl
theorem hrG2f (L : Loc) (pl : List PE) (x0 : Nat) (h0 h1 : HE) (w : World) (b1 b2 : Bool) (cd : Code) (bl : List (Code × Pos)) (pa : Option Value) (p : Pos) (N t : Nat) (ω : Nat → Nat) : HrQ w b1 b2 cd bl pa p N t ω (Lw L x0) [h0, h1] pl (fl [z53, [(x0)], z55, [(h0.x)], z51, [(h1.x)], z75, [(h0.x),0,2,1,1,1,41,0,0,0,0,41,0,0,0,41,41,0,40,42,42,0,42], z5, [43,1,1,1], z36, [5,5,5,5,5,0,2,(h0.x)], z0, [(h0.y),0,0,0,1,(h0.y - 1),0,1,(h0.y - 1),42,42,42,0,7,1,42,42,45,0,45], z15, [47,0,0,0,47,0,0,0,47,0,0,0,0,47,46,1,0,2,(h0.x),0,2,1,1,2,47,0,0,0,0,47,0,0,0,47,47,0,46,48,48,0,48], z7, [51], z19, [(h0.x)], z8, [51], z17, [(h1.x)], z30, [51], z1, [52,0,0,0,0,52,0,0,0,52,52,0,51,54,54,0,54], z4, [54,54,54,54,0,15,0,15,0,15,15,25,15,15,50,50,0,0,50,50,53,0,0,0,0,0,53], z16, [54,0,0,0,54,0,0,0,54,0,0,0,0,54,53,1,0,0,0,0,0,1,1,1,1,1,1,0,0,1,55,0,0,0,55,0,0,0,55,0,0,0,0,55,54,1,0,2,(h1.x),0,2,1,1,1,55,0,0,0,0,55,0,0,0,55,55,0,54,56,56,0,56], z5, [57,1,1,1,100002,100002,100002,0,100002], z3, [100002], z2, [100002], z2, [100002,1,1,1,5,5,5,5,5,0,2,(h1.x)], z0, [(h1.y),0,0,0,1,(h1.y - 1),0,1,(h1.y - 1),56,56,56,0,7,1,56,56,59,0,59], z15, [61,0,0,0,61,0,0,0,61,0,0,0,0,61,60,1,0,2,(h1.x),0,2,1,1,2,61,0,0,0,0,61,0,0,0,61,61,0,60,62,62,0,62], z7, [65], z17, [(h1.x)], z8, [65], z1, [66,0,0,0,0,66,0,0,0,66,66,0,65,68,68,0,68], z4, [68,68,68,68,0,29,0,29,0,29,29,39,29,29,1,0]]) [66, 67, 68, 69] (fun N t ω => ⟨L.e0 + 2, [], 0, (ω 432 + (ω 416 + (ω 400 + (ω 208 + (ω 192 + (ω 176 + (N + 301 + 44))) + 16))) + 11), (ω 433 + (ω 417 + (ω 401 + (ω 209 + (ω 193 + (ω 177 + (t + 2595 + 50) + 2) + 1) + 32) + 2) + 1) + 13)⟩) [((lo (h1.x)) = (lo (h1.x))), (LwOk (h1.s) (h1.x)), (CvOk (lo (h1.x)) true), (LwOk (h1.s) (h1.x)), ((apS (h1.y - 1)) = (⟨#[]⟩ : Str)), (DcOk (apB (h1.y - 1)) (h1.y - 1)), (ApOk (Int.ofNat (h1.y) - 1) (h1.y - 1)), (NuOk (h1.c) (h1.y)), ((lo (h1.x)) = (lo (h1.x))), (LwOk (h1.s) (h1.x)), (CvOk (lo (h1.x)) true), (LwOk (h1.s) (h1.x)), ((lo (h1.x)) ≠ (lo (h0.x))), (LwOk (h1.s) (h1.x)), ((lo (h0.x)) = (lo (h0.x))), (LwOk (h0.s) (h0.x)), (CvOk (lo (h0.x)) true), (LwOk (h0.s) (h0.x)), ((apS (h0.y - 1)) = (⟨#[]⟩ : Str)), (DcOk (apB (h0.y - 1)) (h0.y - 1)), (ApOk (Int.ofNat (h0.y) - 1) (h0.y - 1)), (NuOk (h0.c) (h0.y)), ((lo (h0.x)) = (lo (h0.x))), (LwOk (h0.s) (h0.x)), (CvOk (lo (h0.x)) true), (LwOk (h0.s) (h0.x)), (¬ ((2) < (L.room))), ((lo (h1.x)) ≠ (lo (x0))), (LwOk (h1.s) (h1.x)), ((lo (h0.x)) ≠ (lo (x0))), (LwOk (h0.s) (h0.x)), (CvOk (lo (x0)) true), (LwOk (lo (x0)) (x0))] := by
  cases b1 <;> exact by kernel_rfl
theorem hrG3a (L : Loc) (pl : List PE) (x0 : Nat) (h0 h1 h2 : HE) (w : World) (b1 b2 : Bool) (cd : Code) (bl : List (Code × Pos)) (pa : Option Value) (p : Pos) (N t : Nat) (ω : Nat → Nat) : HrQ w b1 b2 cd bl pa p N t ω (Lw L x0) [h0, h1, h2] pl (fl [z53, [(x0)], z55, [(h0.x),5,0,7,1,5,6,6,6,0,0,6,0,1,(h0.y),0,0,0,1,(h0.y + 1),0,1,(h0.y + 1),6,6,9,0,9], z29, [10,0,10], z15, [12,0,0,0,12,0,0,0,12,0,0,0,0,12,11,1,0,2,(x0),0,2,1,1,2,12,0,0,0,0,12,0,0,0,12,12,0,11,13,13,0,13], z7, [16], z19, [(h0.x)], z8, [16], z17, [(h1.x)], z30, [16], z18, [(h2.x)], z30, [16], z1, [17,0,0,0,0,17,0,0,0,17,17,0,16,19,19,0,19], z4, [19,19,19,19,9,18,0,0,0,0,18,0,0,0,18,18,0,17,19,19,19,19,9,18,0,0,0,18,0,0,0,18,0,0,0,0,18,17,9,0,2,9,18,0,0,0,18,0,0,0,18,0,0,0,0,18,17,9,0,2,0,20,0,20,20,20]]) [16, 17, 18, 19, 0] (fun N t ω => ⟨L.e0 + 2, [h1, h2, ⟨ω 96 + (ω 80 + (ω 64 + (N + 301 + 7))) + 12, (lo (x0)), (L.τ 13), (apS (h0.y + 1)), (ω 98), x0, h0.y + 1⟩], 2, (ω 96 + (ω 80 + (ω 64 + (N + 301 + 7))) + 13), (ω 97 + (ω 81 + (ω 65 + (t + 2595 + 17) + 2) + 1) + 29)⟩) [(CvOk (apS (h0.y + 1)) false), (CvOk (lo (x0)) true), ((lo (h2.x)) ≠ (lo (x0))), (LwOk (h2.s) (h2.x)), ((lo (h1.x)) ≠ (lo (x0))), (LwOk (h1.s) (h1.x)), ((lo (h0.x)) = (lo (x0))), (LwOk (h0.s) (h0.x)), (CvOk (lo (x0)) true), (LwOk (lo (x0)) (x0)), (DcOk (apB (h0.y + 1)) (h0.y + 1)), (ApOk (Int.ofNat (h0.y) + 1) (h0.y + 1)), (NuOk (h0.c) (h0.y)), ((lo (h0.x)) = (lo (x0))), (LwOk (h0.s) (h0.x)), (CvOk (lo (x0)) true), (LwOk (lo (x0)) (x0))] ∧
  HrQ w b1 b2 cd bl pa p N t ω (Lw L x0) [h0, h1, h2] pl (fl [z53, [(x0)], z55, [(h0.x)], z51, [(h1.x),8,0,7,1,8,9,9,9,0,0,9,0,1,(h1.y),0,0,0,1,(h1.y + 1),0,1,(h1.y + 1),9,9,12,0,12], z29, [13,0,13], z15, [15,0,0,0,15,0,0,0,15,0,0,0,0,15,14,1,0,2,(x0),0,2,1,1,2,15,0,0,0,0,15,0,0,0,15,15,0,14,16,16,0,16], z7, [19], z19, [(h0.x)], z30, [19], z17, [(h1.x)], z8, [19], z18, [(h2.x)], z30, [19], z1, [20,0,0,0,0,20,0,0,0,20,20,0,19,22,22,0,22], z4, [22,22,22,22,9,21,0,0,0,0,21,0,0,0,21,21,0,20,22,22,22,22,9,21,0,0,0,21,0,0,0,21,0,0,0,0,21,20,9,0,2,9,21,0,0,0,21,0,0,0,21,0,0,0,0,21,20,9,0,2,0,23,0,23,23,23]]) [19, 20, 21, 22, 0] (fun N t ω => ⟨L.e0 + 2, [h0, h2, ⟨ω 128 + (ω 112 + (ω 96 + (N + 301 + 10))) + 12, (lo (x0)), (L.τ 13), (apS (h1.y + 1)), (ω 130), x0, h1.y + 1⟩], 2, (ω 128 + (ω 112 + (ω 96 + (N + 301 + 10))) + 13), (ω 129 + (ω 113 + (ω 97 + (t + 2595 + 20) + 2) + 1) + 29)⟩) [(CvOk (apS (h1.y + 1)) false), (CvOk (lo (x0)) true), ((lo (h2.x)) ≠ (lo (x0))), (LwOk (h2.s) (h2.x)), ((lo (h1.x)) = (lo (x0))), (LwOk (h1.s) (h1.x)), ((lo (h0.x)) ≠ (lo (x0))), (LwOk (h0.s) (h0.x)), (CvOk (lo (x0)) true), (LwOk (lo (x0)) (x0)), (DcOk (apB (h1.y + 1)) (h1.y + 1)), (ApOk (Int.ofNat (h1.y) + 1) (h1.y + 1)), (NuOk (h1.c) (h1.y)), ((lo (h1.x)) = (lo (x0))), (LwOk (h1.s) (h1.x)), ((lo (h0.x)) ≠ (lo (x0))), (LwOk (h0.s) (h0.x)), (CvOk (lo (x0)) true), (LwOk (lo (x0)) (x0))] := by
  cases b1 <;> exact ⟨by kernel_rfl, by kernel_rfl⟩
theorem hrG3b (L : Loc) (pl : List PE) (x0 : Nat) (h0 h1 h2 : HE) (w : World) (b1 b2 : Bool) (cd : Code) (bl : List (Code × Pos)) (pa : Option Value) (p : Pos) (N t : Nat) (ω : Nat → Nat) : HrQ w b1 b2 cd bl pa p N t ω (Lw L x0) [h0, h1, h2] pl (fl [z53, [(x0)], z55, [(h0.x)], z51, [(h1.x),8,0,7,0,0,7,0,7,0,7,7,13,7,7,7], z39, [0,2,(h2.x),11,0,7,1,11,12,12,12,0,0,12,0,1,(h2.y),0,0,0,1,(h2.y + 1),0,1,(h2.y + 1),12,12,15,0,15], z29, [16,0,16], z15, [18,0,0,0,18,0,0,0,18,0,0,0,0,18,17,1,0,2,(x0),0,2,1,1,2,18,0,0,0,0,18,0,0,0,18,18,0,17,19,19,0,19], z7, [22], z19, [(h0.x)], z30, [22], z17, [(h1.x)], z30, [22], z18, [(h2.x)], z8, [22], z1, [23,0,0,0,0,23,0,0,0,23,23,0,22,25,25,0,25], z4, [25,25,25,25,9,24,0,0,0,0,24,0,0,0,24,24,0,23,25,25,25,25,9,24,0,0,0,24,0,0,0,24,0,0,0,0,24,23,9,0,2,9,24,0,0,0,24,0,0,0,24,0,0,0,0,24,23,9,0,2,0,26,0,26,26,26]]) [22, 23, 24, 25, 0] (fun N t ω => ⟨L.e0 + 2, [h0, h1, ⟨ω 160 + (ω 144 + (ω 128 + (N + 301 + 13))) + 12, (lo (x0)), (L.τ 13), (apS (h2.y + 1)), (ω 162), x0, h2.y + 1⟩], 2, (ω 160 + (ω 144 + (ω 128 + (N + 301 + 13))) + 13), (ω 161 + (ω 145 + (ω 129 + (t + 2595 + 23) + 2) + 1) + 29)⟩) [(CvOk (apS (h2.y + 1)) false), (CvOk (lo (x0)) true), ((lo (h2.x)) = (lo (x0))), (LwOk (h2.s) (h2.x)), ((lo (h1.x)) ≠ (lo (x0))), (LwOk (h1.s) (h1.x)), ((lo (h0.x)) ≠ (lo (x0))), (LwOk (h0.s) (h0.x)), (CvOk (lo (x0)) true), (LwOk (lo (x0)) (x0)), (DcOk (apB (h2.y + 1)) (h2.y + 1)), (ApOk (Int.ofNat (h2.y) + 1) (h2.y + 1)), (NuOk (h2.c) (h2.y)), ((lo (h2.x)) = (lo (x0))), (LwOk (h2.s) (h2.x)), ((lo (h1.x)) ≠ (lo (x0))), (LwOk (h1.s) (h1.x)), ((lo (h0.x)) ≠ (lo (x0))), (LwOk (h0.s) (h0.x)), (CvOk (lo (x0)) true), (LwOk (lo (x0)) (x0))] := by
  cases b1 <;> exact by kernel_rfl
theorem hrG3c (L : Loc) (pl : List PE) (x0 : Nat) (h0 h1 h2 : HE) (w : World) (b1 b2 : Bool) (cd : Code) (bl : List (Code × Pos)) (pa : Option Value) (p : Pos) (N t : Nat) (ω : Nat → Nat) : HrQ w b1 b2 cd bl pa p N t ω (Lw L x0) [h0, h1, h2] pl (fl [z53, [(x0)], z55, [(h0.x)], z51, [(h1.x),8,0,7,0,0,7,0,7,0,7,7,13,7,7,7], z39, [0,2,(h2.x)], z78, [(h0.x)], z56, [(h0.x)], z0, [(h0.y),0,0,0,1,(h0.y - 1),0,1,(h0.y - 1),51,51,51,0,7,0,51,51,51,54,0,54], z29, [55,0,55], z15, [57,0,0,0,57,0,0,0,57,0,0,0,0,57,56,1,0,2,(h0.x),0,2,1,1,2,57,0,0,0,0,57,0,0,0,57,57,0,56,58,58,0,58], z7, [61], z19, [(h0.x)], z8, [61], z17, [(h1.x)], z30, [61], z18, [(h2.x)], z30, [61], z1, [62,0,0,0,0,62,0,0,0,62,62,0,61,64,64,0,64], z4, [64,64,64,64,9,63,0,0,0,0,63,0,0,0,63,63,0,62,64,64,64,64,9,63,0,0,0,63,0,0,0,63,0,0,0,0,63,62,9,0,2,9,63,0,0,0,63,0,0,0,63,0,0,0,0,63,62,9,0,2,0,65,0,65,65,65,0,17,0,17,0,17,17,30,17,17,61,61,0,0,61,61,64,0,0,0,0,0,64], z16, [65,0,0,0,65,0,0,0,65,0,0,0,0,65,64,1,0,0,0,0,0,1,1,1,1,1,1,0,0,1,66,0,0,0,66,0,0,0,66,0,0,0,0,66,65,1,0,2,(h1.x),0,2,1,1,1,66,0,0,0,0,66,0,0,0,66,66,0,65,67,67,0,67], z5, [68,1,1,1,100002,100002,100002,0,100002], z3, [100002], z2, [100002], z2, [100002,1,1,1,5,5,5,5,5,0,2,(h1.x)], z0, [(h1.y),0,0,0,1,(h1.y - 1),0,1,(h1.y - 1),67,67,67,0,7,0,67,67,67,70,0,70], z29, [71,0,71], z15, [73,0,0,0,73,0,0,0,73,0,0,0,0,73,72,1,0,2,(h1.x),0,2,1,1,2,73,0,0,0,0,73,0,0,0,73,73,0,72,74,74,0,74], z7, [77], z17, [(h1.x)], z8, [77], z18, [(h2.x)], z30, [77], z20, [(h0.x)], z30, [77], z1, [78,0,0,0,0,78,0,0,0,78,78,0,77,80,80,0,80], z4, [80,80,80,80,9,79,0,0,0,0,79,0,0,0,79,79,0,78,80,80,80,80,9,79,0,0,0,79,0,0,0,79,0,0,0,0,79,78,9,0,2,9,79,0,0,0,79,0,0,0,79,0,0,0,0,79,78,9,0,2,0,81,0,81,81,81,0,33,0,33,0,33,33,46,33,33,77,77,0,0,77,77,80,0,0,0,0,0,80], z16, [81,0,0,0,81,0,0,0,81,0,0,0,0,81,80,1,0,0,0,0,0,1,1,1,1,1,1,0,0,1,82,0,0,0,82,0,0,0,82,0,0,0,0,82,81,1,0,2,(h2.x),0,2,1,1,1,82,0,0,0,0,82,0,0,0,82,82,0,81,83,83,0,83], z5, [84,1,1,1,100003,100003,100003,0,100003], z3, [100003], z2, [100003], z2, [100003,1,1,1,5,5,5,5,5,0,2,(h2.x)], z0, [(h2.y),0,0,0,1,(h2.y - 1),0,1,(h2.y - 1),83,83,83,0,7,0,83,83,83,86,0,86], z29, [87,0,87], z15, [89,0,0,0,89,0,0,0,89,0,0,0,0,89,88,1,0,2,(h2.x),0,2,1,1,2,89,0,0,0,0,89,0,0,0,89,89,0,88,90,90,0,90], z7, [93], z18, [(h2.x)], z8, [93,3,3,1,1,1,29,29,29,0,29,0,29,0,2,(h0.x)], z30, [93], z20, [(h1.x)], z30, [93], z1, [94,0,0,0,0,94,0,0,0,94,94,0,93,96,96,0,96], z4, [96,96,96,96,9,95,0,0,0,0,95,0,0,0,95,95,0,94,96,96,96,96,9,95,0,0,0,95,0,0,0,95,0,0,0,0,95,94,9,0,2,9,95,0,0,0,95,0,0,0,95,0,0,0,0,95,94,9,0,2,0,97,0,97,97,97,0,49,0,49,0,49,49,62,49,49,1,0]]) [95, 96, 97, 98, 34, 18, 2] (fun N t ω => ⟨L.e0 + 6, [⟨ω 240 + (ω 224 + (ω 208 + (N + 301 + 53))) + 12, (h0.s), (h0.t), (apS (h0.y - 1)), (ω 242), h0.x, h0.y - 1⟩, ⟨ω 528 + (ω 512 + (ω 496 + (ω 240 + (ω 224 + (ω 208 + (N + 301 + 53))) + 20))) + 12, (h1.s), (h1.t), (apS (h1.y - 1)), (ω 530), h1.x, h1.y - 1⟩, ⟨ω 816 + (ω 800 + (ω 784 + (ω 528 + (ω 512 + (ω 496 + (ω 240 + (ω 224 + (ω 208 + (N + 301 + 53))) + 20))) + 20))) + 12, (h2.s), (h2.t), (apS (h2.y - 1)), (ω 818), h2.x, h2.y - 1⟩], 0, (ω 816 + (ω 800 + (ω 784 + (ω 528 + (ω 512 + (ω 496 + (ω 240 + (ω 224 + (ω 208 + (N + 301 + 53))) + 20))) + 20))) + 15), (ω 817 + (ω 801 + (ω 785 + (ω 529 + (ω 513 + (ω 497 + (ω 241 + (ω 225 + (ω 209 + (t + 2595 + 57) + 2) + 1) + 47) + 2) + 1) + 47) + 2) + 1) + 31)⟩) [(CvOk (apS (h2.y - 1)) false), (CvOk (h2.s) true), ((lo (h1.x)) ≠ (lo (h2.x))), (LwOk (h1.s) (h1.x)), ((lo (h0.x)) ≠ (lo (h2.x))), (LwOk (h0.s) (h0.x)), ((lo (h2.x)) = (lo (h2.x))), (LwOk (h2.s) (h2.x)), (CvOk (lo (h2.x)) true), (LwOk (h2.s) (h2.x)), ((apS (h2.y - 1)) ≠ (⟨#[]⟩ : Str)), (DcOk (apB (h2.y - 1)) (h2.y - 1)), (ApOk (Int.ofNat (h2.y) - 1) (h2.y - 1)), (NuOk (h2.c) (h2.y)), ((lo (h2.x)) = (lo (h2.x))), (LwOk (h2.s) (h2.x)), (CvOk (lo (h2.x)) true), (LwOk (h2.s) (h2.x)), (CvOk (apS (h1.y - 1)) false), (CvOk (h1.s) true), ((lo (h0.x)) ≠ (lo (h1.x))), (LwOk (h0.s) (h0.x)), ((lo (h2.x)) ≠ (lo (h1.x))), (LwOk (h2.s) (h2.x)), ((lo (h1.x)) = (lo (h1.x))), (LwOk (h1.s) (h1.x)), (CvOk (lo (h1.x)) true), (LwOk (h1.s) (h1.x)), ((apS (h1.y - 1)) ≠ (⟨#[]⟩ : Str)), (DcOk (apB (h1.y - 1)) (h1.y - 1)), (ApOk (Int.ofNat (h1.y) - 1) (h1.y - 1)), (NuOk (h1.c) (h1.y)), ((lo (h1.x)) = (lo (h1.x))), (LwOk (h1.s) (h1.x)), (CvOk (lo (h1.x)) true), (LwOk (h1.s) (h1.x)), (CvOk (apS (h0.y - 1)) false), (CvOk (h0.s) true), ((lo (h2.x)) ≠ (lo (h0.x))), (LwOk (h2.s) (h2.x)), ((lo (h1.x)) ≠ (lo (h0.x))), (LwOk (h1.s) (h1.x)), ((lo (h0.x)) = (lo (h0.x))), (LwOk (h0.s) (h0.x)), (CvOk (lo (h0.x)) true), (LwOk (h0.s) (h0.x)), ((apS (h0.y - 1)) ≠ (⟨#[]⟩ : Str)), (DcOk (apB (h0.y - 1)) (h0.y - 1)), (ApOk (Int.ofNat (h0.y) - 1) (h0.y - 1)), (NuOk (h0.c) (h0.y)), ((lo (h0.x)) = (lo (h0.x))), (LwOk (h0.s) (h0.x)), (CvOk (lo (h0.x)) true), (LwOk (h0.s) (h0.x)), (¬ ((3) < (L.room))), ((lo (h2.x)) ≠ (lo (x0))), (LwOk (h2.s) (h2.x)), ((lo (h1.x)) ≠ (lo (x0))), (LwOk (h1.s) (h1.x)), ((lo (h0.x)) ≠ (lo (x0))), (LwOk (h0.s) (h0.x)), (CvOk (lo (x0)) true), (LwOk (lo (x0)) (x0))] := by
  cases b1 <;> exact by kernel_rfl
theorem hrG3d (L : Loc) (pl : List PE) (x0 : Nat) (h0 h1 h2 : HE) (w : World) (b1 b2 : Bool) (cd : Code) (bl : List (Code × Pos)) (pa : Option Value) (p : Pos) (N t : Nat) (ω : Nat → Nat) : HrQ w b1 b2 cd bl pa p N t ω (Lw L x0) [h0, h1, h2] pl (fl [z53, [(x0)], z55, [(h0.x)], z51, [(h1.x),8,0,7,0,0,7,0,7,0,7,7,13,7,7,7], z39, [0,2,(h2.x)], z78, [(h0.x)], z56, [(h0.x)], z0, [(h0.y),0,0,0,1,(h0.y - 1),0,1,(h0.y - 1),51,51,51,0,7,0,51,51,51,54,0,54], z29, [55,0,55], z15, [57,0,0,0,57,0,0,0,57,0,0,0,0,57,56,1,0,2,(h0.x),0,2,1,1,2,57,0,0,0,0,57,0,0,0,57,57,0,56,58,58,0,58], z7, [61], z19, [(h0.x)], z8, [61], z17, [(h1.x)], z30, [61], z18, [(h2.x)], z30, [61], z1, [62,0,0,0,0,62,0,0,0,62,62,0,61,64,64,0,64], z4, [64,64,64,64,9,63,0,0,0,0,63,0,0,0,63,63,0,62,64,64,64,64,9,63,0,0,0,63,0,0,0,63,0,0,0,0,63,62,9,0,2,9,63,0,0,0,63,0,0,0,63,0,0,0,0,63,62,9,0,2,0,65,0,65,65,65,0,17,0,17,0,17,17,30,17,17,61,61,0,0,61,61,64,0,0,0,0,0,64], z16, [65,0,0,0,65,0,0,0,65,0,0,0,0,65,64,1,0,0,0,0,0,1,1,1,1,1,1,0,0,1,66,0,0,0,66,0,0,0,66,0,0,0,0,66,65,1,0,2,(h1.x),0,2,1,1,1,66,0,0,0,0,66,0,0,0,66,66,0,65,67,67,0,67], z5, [68,1,1,1,100002,100002,100002,0,100002], z3, [100002], z2, [100002], z2, [100002,1,1,1,5,5,5,5,5,0,2,(h1.x)], z0, [(h1.y),0,0,0,1,(h1.y - 1),0,1,(h1.y - 1),67,67,67,0,7,0,67,67,67,70,0,70], z29, [71,0,71], z15, [73,0,0,0,73,0,0,0,73,0,0,0,0,73,72,1,0,2,(h1.x),0,2,1,1,2,73,0,0,0,0,73,0,0,0,73,73,0,72,74,74,0,74], z7, [77], z17, [(h1.x)], z8, [77], z18, [(h2.x)], z30, [77], z20, [(h0.x)], z30, [77], z1, [78,0,0,0,0,78,0,0,0,78,78,0,77,80,80,0,80], z4, [80,80,80,80,9,79,0,0,0,0,79,0,0,0,79,79,0,78,80,80,80,80,9,79,0,0,0,79,0,0,0,79,0,0,0,0,79,78,9,0,2,9,79,0,0,0,79,0,0,0,79,0,0,0,0,79,78,9,0,2,0,81,0,81,81,81,0,33,0,33,0,33,33,46,33,33,77,77,0,0,77,77,80,0,0,0,0,0,80], z16, [81,0,0,0,81,0,0,0,81,0,0,0,0,81,80,1,0,0,0,0,0,1,1,1,1,1,1,0,0,1,82,0,0,0,82,0,0,0,82,0,0,0,0,82,81,1,0,2,(h2.x),0,2,1,1,1,82,0,0,0,0,82,0,0,0,82,82,0,81,83,83,0,83], z5, [84,1,1,1,100003,100003,100003,0,100003], z3, [100003], z2, [100003], z2, [100003,1,1,1,5,5,5,5,5,0,2,(h2.x)], z0, [(h2.y),0,0,0,1,(h2.y - 1),0,1,(h2.y - 1),83,83,83,0,7,1,83,83,86,0,86], z15, [88,0,0,0,88,0,0,0,88,0,0,0,0,88,87,1,0,2,(h2.x),0,2,1,1,2,88,0,0,0,0,88,0,0,0,88,88,0,87,89,89,0,89], z7, [92], z18, [(h2.x)], z8, [92,3,3,1,1,1,28,28,28,0,28,0,28,0,2,(h0.x)], z30, [92], z21, [(h1.x)], z30, [92], z1, [93,0,0,0,0,93,0,0,0,93,93,0,92,95,95,0,95], z4, [95,95,95,95,0,47,0,47,0,47,47,60,47,47,1,0]]) [93, 94, 95, 96, 32, 16] (fun N t ω => ⟨L.e0 + 5, [⟨ω 240 + (ω 224 + (ω 208 + (N + 301 + 53))) + 12, (h0.s), (h0.t), (apS (h0.y - 1)), (ω 242), h0.x, h0.y - 1⟩, ⟨ω 528 + (ω 512 + (ω 496 + (ω 240 + (ω 224 + (ω 208 + (N + 301 + 53))) + 20))) + 12, (h1.s), (h1.t), (apS (h1.y - 1)), (ω 530), h1.x, h1.y - 1⟩], 0, (ω 816 + (ω 800 + (ω 784 + (ω 528 + (ω 512 + (ω 496 + (ω 240 + (ω 224 + (ω 208 + (N + 301 + 53))) + 20))) + 20))) + 11), (ω 817 + (ω 801 + (ω 785 + (ω 529 + (ω 513 + (ω 497 + (ω 241 + (ω 225 + (ω 209 + (t + 2595 + 57) + 2) + 1) + 47) + 2) + 1) + 47) + 2) + 1) + 19)⟩) [((lo (h1.x)) ≠ (lo (h2.x))), (LwOk (h1.s) (h1.x)), ((lo (h0.x)) ≠ (lo (h2.x))), (LwOk (h0.s) (h0.x)), ((lo (h2.x)) = (lo (h2.x))), (LwOk (h2.s) (h2.x)), (CvOk (lo (h2.x)) true), (LwOk (h2.s) (h2.x)), ((apS (h2.y - 1)) = (⟨#[]⟩ : Str)), (DcOk (apB (h2.y - 1)) (h2.y - 1)), (ApOk (Int.ofNat (h2.y) - 1) (h2.y - 1)), (NuOk (h2.c) (h2.y)), ((lo (h2.x)) = (lo (h2.x))), (LwOk (h2.s) (h2.x)), (CvOk (lo (h2.x)) true), (LwOk (h2.s) (h2.x)), (CvOk (apS (h1.y - 1)) false), (CvOk (h1.s) true), ((lo (h0.x)) ≠ (lo (h1.x))), (LwOk (h0.s) (h0.x)), ((lo (h2.x)) ≠ (lo (h1.x))), (LwOk (h2.s) (h2.x)), ((lo (h1.x)) = (lo (h1.x))), (LwOk (h1.s) (h1.x)), (CvOk (lo (h1.x)) true), (LwOk (h1.s) (h1.x)), ((apS (h1.y - 1)) ≠ (⟨#[]⟩ : Str)), (DcOk (apB (h1.y - 1)) (h1.y - 1)), (ApOk (Int.ofNat (h1.y) - 1) (h1.y - 1)), (NuOk (h1.c) (h1.y)), ((lo (h1.x)) = (lo (h1.x))), (LwOk (h1.s) (h1.x)), (CvOk (lo (h1.x)) true), (LwOk (h1.s) (h1.x)), (CvOk (apS (h0.y - 1)) false), (CvOk (h0.s) true), ((lo (h2.x)) ≠ (lo (h0.x))), (LwOk (h2.s) (h2.x)), ((lo (h1.x)) ≠ (lo (h0.x))), (LwOk (h1.s) (h1.x)), ((lo (h0.x)) = (lo (h0.x))), (LwOk (h0.s) (h0.x)), (CvOk (lo (h0.x)) true), (LwOk (h0.s) (h0.x)), ((apS (h0.y - 1)) ≠ (⟨#[]⟩ : Str)), (DcOk (apB (h0.y - 1)) (h0.y - 1)), (ApOk (Int.ofNat (h0.y) - 1) (h0.y - 1)), (NuOk (h0.c) (h0.y)), ((lo (h0.x)) = (lo (h0.x))), (LwOk (h0.s) (h0.x)), (CvOk (lo (h0.x)) true), (LwOk (h0.s) (h0.x)), (¬ ((3) < (L.room))), ((lo (h2.x)) ≠ (lo (x0))), (LwOk (h2.s) (h2.x)), ((lo (h1.x)) ≠ (lo (x0))), (LwOk (h1.s) (h1.x)), ((lo (h0.x)) ≠ (lo (x0))), (LwOk (h0.s) (h0.x)), (CvOk (lo (x0)) true), (LwOk (lo (x0)) (x0))] := by
  cases b1 <;> exact by kernel_rfl
theorem hrG3e (L : Loc) (pl : List PE) (x0 : Nat) (h0 h1 h2 : HE) (w : World) (b1 b2 : Bool) (cd : Code) (bl : List (Code × Pos)) (pa : Option Value) (p : Pos) (N t : Nat) (ω : Nat → Nat) : HrQ w b1 b2 cd bl pa p N t ω (Lw L x0) [h0, h1, h2] pl (fl [z53, [(x0)], z55, [(h0.x)], z51, [(h1.x),8,0,7,0,0,7,0,7,0,7,7,13,7,7,7], z39, [0,2,(h2.x)], z78, [(h0.x)], z56, [(h0.x)], z0, [(h0.y),0,0,0,1,(h0.y - 1),0,1,(h0.y - 1),51,51,51,0,7,0,51,51,51,54,0,54], z29, [55,0,55], z15, [57,0,0,0,57,0,0,0,57,0,0,0,0,57,56,1,0,2,(h0.x),0,2,1,1,2,57,0,0,0,0,57,0,0,0,57,57,0,56,58,58,0,58], z7, [61], z19, [(h0.x)], z8, [61], z17, [(h1.x)], z30, [61], z18, [(h2.x)], z30, [61], z1, [62,0,0,0,0,62,0,0,0,62,62,0,61,64,64,0,64], z4, [64,64,64,64,9,63,0,0,0,0,63,0,0,0,63,63,0,62,64,64,64,64,9,63,0,0,0,63,0,0,0,63,0,0,0,0,63,62,9,0,2,9,63,0,0,0,63,0,0,0,63,0,0,0,0,63,62,9,0,2,0,65,0,65,65,65,0,17,0,17,0,17,17,30,17,17,61,61,0,0,61,61,64,0,0,0,0,0,64], z16, [65,0,0,0,65,0,0,0,65,0,0,0,0,65,64,1,0,0,0,0,0,1,1,1,1,1,1,0,0,1,66,0,0,0,66,0,0,0,66,0,0,0,0,66,65,1,0,2,(h1.x),0,2,1,1,1,66,0,0,0,0,66,0,0,0,66,66,0,65,67,67,0,67], z5, [68,1,1,1,100002,100002,100002,0,100002], z3, [100002], z2, [100002], z2, [100002,1,1,1,5,5,5,5,5,0,2,(h1.x)], z0, [(h1.y),0,0,0,1,(h1.y - 1),0,1,(h1.y - 1),67,67,67,0,7,1,67,67,70,0,70], z15, [72,0,0,0,72,0,0,0,72,0,0,0,0,72,71,1,0,2,(h1.x),0,2,1,1,2,72,0,0,0,0,72,0,0,0,72,72,0,71,73,73,0,73], z7, [76], z17, [(h1.x)], z8, [76], z18, [(h2.x)], z30, [76], z21, [(h0.x)], z30, [76], z1, [77,0,0,0,0,77,0,0,0,77,77,0,76,79,79,0,79], z4, [79,79,79,79], z57, [(h2.x),0,2,1,1,1,80,0,0,0,0,80,0,0,0,80,80,0,79,81,81,0,81], z5, [82,1,1,1,100003,100003,100003,0,100003], z3, [100003], z2, [100003], z2, [100003,1,1,1,5,5,5,5,5,0,2,(h2.x)], z0, [(h2.y),0,0,0,1,(h2.y - 1),0,1,(h2.y - 1),81,81,81,0,7,0,81,81,81,84,0,84], z29, [85,0,85], z15, [87,0,0,0,87,0,0,0,87,0,0,0,0,87,86,1,0,2,(h2.x),0,2,1,1,2,87,0,0,0,0,87,0,0,0,87,87,0,86,88,88,0,88], z7, [91], z18, [(h2.x)], z8, [91,3,3,1,1,1,27,27,27,0,27,0,27,0,2,(h0.x)], z30, [91], z1, [92,0,0,0,0,92,0,0,0,92,92,0,91,94,94,0,94], z4, [94,94,94,94,9,93,0,0,0,0,93,0,0,0,93,93,0,92,94,94,94,94,9,93], z22, [9,0,2,9,93], z22, [9,0,2,0,95,0,95,95,95,0,47,0,47,0,47,47,60,47,47,1,0]]) [93, 94, 95, 96, 32, 2] (fun N t ω => ⟨L.e0 + 5, [⟨ω 240 + (ω 224 + (ω 208 + (N + 301 + 53))) + 12, (h0.s), (h0.t), (apS (h0.y - 1)), (ω 242), h0.x, h0.y - 1⟩, ⟨ω 784 + (ω 768 + (ω 752 + (ω 528 + (ω 512 + (ω 496 + (ω 240 + (ω 224 + (ω 208 + (N + 301 + 53))) + 20))) + 16))) + 12, (h2.s), (h2.t), (apS (h2.y - 1)), (ω 786), h2.x, h2.y - 1⟩], 0, (ω 784 + (ω 768 + (ω 752 + (ω 528 + (ω 512 + (ω 496 + (ω 240 + (ω 224 + (ω 208 + (N + 301 + 53))) + 20))) + 16))) + 15), (ω 785 + (ω 769 + (ω 753 + (ω 529 + (ω 513 + (ω 497 + (ω 241 + (ω 225 + (ω 209 + (t + 2595 + 57) + 2) + 1) + 47) + 2) + 1) + 35) + 2) + 1) + 28)⟩) [(CvOk (apS (h2.y - 1)) false), (CvOk (h2.s) true), ((lo (h0.x)) ≠ (lo (h2.x))), (LwOk (h0.s) (h0.x)), ((lo (h2.x)) = (lo (h2.x))), (LwOk (h2.s) (h2.x)), (CvOk (lo (h2.x)) true), (LwOk (h2.s) (h2.x)), ((apS (h2.y - 1)) ≠ (⟨#[]⟩ : Str)), (DcOk (apB (h2.y - 1)) (h2.y - 1)), (ApOk (Int.ofNat (h2.y) - 1) (h2.y - 1)), (NuOk (h2.c) (h2.y)), ((lo (h2.x)) = (lo (h2.x))), (LwOk (h2.s) (h2.x)), (CvOk (lo (h2.x)) true), (LwOk (h2.s) (h2.x)), ((lo (h0.x)) ≠ (lo (h1.x))), (LwOk (h0.s) (h0.x)), ((lo (h2.x)) ≠ (lo (h1.x))), (LwOk (h2.s) (h2.x)), ((lo (h1.x)) = (lo (h1.x))), (LwOk (h1.s) (h1.x)), (CvOk (lo (h1.x)) true), (LwOk (h1.s) (h1.x)), ((apS (h1.y - 1)) = (⟨#[]⟩ : Str)), (DcOk (apB (h1.y - 1)) (h1.y - 1)), (ApOk (Int.ofNat (h1.y) - 1) (h1.y - 1)), (NuOk (h1.c) (h1.y)), ((lo (h1.x)) = (lo (h1.x))), (LwOk (h1.s) (h1.x)), (CvOk (lo (h1.x)) true), (LwOk (h1.s) (h1.x)), (CvOk (apS (h0.y - 1)) false), (CvOk (h0.s) true), ((lo (h2.x)) ≠ (lo (h0.x))), (LwOk (h2.s) (h2.x)), ((lo (h1.x)) ≠ (lo (h0.x))), (LwOk (h1.s) (h1.x)), ((lo (h0.x)) = (lo (h0.x))), (LwOk (h0.s) (h0.x)), (CvOk (lo (h0.x)) true), (LwOk (h0.s) (h0.x)), ((apS (h0.y - 1)) ≠ (⟨#[]⟩ : Str)), (DcOk (apB (h0.y - 1)) (h0.y - 1)), (ApOk (Int.ofNat (h0.y) - 1) (h0.y - 1)), (NuOk (h0.c) (h0.y)), ((lo (h0.x)) = (lo (h0.x))), (LwOk (h0.s) (h0.x)), (CvOk (lo (h0.x)) true), (LwOk (h0.s) (h0.x)), (¬ ((3) < (L.room))), ((lo (h2.x)) ≠ (lo (x0))), (LwOk (h2.s) (h2.x)), ((lo (h1.x)) ≠ (lo (x0))), (LwOk (h1.s) (h1.x)), ((lo (h0.x)) ≠ (lo (x0))), (LwOk (h0.s) (h0.x)), (CvOk (lo (x0)) true), (LwOk (lo (x0)) (x0))] := by
  cases b1 <;> exact by kernel_rfl
theorem hrG3f (L : Loc) (pl : List PE) (x0 : Nat) (h0 h1 h2 : HE) (w : World) (b1 b2 : Bool) (cd : Code) (bl : List (Code × Pos)) (pa : Option Value) (p : Pos) (N t : Nat) (ω : Nat → Nat) : HrQ w b1 b2 cd bl pa p N t ω (Lw L x0) [h0, h1, h2] pl (fl [z53, [(x0)], z55, [(h0.x)], z51, [(h1.x),8,0,7,0,0,7,0,7,0,7,7,13,7,7,7], z39, [0,2,(h2.x)], z78, [(h0.x)], z56, [(h0.x)], z0, [(h0.y),0,0,0,1,(h0.y - 1),0,1,(h0.y - 1),51,51,51,0,7,0,51,51,51,54,0,54], z29, [55,0,55], z15, [57,0,0,0,57,0,0,0,57,0,0,0,0,57,56,1,0,2,(h0.x),0,2,1,1,2,57,0,0,0,0,57,0,0,0,57,57,0,56,58,58,0,58], z7, [61], z19, [(h0.x)], z8, [61], z17, [(h1.x)], z30, [61], z18, [(h2.x)], z30, [61], z1, [62,0,0,0,0,62,0,0,0,62,62,0,61,64,64,0,64], z4, [64,64,64,64,9,63,0,0,0,0,63,0,0,0,63,63,0,62,64,64,64,64,9,63,0,0,0,63,0,0,0,63,0,0,0,0,63,62,9,0,2,9,63,0,0,0,63,0,0,0,63,0,0,0,0,63,62,9,0,2,0,65,0,65,65,65,0,17,0,17,0,17,17,30,17,17,61,61,0,0,61,61,64,0,0,0,0,0,64], z16, [65,0,0,0,65,0,0,0,65,0,0,0,0,65,64,1,0,0,0,0,0,1,1,1,1,1,1,0,0,1,66,0,0,0,66,0,0,0,66,0,0,0,0,66,65,1,0,2,(h1.x),0,2,1,1,1,66,0,0,0,0,66,0,0,0,66,66,0,65,67,67,0,67], z5, [68,1,1,1,100002,100002,100002,0,100002], z3, [100002], z2, [100002], z2, [100002,1,1,1,5,5,5,5,5,0,2,(h1.x)], z0, [(h1.y),0,0,0,1,(h1.y - 1),0,1,(h1.y - 1),67,67,67,0,7,1,67,67,70,0,70], z15, [72,0,0,0,72,0,0,0,72,0,0,0,0,72,71,1,0,2,(h1.x),0,2,1,1,2,72,0,0,0,0,72,0,0,0,72,72,0,71,73,73,0,73], z7, [76], z17, [(h1.x)], z8, [76], z18, [(h2.x)], z30, [76], z21, [(h0.x)], z30, [76], z1, [77,0,0,0,0,77,0,0,0,77,77,0,76,79,79,0,79], z4, [79,79,79,79], z57, [(h2.x),0,2,1,1,1,80,0,0,0,0,80,0,0,0,80,80,0,79,81,81,0,81], z5, [82,1,1,1,100003,100003,100003,0,100003], z3, [100003], z2, [100003], z2, [100003,1,1,1,5,5,5,5,5,0,2,(h2.x)], z0, [(h2.y),0,0,0,1,(h2.y - 1),0,1,(h2.y - 1),81,81,81,0,7,1,81,81,84,0,84], z15, [86,0,0,0,86,0,0,0,86,0,0,0,0,86,85,1,0,2,(h2.x),0,2,1,1,2,86,0,0,0,0,86,0,0,0,86,86,0,85,87,87,0,87], z7, [90], z18, [(h2.x)], z8, [90,3,3,1,1,1,26,26,26,0,26,0,26,0,2,(h0.x)], z30, [90], z1, [91,0,0,0,0,91,0,0,0,91,91,0,90,93,93,0,93], z4, [93,93,93,93,0,45,0,45,0,45,45,58,45,45,1,0]]) [91, 92, 93, 94, 30] (fun N t ω => ⟨L.e0 + 4, [⟨ω 240 + (ω 224 + (ω 208 + (N + 301 + 53))) + 12, (h0.s), (h0.t), (apS (h0.y - 1)), (ω 242), h0.x, h0.y - 1⟩], 0, (ω 784 + (ω 768 + (ω 752 + (ω 528 + (ω 512 + (ω 496 + (ω 240 + (ω 224 + (ω 208 + (N + 301 + 53))) + 20))) + 16))) + 11), (ω 785 + (ω 769 + (ω 753 + (ω 529 + (ω 513 + (ω 497 + (ω 241 + (ω 225 + (ω 209 + (t + 2595 + 57) + 2) + 1) + 47) + 2) + 1) + 35) + 2) + 1) + 16)⟩) [((lo (h0.x)) ≠ (lo (h2.x))), (LwOk (h0.s) (h0.x)), ((lo (h2.x)) = (lo (h2.x))), (LwOk (h2.s) (h2.x)), (CvOk (lo (h2.x)) true), (LwOk (h2.s) (h2.x)), ((apS (h2.y - 1)) = (⟨#[]⟩ : Str)), (DcOk (apB (h2.y - 1)) (h2.y - 1)), (ApOk (Int.ofNat (h2.y) - 1) (h2.y - 1)), (NuOk (h2.c) (h2.y)), ((lo (h2.x)) = (lo (h2.x))), (LwOk (h2.s) (h2.x)), (CvOk (lo (h2.x)) true), (LwOk (h2.s) (h2.x)), ((lo (h0.x)) ≠ (lo (h1.x))), (LwOk (h0.s) (h0.x)), ((lo (h2.x)) ≠ (lo (h1.x))), (LwOk (h2.s) (h2.x)), ((lo (h1.x)) = (lo (h1.x))), (LwOk (h1.s) (h1.x)), (CvOk (lo (h1.x)) true), (LwOk (h1.s) (h1.x)), ((apS (h1.y - 1)) = (⟨#[]⟩ : Str)), (DcOk (apB (h1.y - 1)) (h1.y - 1)), (ApOk (Int.ofNat (h1.y) - 1) (h1.y - 1)), (NuOk (h1.c) (h1.y)), ((lo (h1.x)) = (lo (h1.x))), (LwOk (h1.s) (h1.x)), (CvOk (lo (h1.x)) true), (LwOk (h1.s) (h1.x)), (CvOk (apS (h0.y - 1)) false), (CvOk (h0.s) true), ((lo (h2.x)) ≠ (lo (h0.x))), (LwOk (h2.s) (h2.x)), ((lo (h1.x)) ≠ (lo (h0.x))), (LwOk (h1.s) (h1.x)), ((lo (h0.x)) = (lo (h0.x))), (LwOk (h0.s) (h0.x)), (CvOk (lo (h0.x)) true), (LwOk (h0.s) (h0.x)), ((apS (h0.y - 1)) ≠ (⟨#[]⟩ : Str)), (DcOk (apB (h0.y - 1)) (h0.y - 1)), (ApOk (Int.ofNat (h0.y) - 1) (h0.y - 1)), (NuOk (h0.c) (h0.y)), ((lo (h0.x)) = (lo (h0.x))), (LwOk (h0.s) (h0.x)), (CvOk (lo (h0.x)) true), (LwOk (h0.s) (h0.x)), (¬ ((3) < (L.room))), ((lo (h2.x)) ≠ (lo (x0))), (LwOk (h2.s) (h2.x)), ((lo (h1.x)) ≠ (lo (x0))), (LwOk (h1.s) (h1.x)), ((lo (h0.x)) ≠ (lo (x0))), (LwOk (h0.s) (h0.x)), (CvOk (lo (x0)) true), (LwOk (lo (x0)) (x0))] := by
  cases b1 <;> exact by kernel_rfl
theorem hrG3g (L : Loc) (pl : List PE) (x0 : Nat) (h0 h1 h2 : HE) (w : World) (b1 b2 : Bool) (cd : Code) (bl : List (Code × Pos)) (pa : Option Value) (p : Pos) (N t : Nat) (ω : Nat → Nat) : HrQ w b1 b2 cd bl pa p N t ω (Lw L x0) [h0, h1, h2] pl (fl [z53, [(x0)], z55, [(h0.x)], z51, [(h1.x),8,0,7,0,0,7,0,7,0,7,7,13,7,7,7], z39, [0,2,(h2.x)], z78, [(h0.x)], z56, [(h0.x)], z0, [(h0.y),0,0,0,1,(h0.y - 1),0,1,(h0.y - 1)], z42, [(h0.x),0,2,1,1,2,56,0,0,0,0,56,0,0,0,56,56,0,55,57,57,0,57], z7, [60], z19, [(h0.x)], z8, [60], z17, [(h1.x)], z30, [60], z18, [(h2.x)], z61, [(h1.x),0,2,1,1,1,64,0,0,0,0,64,0,0,0,64,64,0,63,65,65,0,65], z5, [66,1,1,1,100002,100002,100002,0,100002], z3, [100002], z2, [100002], z2, [100002,1,1,1,5,5,5,5,5,0,2,(h1.x)], z0, [(h1.y),0,0,0,1,(h1.y - 1),0,1,(h1.y - 1),65,65,65,0,7,0,65,65,65,68,0,68], z29, [69,0,69], z15, [71,0,0,0,71,0,0,0,71,0,0,0,0,71,70,1,0,2,(h1.x),0,2,1,1,2,71,0,0,0,0,71,0,0,0,71,71,0,70,72,72,0,72], z7, [75], z17, [(h1.x)], z8, [75], z18, [(h2.x)], z30, [75], z1, [76,0,0,0,0,76,0,0,0,76,76,0,75,78,78,0,78], z4, [78,78,78,78,9,77,0,0,0,0,77,0,0,0,77,77,0,76,78,78,78,78,9,77,0,0,0,77,0,0,0,77,0,0,0,0,77,76,9,0,2,9,77,0,0,0,77,0,0,0,77,0,0,0,0,77,76,9,0,2,0,79,0,79,79,79], z57, [(h2.x),0,2,1,1,1,80,0,0,0,0,80,0,0,0,80,80,0,79,81,81,0,81], z5, [82,1,1,1,100003,100003,100003,0,100003], z3, [100003], z2, [100003], z2, [100003,1,1,1,5,5,5,5,5,0,2,(h2.x)], z0, [(h2.y),0,0,0,1,(h2.y - 1),0,1,(h2.y - 1),81,81,81,0,7,0,81,81,81,84,0,84], z29, [85,0,85], z15, [87,0,0,0,87,0,0,0,87,0,0,0,0,87,86,1,0,2,(h2.x),0,2,1,1,2,87,0,0,0,0,87,0,0,0,87,87,0,86,88,88,0,88], z7, [91], z18, [(h2.x)], z8, [91], z20, [(h1.x)], z30, [91], z1, [92,0,0,0,0,92,0,0,0,92,92,0,91,94,94,0,94], z4, [94,94,94,94,9,93,0,0,0,0,93,0,0,0,93,93,0,92,94,94,94,94,9,93], z22, [9,0,2,9,93], z22, [9,0,2,0,95,0,95,95,95,0,47,0,47,0,47,47,60,47,47,1,0]]) [93, 94, 95, 96, 18, 2] (fun N t ω => ⟨L.e0 + 5, [⟨ω 496 + (ω 480 + (ω 464 + (ω 240 + (ω 224 + (ω 208 + (N + 301 + 53))) + 16))) + 12, (h1.s), (h1.t), (apS (h1.y - 1)), (ω 498), h1.x, h1.y - 1⟩, ⟨ω 752 + (ω 736 + (ω 720 + (ω 496 + (ω 480 + (ω 464 + (ω 240 + (ω 224 + (ω 208 + (N + 301 + 53))) + 16))) + 20))) + 12, (h2.s), (h2.t), (apS (h2.y - 1)), (ω 754), h2.x, h2.y - 1⟩], 0, (ω 752 + (ω 736 + (ω 720 + (ω 496 + (ω 480 + (ω 464 + (ω 240 + (ω 224 + (ω 208 + (N + 301 + 53))) + 16))) + 20))) + 15), (ω 753 + (ω 737 + (ω 721 + (ω 497 + (ω 481 + (ω 465 + (ω 241 + (ω 225 + (ω 209 + (t + 2595 + 57) + 2) + 1) + 35) + 2) + 1) + 44) + 2) + 1) + 28)⟩) [(CvOk (apS (h2.y - 1)) false), (CvOk (h2.s) true), ((lo (h1.x)) ≠ (lo (h2.x))), (LwOk (h1.s) (h1.x)), ((lo (h2.x)) = (lo (h2.x))), (LwOk (h2.s) (h2.x)), (CvOk (lo (h2.x)) true), (LwOk (h2.s) (h2.x)), ((apS (h2.y - 1)) ≠ (⟨#[]⟩ : Str)), (DcOk (apB (h2.y - 1)) (h2.y - 1)), (ApOk (Int.ofNat (h2.y) - 1) (h2.y - 1)), (NuOk (h2.c) (h2.y)), ((lo (h2.x)) = (lo (h2.x))), (LwOk (h2.s) (h2.x)), (CvOk (lo (h2.x)) true), (LwOk (h2.s) (h2.x)), (CvOk (apS (h1.y - 1)) false), (CvOk (h1.s) true), ((lo (h2.x)) ≠ (lo (h1.x))), (LwOk (h2.s) (h2.x)), ((lo (h1.x)) = (lo (h1.x))), (LwOk (h1.s) (h1.x)), (CvOk (lo (h1.x)) true), (LwOk (h1.s) (h1.x)), ((apS (h1.y - 1)) ≠ (⟨#[]⟩ : Str)), (DcOk (apB (h1.y - 1)) (h1.y - 1)), (ApOk (Int.ofNat (h1.y) - 1) (h1.y - 1)), (NuOk (h1.c) (h1.y)), ((lo (h1.x)) = (lo (h1.x))), (LwOk (h1.s) (h1.x)), (CvOk (lo (h1.x)) true), (LwOk (h1.s) (h1.x)), ((lo (h2.x)) ≠ (lo (h0.x))), (LwOk (h2.s) (h2.x)), ((lo (h1.x)) ≠ (lo (h0.x))), (LwOk (h1.s) (h1.x)), ((lo (h0.x)) = (lo (h0.x))), (LwOk (h0.s) (h0.x)), (CvOk (lo (h0.x)) true), (LwOk (h0.s) (h0.x)), ((apS (h0.y - 1)) = (⟨#[]⟩ : Str)), (DcOk (apB (h0.y - 1)) (h0.y - 1)), (ApOk (Int.ofNat (h0.y) - 1) (h0.y - 1)), (NuOk (h0.c) (h0.y)), ((lo (h0.x)) = (lo (h0.x))), (LwOk (h0.s) (h0.x)), (CvOk (lo (h0.x)) true), (LwOk (h0.s) (h0.x)), (¬ ((3) < (L.room))), ((lo (h2.x)) ≠ (lo (x0))), (LwOk (h2.s) (h2.x)), ((lo (h1.x)) ≠ (lo (x0))), (LwOk (h1.s) (h1.x)), ((lo (h0.x)) ≠ (lo (x0))), (LwOk (h0.s) (h0.x)), (CvOk (lo (x0)) true), (LwOk (lo (x0)) (x0))] := by
  cases b1 <;> exact by kernel_rfl
theorem hrG3h (L : Loc) (pl : List PE) (x0 : Nat) (h0 h1 h2 : HE) (w : World) (b1 b2 : Bool) (cd : Code) (bl : List (Code × Pos)) (pa : Option Value) (p : Pos) (N t : Nat) (ω : Nat → Nat) : HrQ w b1 b2 cd bl pa p N t ω (Lw L x0) [h0, h1, h2] pl (fl [z53, [(x0)], z55, [(h0.x)], z51, [(h1.x),8,0,7,0,0,7,0,7,0,7,7,13,7,7,7], z39, [0,2,(h2.x)], z78, [(h0.x)], z56, [(h0.x)], z0, [(h0.y),0,0,0,1,(h0.y - 1),0,1,(h0.y - 1)], z42, [(h0.x),0,2,1,1,2,56,0,0,0,0,56,0,0,0,56,56,0,55,57,57,0,57], z7, [60], z19, [(h0.x)], z8, [60], z17, [(h1.x)], z30, [60], z18, [(h2.x)], z61, [(h1.x),0,2,1,1,1,64,0,0,0,0,64,0,0,0,64,64,0,63,65,65,0,65], z5, [66,1,1,1,100002,100002,100002,0,100002], z3, [100002], z2, [100002], z2, [100002,1,1,1,5,5,5,5,5,0,2,(h1.x)], z0, [(h1.y),0,0,0,1,(h1.y - 1),0,1,(h1.y - 1),65,65,65,0,7,0,65,65,65,68,0,68], z29, [69,0,69], z15, [71,0,0,0,71,0,0,0,71,0,0,0,0,71,70,1,0,2,(h1.x),0,2,1,1,2,71,0,0,0,0,71,0,0,0,71,71,0,70,72,72,0,72], z7, [75], z17, [(h1.x)], z8, [75], z18, [(h2.x)], z30, [75], z1, [76,0,0,0,0,76,0,0,0,76,76,0,75,78,78,0,78], z4, [78,78,78,78,9,77,0,0,0,0,77,0,0,0,77,77,0,76,78,78,78,78,9,77,0,0,0,77,0,0,0,77,0,0,0,0,77,76,9,0,2,9,77,0,0,0,77,0,0,0,77,0,0,0,0,77,76,9,0,2,0,79,0,79,79,79], z57, [(h2.x),0,2,1,1,1,80,0,0,0,0,80,0,0,0,80,80,0,79,81,81,0,81], z5, [82,1,1,1,100003,100003,100003,0,100003], z3, [100003], z2, [100003], z2, [100003,1,1,1,5,5,5,5,5,0,2,(h2.x)], z0, [(h2.y),0,0,0,1,(h2.y - 1),0,1,(h2.y - 1),81,81,81,0,7,1,81,81,84,0,84], z15, [86,0,0,0,86,0,0,0,86,0,0,0,0,86,85,1,0,2,(h2.x),0,2,1,1,2,86,0,0,0,0,86,0,0,0,86,86,0,85,87,87,0,87], z7, [90], z18, [(h2.x)], z8, [90], z21, [(h1.x)], z30, [90], z1, [91,0,0,0,0,91,0,0,0,91,91,0,90,93,93,0,93], z4, [93,93,93,93,0,45,0,45,0,45,45,58,45,45,1,0]]) [91, 92, 93, 94, 16] (fun N t ω => ⟨L.e0 + 4, [⟨ω 496 + (ω 480 + (ω 464 + (ω 240 + (ω 224 + (ω 208 + (N + 301 + 53))) + 16))) + 12, (h1.s), (h1.t), (apS (h1.y - 1)), (ω 498), h1.x, h1.y - 1⟩], 0, (ω 752 + (ω 736 + (ω 720 + (ω 496 + (ω 480 + (ω 464 + (ω 240 + (ω 224 + (ω 208 + (N + 301 + 53))) + 16))) + 20))) + 11), (ω 753 + (ω 737 + (ω 721 + (ω 497 + (ω 481 + (ω 465 + (ω 241 + (ω 225 + (ω 209 + (t + 2595 + 57) + 2) + 1) + 35) + 2) + 1) + 44) + 2) + 1) + 16)⟩) [((lo (h1.x)) ≠ (lo (h2.x))), (LwOk (h1.s) (h1.x)), ((lo (h2.x)) = (lo (h2.x))), (LwOk (h2.s) (h2.x)), (CvOk (lo (h2.x)) true), (LwOk (h2.s) (h2.x)), ((apS (h2.y - 1)) = (⟨#[]⟩ : Str)), (DcOk (apB (h2.y - 1)) (h2.y - 1)), (ApOk (Int.ofNat (h2.y) - 1) (h2.y - 1)), (NuOk (h2.c) (h2.y)), ((lo (h2.x)) = (lo (h2.x))), (LwOk (h2.s) (h2.x)), (CvOk (lo (h2.x)) true), (LwOk (h2.s) (h2.x)), (CvOk (apS (h1.y - 1)) false), (CvOk (h1.s) true), ((lo (h2.x)) ≠ (lo (h1.x))), (LwOk (h2.s) (h2.x)), ((lo (h1.x)) = (lo (h1.x))), (LwOk (h1.s) (h1.x)), (CvOk (lo (h1.x)) true), (LwOk (h1.s) (h1.x)), ((apS (h1.y - 1)) ≠ (⟨#[]⟩ : Str)), (DcOk (apB (h1.y - 1)) (h1.y - 1)), (ApOk (Int.ofNat (h1.y) - 1) (h1.y - 1)), (NuOk (h1.c) (h1.y)), ((lo (h1.x)) = (lo (h1.x))), (LwOk (h1.s) (h1.x)), (CvOk (lo (h1.x)) true), (LwOk (h1.s) (h1.x)), ((lo (h2.x)) ≠ (lo (h0.x))), (LwOk (h2.s) (h2.x)), ((lo (h1.x)) ≠ (lo (h0.x))), (LwOk (h1.s) (h1.x)), ((lo (h0.x)) = (lo (h0.x))), (LwOk (h0.s) (h0.x)), (CvOk (lo (h0.x)) true), (LwOk (h0.s) (h0.x)), ((apS (h0.y - 1)) = (⟨#[]⟩ : Str)), (DcOk (apB (h0.y - 1)) (h0.y - 1)), (ApOk (Int.ofNat (h0.y) - 1) (h0.y - 1)), (NuOk (h0.c) (h0.y)), ((lo (h0.x)) = (lo (h0.x))), (LwOk (h0.s) (h0.x)), (CvOk (lo (h0.x)) true), (LwOk (h0.s) (h0.x)), (¬ ((3) < (L.room))), ((lo (h2.x)) ≠ (lo (x0))), (LwOk (h2.s) (h2.x)), ((lo (h1.x)) ≠ (lo (x0))), (LwOk (h1.s) (h1.x)), ((lo (h0.x)) ≠ (lo (x0))), (LwOk (h0.s) (h0.x)), (CvOk (lo (x0)) true), (LwOk (lo (x0)) (x0))] := by
  cases b1 <;> exact by kernel_rfl
theorem hrG3i (L : Loc) (pl : List PE) (x0 : Nat) (h0 h1 h2 : HE) (w : World) (b1 b2 : Bool) (cd : Code) (bl : List (Code × Pos)) (pa : Option Value) (p : Pos) (N t : Nat) (ω : Nat → Nat) : HrQ w b1 b2 cd bl pa p N t ω (Lw L x0) [h0, h1, h2] pl (fl [z53, [(x0)], z55, [(h0.x)], z51, [(h1.x),8,0,7,0,0,7,0,7,0,7,7,13,7,7,7], z39, [0,2,(h2.x)], z78, [(h0.x)], z56, [(h0.x)], z0, [(h0.y),0,0,0,1,(h0.y - 1),0,1,(h0.y - 1)], z42, [(h0.x),0,2,1,1,2,56,0,0,0,0,56,0,0,0,56,56,0,55,57,57,0,57], z7, [60], z19, [(h0.x)], z8, [60], z17, [(h1.x)], z30, [60], z18, [(h2.x)], z61, [(h1.x),0,2,1,1,1,64,0,0,0,0,64,0,0,0,64,64,0,63,65,65,0,65], z5, [66,1,1,1,100002,100002,100002,0,100002], z3, [100002], z2, [100002], z2, [100002,1,1,1,5,5,5,5,5,0,2,(h1.x)], z0, [(h1.y),0,0,0,1,(h1.y - 1),0,1,(h1.y - 1),65,65,65,0,7,1,65,65,68,0,68], z15, [70,0,0,0,70,0,0,0,70,0,0,0,0,70,69,1,0,2,(h1.x),0,2,1,1,2,70,0,0,0,0,70,0,0,0,70,70,0,69,71,71,0,71], z7, [74], z17, [(h1.x)], z8, [74], z18, [(h2.x)], z30, [74], z1, [75,0,0,0,0,75,0,0,0,75,75,0,74,77,77,0,77], z4, [77,77,77,77,0,29,0,29,0,29,29,42,29,29,73,73,0,0,73,73,76,0,0,0,0,0,76], z16, [77,0,0,0,77,0,0,0,77,0,0,0,0,77,76,1,0,0,0,0,0,1,1,1,1,1,1,0,0,1,78,0,0,0,78,0,0,0,78,0,0,0,0,78,77,1,0,2,(h2.x),0,2,1,1,1,78,0,0,0,0,78,0,0,0,78,78,0,77,79,79,0,79], z5, [80,1,1,1,100003,100003,100003,0,100003], z3, [100003], z2, [100003], z2, [100003,1,1,1,5,5,5,5,5,0,2,(h2.x)], z0, [(h2.y),0,0,0,1,(h2.y - 1),0,1,(h2.y - 1),79,79,79,0,7,0,79,79,79,82,0,82], z29, [83,0,83], z15, [85,0,0,0,85,0,0,0,85,0,0,0,0,85,84,1,0,2,(h2.x),0,2,1,1,2,85,0,0,0,0,85,0,0,0,85,85,0,84,86,86,0,86], z7, [89], z18, [(h2.x)], z8, [89], z1, [90,0,0,0,0,90,0,0,0,90,90,0,89,92,92,0,92], z4, [92,92,92,92,9,91,0,0,0,0,91,0,0,0,91,91,0,90,92,92,92,92,9,91,0,0,0,91,0,0,0,91,0,0,0,0,91,90,9,0,2,9,91,0,0,0,91,0,0,0,91,0,0,0,0,91,90,9,0,2,0,93,0,93,93,93,0,45,0,45,0,45,45,58,45,45,1,0]]) [91, 92, 93, 94, 2] (fun N t ω => ⟨L.e0 + 4, [⟨ω 720 + (ω 704 + (ω 688 + (ω 496 + (ω 480 + (ω 464 + (ω 240 + (ω 224 + (ω 208 + (N + 301 + 53))) + 16))) + 16))) + 12, (h2.s), (h2.t), (apS (h2.y - 1)), (ω 722), h2.x, h2.y - 1⟩], 0, (ω 720 + (ω 704 + (ω 688 + (ω 496 + (ω 480 + (ω 464 + (ω 240 + (ω 224 + (ω 208 + (N + 301 + 53))) + 16))) + 16))) + 15), (ω 721 + (ω 705 + (ω 689 + (ω 497 + (ω 481 + (ω 465 + (ω 241 + (ω 225 + (ω 209 + (t + 2595 + 57) + 2) + 1) + 35) + 2) + 1) + 32) + 2) + 1) + 25)⟩) [(CvOk (apS (h2.y - 1)) false), (CvOk (h2.s) true), ((lo (h2.x)) = (lo (h2.x))), (LwOk (h2.s) (h2.x)), (CvOk (lo (h2.x)) true), (LwOk (h2.s) (h2.x)), ((apS (h2.y - 1)) ≠ (⟨#[]⟩ : Str)), (DcOk (apB (h2.y - 1)) (h2.y - 1)), (ApOk (Int.ofNat (h2.y) - 1) (h2.y - 1)), (NuOk (h2.c) (h2.y)), ((lo (h2.x)) = (lo (h2.x))), (LwOk (h2.s) (h2.x)), (CvOk (lo (h2.x)) true), (LwOk (h2.s) (h2.x)), ((lo (h2.x)) ≠ (lo (h1.x))), (LwOk (h2.s) (h2.x)), ((lo (h1.x)) = (lo (h1.x))), (LwOk (h1.s) (h1.x)), (CvOk (lo (h1.x)) true), (LwOk (h1.s) (h1.x)), ((apS (h1.y - 1)) = (⟨#[]⟩ : Str)), (DcOk (apB (h1.y - 1)) (h1.y - 1)), (ApOk (Int.ofNat (h1.y) - 1) (h1.y - 1)), (NuOk (h1.c) (h1.y)), ((lo (h1.x)) = (lo (h1.x))), (LwOk (h1.s) (h1.x)), (CvOk (lo (h1.x)) true), (LwOk (h1.s) (h1.x)), ((lo (h2.x)) ≠ (lo (h0.x))), (LwOk (h2.s) (h2.x)), ((lo (h1.x)) ≠ (lo (h0.x))), (LwOk (h1.s) (h1.x)), ((lo (h0.x)) = (lo (h0.x))), (LwOk (h0.s) (h0.x)), (CvOk (lo (h0.x)) true), (LwOk (h0.s) (h0.x)), ((apS (h0.y - 1)) = (⟨#[]⟩ : Str)), (DcOk (apB (h0.y - 1)) (h0.y - 1)), (ApOk (Int.ofNat (h0.y) - 1) (h0.y - 1)), (NuOk (h0.c) (h0.y)), ((lo (h0.x)) = (lo (h0.x))), (LwOk (h0.s) (h0.x)), (CvOk (lo (h0.x)) true), (LwOk (h0.s) (h0.x)), (¬ ((3) < (L.room))), ((lo (h2.x)) ≠ (lo (x0))), (LwOk (h2.s) (h2.x)), ((lo (h1.x)) ≠ (lo (x0))), (LwOk (h1.s) (h1.x)), ((lo (h0.x)) ≠ (lo (x0))), (LwOk (h0.s) (h0.x)), (CvOk (lo (x0)) true), (LwOk (lo (x0)) (x0))] := by
  cases b1 <;> exact by kernel_rfl
theorem hrG3j (L : Loc) (pl : List PE) (x0 : Nat) (h0 h1 h2 : HE) (w : World) (b1 b2 : Bool) (cd : Code) (bl : List (Code × Pos)) (pa : Option Value) (p : Pos) (N t : Nat) (ω : Nat → Nat) : HrQ w b1 b2 cd bl pa p N t ω (Lw L x0) [h0, h1, h2] pl (fl [z53, [(x0)], z55, [(h0.x)], z51, [(h1.x),8,0,7,0,0,7,0,7,0,7,7,13,7,7,7], z39, [0,2,(h2.x)], z78, [(h0.x)], z56, [(h0.x)], z0, [(h0.y),0,0,0,1,(h0.y - 1),0,1,(h0.y - 1)], z42, [(h0.x),0,2,1,1,2,56,0,0,0,0,56,0,0,0,56,56,0,55,57,57,0,57], z7, [60], z19, [(h0.x)], z8, [60], z17, [(h1.x)], z30, [60], z18, [(h2.x)], z61, [(h1.x),0,2,1,1,1,64,0,0,0,0,64,0,0,0,64,64,0,63,65,65,0,65], z5, [66,1,1,1,100002,100002,100002,0,100002], z3, [100002], z2, [100002], z2, [100002,1,1,1,5,5,5,5,5,0,2,(h1.x)], z0, [(h1.y),0,0,0,1,(h1.y - 1),0,1,(h1.y - 1),65,65,65,0,7,1,65,65,68,0,68], z15, [70,0,0,0,70,0,0,0,70,0,0,0,0,70,69,1,0,2,(h1.x),0,2,1,1,2,70,0,0,0,0,70,0,0,0,70,70,0,69,71,71,0,71], z7, [74], z17, [(h1.x)], z8, [74], z18, [(h2.x)], z30, [74], z1, [75,0,0,0,0,75,0,0,0,75,75,0,74,77,77,0,77], z4, [77,77,77,77,0,29,0,29,0,29,29,42,29,29,73,73,0,0,73,73,76,0,0,0,0,0,76], z16, [77,0,0,0,77,0,0,0,77,0,0,0,0,77,76,1,0,0,0,0,0,1,1,1,1,1,1,0,0,1,78,0,0,0,78,0,0,0,78,0,0,0,0,78,77,1,0,2,(h2.x),0,2,1,1,1,78,0,0,0,0,78,0,0,0,78,78,0,77,79,79,0,79], z5, [80,1,1,1,100003,100003,100003,0,100003], z3, [100003], z2, [100003], z2, [100003,1,1,1,5,5,5,5,5,0,2,(h2.x)], z0, [(h2.y),0,0,0,1,(h2.y - 1),0,1,(h2.y - 1),79,79,79,0,7,1,79,79,82,0,82], z15, [84,0,0,0,84,0,0,0,84,0,0,0,0,84,83,1,0,2,(h2.x),0,2,1,1,2,84,0,0,0,0,84,0,0,0,84,84,0,83,85,85,0,85], z7, [88], z18, [(h2.x)], z8, [88], z1, [89,0,0,0,0,89,0,0,0,89,89,0,88,91,91,0,91], z4, [91,91,91,91,0,43,0,43,0,43,43,56,43,43,1,0]]) [89, 90, 91, 92] (fun N t ω => ⟨L.e0 + 3, [], 0, (ω 720 + (ω 704 + (ω 688 + (ω 496 + (ω 480 + (ω 464 + (ω 240 + (ω 224 + (ω 208 + (N + 301 + 53))) + 16))) + 16))) + 11), (ω 721 + (ω 705 + (ω 689 + (ω 497 + (ω 481 + (ω 465 + (ω 241 + (ω 225 + (ω 209 + (t + 2595 + 57) + 2) + 1) + 35) + 2) + 1) + 32) + 2) + 1) + 13)⟩) [((lo (h2.x)) = (lo (h2.x))), (LwOk (h2.s) (h2.x)), (CvOk (lo (h2.x)) true), (LwOk (h2.s) (h2.x)), ((apS (h2.y - 1)) = (⟨#[]⟩ : Str)), (DcOk (apB (h2.y - 1)) (h2.y - 1)), (ApOk (Int.ofNat (h2.y) - 1) (h2.y - 1)), (NuOk (h2.c) (h2.y)), ((lo (h2.x)) = (lo (h2.x))), (LwOk (h2.s) (h2.x)), (CvOk (lo (h2.x)) true), (LwOk (h2.s) (h2.x)), ((lo (h2.x)) ≠ (lo (h1.x))), (LwOk (h2.s) (h2.x)), ((lo (h1.x)) = (lo (h1.x))), (LwOk (h1.s) (h1.x)), (CvOk (lo (h1.x)) true), (LwOk (h1.s) (h1.x)), ((apS (h1.y - 1)) = (⟨#[]⟩ : Str)), (DcOk (apB (h1.y - 1)) (h1.y - 1)), (ApOk (Int.ofNat (h1.y) - 1) (h1.y - 1)), (NuOk (h1.c) (h1.y)), ((lo (h1.x)) = (lo (h1.x))), (LwOk (h1.s) (h1.x)), (CvOk (lo (h1.x)) true), (LwOk (h1.s) (h1.x)), ((lo (h2.x)) ≠ (lo (h0.x))), (LwOk (h2.s) (h2.x)), ((lo (h1.x)) ≠ (lo (h0.x))), (LwOk (h1.s) (h1.x)), ((lo (h0.x)) = (lo (h0.x))), (LwOk (h0.s) (h0.x)), (CvOk (lo (h0.x)) true), (LwOk (h0.s) (h0.x)), ((apS (h0.y - 1)) = (⟨#[]⟩ : Str)), (DcOk (apB (h0.y - 1)) (h0.y - 1)), (ApOk (Int.ofNat (h0.y) - 1) (h0.y - 1)), (NuOk (h0.c) (h0.y)), ((lo (h0.x)) = (lo (h0.x))), (LwOk (h0.s) (h0.x)), (CvOk (lo (h0.x)) true), (LwOk (h0.s) (h0.x)), (¬ ((3) < (L.room))), ((lo (h2.x)) ≠ (lo (x0))), (LwOk (h2.s) (h2.x)), ((lo (h1.x)) ≠ (lo (x0))), (LwOk (h1.s) (h1.x)), ((lo (h0.x)) ≠ (lo (x0))), (LwOk (h0.s) (h0.x)), (CvOk (lo (x0)) true), (LwOk (lo (x0)) (x0))] := by
  cases b1 <;> exact by kernel_rfl
theorem hrG0 (L : Loc) (pl : List PE) (x0 : Nat) (w : World) (b1 b2 : Bool) (cd : Code) (bl : List (Code × Pos)) (pa : Option Value) (p : Pos) (N t : Nat) (ω : Nat → Nat) : HrQ w b1 b2 cd bl pa p N t ω (Lw L x0) [] pl (fl [z53, [(x0),0,2,1,1,1,5,0,0,0,0,5,0,0,0,5,5,0,4,6,6,0,6], z5, [7,1,1,1,0,4,5,5,5,0,0,5,8,0,0,0,8,0,0,0,8,0,0,0,0,8,7], z6, [9,0,0,0,0,9,0,0,0,9,9,0,8,10,10,0,10], z7, [13,3,3,1,3,3,0,0,4,0,4,0,4,11,0,3,1,11,14,0,0,0,14,0,0,0,14,0,0,0,0,14,13,0,0,11,0,1,(x0),0,1,(x0),0,1,(x0)], z12, [15,0,0,0,15,0,0,0,15,0,0,0,0,15,14,1,0,0,0,0,0,1,1,1,1,1,1,0,0,1,16,0,0,0,16,0,0,0,16,0,0,0,0,16,15,1,0,2,(x0),0,2,1,1,1,16,0,0,0,0,16,0,0,0,16,16,0,15,17,17,0,17], z5, [18,1,1,1,0,4,5,5,5,5,19,0,0,0,0,19,0,0,0,19,19,0,18,20,20,20,20,5,19,0,0,0,19,0,0,0,19,0,0,0,0,19,18,5,0,2,5,19,0,0,0,19,0,0,0,19,0,0,0,0,19,18,5,0,2,0,21,0,21,21,21,6]]) [17, 18, 19, 20, 0] (fun N t ω => ⟨L.e0 + 1, [⟨ω 80 + (ω 64 + (ω 48 + (N + 301 + 12))) + 8, (apS (x0)), (ω 82), (⟨#[66]⟩ : Str), (ω 81 + (ω 65 + (ω 49 + (t + 2595 + 18)) + 1)), x0, 1⟩], 0, (ω 80 + (ω 64 + (ω 48 + (N + 301 + 12))) + 9), (ω 81 + (ω 65 + (ω 49 + (t + 2595 + 18)) + 1) + 24)⟩) [(CvOk (⟨#[66]⟩ : Str) false), (CvOk (apS (x0)) true), (CvOk (lo (x0)) true), (LwOk (apS (x0)) (x0)), (DcOk (apB (x0)) (x0)), (ApOk (Int.ofNat (x0)) (x0)), (NuOk (lo (x0)) (x0)), ((0) < (L.room)), (CvOk (lo (x0)) true), (LwOk (lo (x0)) (x0))] := by
  cases b1 <;> exact by kernel_rfl
theorem tkG2a (L : Loc) (hd : List HE) (p0 p1 : PE) (w : World) (b1 b2 : Bool) (cd : Code) (bl : List (Code × Pos)) (pa : Option Value) (p : Pos) (N t : Nat) (ω : Nat → Nat) : TkQ w b1 b2 cd bl pa p N t ω L hd [p0, p1] (fl [z67, [0,6,1,14,14,14,12,12,12,0,12,0,12,0,0,15,15,17,17,0,17,0,17,17,17]]) [15, 16, 0] (fun N t ω => ⟨L.e1, 0, ⟨N + 301 + 14, (L.thg), (L.τ 11), (p0.cnt + 1), (t + 2595 + 15)⟩, (N + 301 + 15), (t + 2595 + 16)⟩) [((p0.who) = (L.thg))] ∧
  TkQ w b1 b2 cd bl pa p N t ω L hd [p0, p1] (fl [z67, [0,6,0,0,1,0,1,0,1,1,1,1,1,1,1,14,14,14,14,16,16,16,0,16,0,16,100002,100002,100002,0,100002,0,100002,0,14,0,6,1,14,14,14,12,12,12,0,12,0,12,0,0,15,15,17,17,0,17,0,17,17,17]]) [15, 16, 0] (fun N t ω => ⟨L.e1, 1, ⟨N + 301 + 14, (L.thg), (L.τ 11), (p1.cnt + 1), (t + 2595 + 18)⟩, (N + 301 + 15), (t + 2595 + 19)⟩) [((p1.who) = (L.thg)), (¬ ((p0.who) = (L.thg)))] ∧
  TkQ w b1 b2 cd bl pa p N t ω L hd [p0, p1] (fl [z67, [0,6,0,0,1,0,1,0,1,1,1,1,1,1,1,14,14,14,14,16,16,16,0,16,0,16,100002,100002,100002,0,100002,0,100002,0,14], z25, [16,0,0,14,14,0,14,0,1,0,1,2,0,2,0,2,2,16], z11, [16], z10, [16,2,2,1,3,3,3,20,20,20,20,0,0,21,21,19,19,19,19,21,0,19,10,19,0,23,23,0,23,0,23,23,23]]) [21, 22, 0] (fun N t ω => ⟨L.e1, 0, ⟨N + 301 + 20, (L.thg), (L.τ 11), (p0.cnt + 1), (t + 2595 + 19)⟩, (N + 301 + 21), (t + 2595 + 21)⟩) [(R.IdxL [(p0.cnt), (p1.cnt)] (p0.cnt) 0), (¬ ((p1.cnt) < (p0.cnt))), (¬ ((p1.who) = (L.thg))), (¬ ((p0.who) = (L.thg)))] := by
  cases b1 <;> exact ⟨by kernel_rfl, by kernel_rfl, by kernel_rfl⟩
theorem tkG2b (L : Loc) (hd : List HE) (p0 p1 : PE) (w : World) (b1 b2 : Bool) (cd : Code) (bl : List (Code × Pos)) (pa : Option Value) (p : Pos) (N t : Nat) (ω : Nat → Nat) : TkQ w b1 b2 cd bl pa p N t ω L hd [p0, p1] (fl [z67, [0,6,0,0,1,0,1,0,1,1,1,1,1,1,1,14,14,14,14,16,16,16,0,16,0,16,100002,100002,100002,0,100002,0,100002,0,14], z25, [16,0,0,14,14,0,14,0,1,0,1,2,0,2,0,2,2,16], z11, [16], z28, [16,2,2,1,3,3,3,20,20,20,20,0,0,21,21,19,19,19,19,21,0,19,10,19,1,23,23,0,23,0,23,23,23]]) [21, 22, 0] (fun N t ω => ⟨L.e1, 1, ⟨N + 301 + 20, (L.thg), (L.τ 11), (p1.cnt + 1), (t + 2595 + 19)⟩, (N + 301 + 21), (t + 2595 + 21)⟩) [(R.IdxL [(p0.cnt), (p1.cnt)] (p1.cnt) 1), ((p1.cnt) < (p0.cnt)), (¬ ((p1.who) = (L.thg))), (¬ ((p0.who) = (L.thg)))] := by
  cases b1 <;> exact by kernel_rfl
theorem tkG3a (L : Loc) (hd : List HE) (p0 p1 p2 : PE) (w : World) (b1 b2 : Bool) (cd : Code) (bl : List (Code × Pos)) (pa : Option Value) (p : Pos) (N t : Nat) (ω : Nat → Nat) : TkQ w b1 b2 cd bl pa p N t ω L hd [p0, p1, p2] (fl [z70, [17,0,6,1,17,17,17,15,15,15,0,15,0,15,0,0,18,18,20,20,0,20,0,20,20,20]]) [18, 19, 0] (fun N t ω => ⟨L.e1, 0, ⟨N + 301 + 17, (L.thg), (L.τ 11), (p0.cnt + 1), (t + 2595 + 17)⟩, (N + 301 + 18), (t + 2595 + 18)⟩) [((p0.who) = (L.thg))] ∧
  TkQ w b1 b2 cd bl pa p N t ω L hd [p0, p1, p2] (fl [z70, [17,0,6,0,0,1,0,1,0,1,1,1,1,1,1,1,17,17,17,17,19,19,19,0,19,0,19,100002,100002,100002,0,100002,0,100002,0,17,0,6,1,17,17,17,15,15,15,0,15,0,15,0,0,18,18,20,20,0,20,0,20,20,20]]) [18, 19, 0] (fun N t ω => ⟨L.e1, 1, ⟨N + 301 + 17, (L.thg), (L.τ 11), (p1.cnt + 1), (t + 2595 + 20)⟩, (N + 301 + 18), (t + 2595 + 21)⟩) [((p1.who) = (L.thg)), (¬ ((p0.who) = (L.thg)))] ∧
  TkQ w b1 b2 cd bl pa p N t ω L hd [p0, p1, p2] (fl [z70, [17,0,6,0,0,1,0,1,0,1,1,1,1,1,1,1,17,17,17,17,19,19,19,0,19,0,19,100002,100002,100002,0,100002,0,100002,0,17,0,6,0,0,1,0,1,0,1,1,1,1,1,1,1,17,17,17,17,19,19,19,0,19,0,19,100003,100003,100003,0,100003,0,100003,0,17,0,6,1,17,17,17,15,15,15,0,15,0,15,0,0,18,18,20,20,0,20,0,20,20,20]]) [18, 19, 0] (fun N t ω => ⟨L.e1, 2, ⟨N + 301 + 17, (L.thg), (L.τ 11), (p2.cnt + 1), (t + 2595 + 23)⟩, (N + 301 + 18), (t + 2595 + 24)⟩) [((p2.who) = (L.thg)), (¬ ((p1.who) = (L.thg))), (¬ ((p0.who) = (L.thg)))] := by
  cases b1 <;> exact ⟨by kernel_rfl, by kernel_rfl, by kernel_rfl⟩
theorem tkG3b (L : Loc) (hd : List HE) (p0 p1 p2 : PE) (w : World) (b1 b2 : Bool) (cd : Code) (bl : List (Code × Pos)) (pa : Option Value) (p : Pos) (N t : Nat) (ω : Nat → Nat) : TkQ w b1 b2 cd bl pa p N t ω L hd [p0, p1, p2] (fl [z74, z10, [19], z10, [19,2,2,1,3,3,3,23,23,23,23,0,0,24,24,22,22,22,22,24,0,22,10,22,0,26,26,0,26,0,26,26,26]]) [24, 25, 0] (fun N t ω => ⟨L.e1, 0, ⟨N + 301 + 23, (L.thg), (L.τ 11), (p0.cnt + 1), (t + 2595 + 24)⟩, (N + 301 + 24), (t + 2595 + 26)⟩) [(R.IdxL [(p0.cnt), (p1.cnt), (p2.cnt)] (p0.cnt) 0), (¬ ((p2.cnt) < (p0.cnt))), (¬ ((p1.cnt) < (p0.cnt))), (¬ ((p2.who) = (L.thg))), (¬ ((p1.who) = (L.thg))), (¬ ((p0.who) = (L.thg)))] ∧
  TkQ w b1 b2 cd bl pa p N t ω L hd [p0, p1, p2] (fl [z74, z10, [19], z28, [19,2,2,1,3,3,3,23,23,23,23,0,0,24,24,22,22,22,22,24,0,22,10,22,2,26,26,0,26,0,26,26,26]]) [24, 25, 0] (fun N t ω => ⟨L.e1, 2, ⟨N + 301 + 23, (L.thg), (L.τ 11), (p2.cnt + 1), (t + 2595 + 24)⟩, (N + 301 + 24), (t + 2595 + 26)⟩) [(R.IdxL [(p0.cnt), (p1.cnt), (p2.cnt)] (p2.cnt) 2), ((p2.cnt) < (p0.cnt)), (¬ ((p1.cnt) < (p0.cnt))), (¬ ((p2.who) = (L.thg))), (¬ ((p1.who) = (L.thg))), (¬ ((p0.who) = (L.thg)))] := by
  cases b1 <;> exact ⟨by kernel_rfl, by kernel_rfl⟩
theorem tkG3c (L : Loc) (hd : List HE) (p0 p1 p2 : PE) (w : World) (b1 b2 : Bool) (cd : Code) (bl : List (Code × Pos)) (pa : Option Value) (p : Pos) (N t : Nat) (ω : Nat → Nat) : TkQ w b1 b2 cd bl pa p N t ω L hd [p0, p1, p2] (fl [z74, z28, [19], z10, [19,2,2,1,3,3,3,23,23,23,23,0,0,24,24,22,22,22,22,24,0,22,10,22,1,26,26,0,26,0,26,26,26]]) [24, 25, 0] (fun N t ω => ⟨L.e1, 1, ⟨N + 301 + 23, (L.thg), (L.τ 11), (p1.cnt + 1), (t + 2595 + 24)⟩, (N + 301 + 24), (t + 2595 + 26)⟩) [(R.IdxL [(p0.cnt), (p1.cnt), (p2.cnt)] (p1.cnt) 1), (¬ ((p2.cnt) < (p1.cnt))), ((p1.cnt) < (p0.cnt)), (¬ ((p2.who) = (L.thg))), (¬ ((p1.who) = (L.thg))), (¬ ((p0.who) = (L.thg)))] ∧
  TkQ w b1 b2 cd bl pa p N t ω L hd [p0, p1, p2] (fl [z74, z28, [19], z28, [19,2,2,1,3,3,3,23,23,23,23,0,0,24,24,22,22,22,22,24,0,22,10,22,2,26,26,0,26,0,26,26,26]]) [24, 25, 0] (fun N t ω => ⟨L.e1, 2, ⟨N + 301 + 23, (L.thg), (L.τ 11), (p2.cnt + 1), (t + 2595 + 24)⟩, (N + 301 + 24), (t + 2595 + 26)⟩) [(R.IdxL [(p0.cnt), (p1.cnt), (p2.cnt)] (p2.cnt) 2), ((p2.cnt) < (p1.cnt)), ((p1.cnt) < (p0.cnt)), (¬ ((p2.who) = (L.thg))), (¬ ((p1.who) = (L.thg))), (¬ ((p0.who) = (L.thg)))] := by
  cases b1 <;> exact ⟨by kernel_rfl, by kernel_rfl⟩
theorem tkG4a (L : Loc) (hd : List HE) (p0 p1 p2 p3 : PE) (w : World) (b1 b2 : Bool) (cd : Code) (bl : List (Code × Pos)) (pa : Option Value) (p : Pos) (N t : Nat) (ω : Nat → Nat) : TkQ w b1 b2 cd bl pa p N t ω L hd [p0, p1, p2, p3] (fl [z73, [20,0,6,1,20,20,20,18,18,18,0,18,0,18,0,0,21,21,23,23,0,23,0,23,23,23]]) [21, 22, 0] (fun N t ω => ⟨L.e1, 0, ⟨N + 301 + 20, (L.thg), (L.τ 11), (p0.cnt + 1), (t + 2595 + 19)⟩, (N + 301 + 21), (t + 2595 + 20)⟩) [((p0.who) = (L.thg))] ∧
  TkQ w b1 b2 cd bl pa p N t ω L hd [p0, p1, p2, p3] (fl [z73, [20,0,6,0,0,1,0,1,0,1,1,1,1,1,1,1,20,20,20,20,22,22,22,0,22,0,22,100002,100002,100002,0,100002,0,100002,0,20,0,6,1,20,20,20,18,18,18,0,18,0,18,0,0,21,21,23,23,0,23,0,23,23,23]]) [21, 22, 0] (fun N t ω => ⟨L.e1, 1, ⟨N + 301 + 20, (L.thg), (L.τ 11), (p1.cnt + 1), (t + 2595 + 22)⟩, (N + 301 + 21), (t + 2595 + 23)⟩) [((p1.who) = (L.thg)), (¬ ((p0.who) = (L.thg)))] ∧
  TkQ w b1 b2 cd bl pa p N t ω L hd [p0, p1, p2, p3] (fl [z73, [20,0,6,0,0,1,0,1,0,1,1,1,1,1,1,1,20,20,20,20,22,22,22,0,22,0,22,100002,100002,100002,0,100002,0,100002,0,20,0,6,0,0,1,0,1,0,1,1,1,1,1,1,1,20,20,20,20,22,22,22,0,22,0,22,100003,100003,100003,0,100003,0,100003,0,20,0,6,1,20,20,20,18,18,18,0,18,0,18,0,0,21,21,23,23,0,23,0,23,23,23]]) [21, 22, 0] (fun N t ω => ⟨L.e1, 2, ⟨N + 301 + 20, (L.thg), (L.τ 11), (p2.cnt + 1), (t + 2595 + 25)⟩, (N + 301 + 21), (t + 2595 + 26)⟩) [((p2.who) = (L.thg)), (¬ ((p1.who) = (L.thg))), (¬ ((p0.who) = (L.thg)))] := by
  cases b1 <;> exact ⟨by kernel_rfl, by kernel_rfl, by kernel_rfl⟩
theorem tkG4b (L : Loc) (hd : List HE) (p0 p1 p2 p3 : PE) (w : World) (b1 b2 : Bool) (cd : Code) (bl : List (Code × Pos)) (pa : Option Value) (p : Pos) (N t : Nat) (ω : Nat → Nat) : TkQ w b1 b2 cd bl pa p N t ω L hd [p0, p1, p2, p3] (fl [z73, [20,0,6,0,0,1,0,1,0,1,1,1,1,1,1,1,20,20,20,20,22,22,22,0,22,0,22,100002,100002,100002,0,100002,0,100002,0,20,0,6,0,0,1,0,1,0,1,1,1,1,1,1,1,20,20,20,20,22,22,22,0,22,0,22,100003,100003,100003,0,100003,0,100003,0,20,0,6,0,0,1,0,1,0,1,1,1,1,1,1,1,20,20,20,20,22,22,22,0,22,0,22,100004,100004,100004,0,100004,0,100004,0,20,0,6,1,20,20,20,18,18,18,0,18,0,18,0,0,21,21,23,23,0,23,0,23,23,23]]) [21, 22, 0] (fun N t ω => ⟨L.e1, 3, ⟨N + 301 + 20, (L.thg), (L.τ 11), (p3.cnt + 1), (t + 2595 + 28)⟩, (N + 301 + 21), (t + 2595 + 29)⟩) [((p3.who) = (L.thg)), (¬ ((p2.who) = (L.thg))), (¬ ((p1.who) = (L.thg))), (¬ ((p0.who) = (L.thg)))] ∧
  TkQ w b1 b2 cd bl pa p N t ω L hd [p0, p1, p2, p3] (fl [z76, z10, [22], z10, [22], z10, [22,2,2,1,3,3,3,26,26,26,26,0,0,27,27,25,25,25,25,27,0,25,10,25,0,29,29,0,29,0,29,29,29]]) [27, 28, 0] (fun N t ω => ⟨L.e1, 0, ⟨N + 301 + 26, (L.thg), (L.τ 11), (p0.cnt + 1), (t + 2595 + 29)⟩, (N + 301 + 27), (t + 2595 + 31)⟩) [(R.IdxL [(p0.cnt), (p1.cnt), (p2.cnt), (p3.cnt)] (p0.cnt) 0), (¬ ((p3.cnt) < (p0.cnt))), (¬ ((p2.cnt) < (p0.cnt))), (¬ ((p1.cnt) < (p0.cnt))), (¬ ((p3.who) = (L.thg))), (¬ ((p2.who) = (L.thg))), (¬ ((p1.who) = (L.thg))), (¬ ((p0.who) = (L.thg)))] := by
  cases b1 <;> exact ⟨by kernel_rfl, by kernel_rfl⟩
theorem tkG4c (L : Loc) (hd : List HE) (p0 p1 p2 p3 : PE) (w : World) (b1 b2 : Bool) (cd : Code) (bl : List (Code × Pos)) (pa : Option Value) (p : Pos) (N t : Nat) (ω : Nat → Nat) : TkQ w b1 b2 cd bl pa p N t ω L hd [p0, p1, p2, p3] (fl [z76, z10, [22], z10, [22], z44]) [27, 28, 0] (fun N t ω => ⟨L.e1, 3, ⟨N + 301 + 26, (L.thg), (L.τ 11), (p3.cnt + 1), (t + 2595 + 29)⟩, (N + 301 + 27), (t + 2595 + 31)⟩) [(R.IdxL [(p0.cnt), (p1.cnt), (p2.cnt), (p3.cnt)] (p3.cnt) 3), ((p3.cnt) < (p0.cnt)), (¬ ((p2.cnt) < (p0.cnt))), (¬ ((p1.cnt) < (p0.cnt))), (¬ ((p3.who) = (L.thg))), (¬ ((p2.who) = (L.thg))), (¬ ((p1.who) = (L.thg))), (¬ ((p0.who) = (L.thg)))] ∧
  TkQ w b1 b2 cd bl pa p N t ω L hd [p0, p1, p2, p3] (fl [z76, z10, [22], z28, [22], z10, [22,2,2,1,3,3,3,26,26,26,26,0,0,27,27,25,25,25,25,27,0,25,10,25,2,29,29,0,29,0,29,29,29]]) [27, 28, 0] (fun N t ω => ⟨L.e1, 2, ⟨N + 301 + 26, (L.thg), (L.τ 11), (p2.cnt + 1), (t + 2595 + 29)⟩, (N + 301 + 27), (t + 2595 + 31)⟩) [(R.IdxL [(p0.cnt), (p1.cnt), (p2.cnt), (p3.cnt)] (p2.cnt) 2), (¬ ((p3.cnt) < (p2.cnt))), ((p2.cnt) < (p0.cnt)), (¬ ((p1.cnt) < (p0.cnt))), (¬ ((p3.who) = (L.thg))), (¬ ((p2.who) = (L.thg))), (¬ ((p1.who) = (L.thg))), (¬ ((p0.who) = (L.thg)))] := by
  cases b1 <;> exact ⟨by kernel_rfl, by kernel_rfl⟩
theorem tkG4d (L : Loc) (hd : List HE) (p0 p1 p2 p3 : PE) (w : World) (b1 b2 : Bool) (cd : Code) (bl : List (Code × Pos)) (pa : Option Value) (p : Pos) (N t : Nat) (ω : Nat → Nat) : TkQ w b1 b2 cd bl pa p N t ω L hd [p0, p1, p2, p3] (fl [z76, z10, [22], z28, [22], z44]) [27, 28, 0] (fun N t ω => ⟨L.e1, 3, ⟨N + 301 + 26, (L.thg), (L.τ 11), (p3.cnt + 1), (t + 2595 + 29)⟩, (N + 301 + 27), (t + 2595 + 31)⟩) [(R.IdxL [(p0.cnt), (p1.cnt), (p2.cnt), (p3.cnt)] (p3.cnt) 3), ((p3.cnt) < (p2.cnt)), ((p2.cnt) < (p0.cnt)), (¬ ((p1.cnt) < (p0.cnt))), (¬ ((p3.who) = (L.thg))), (¬ ((p2.who) = (L.thg))), (¬ ((p1.who) = (L.thg))), (¬ ((p0.who) = (L.thg)))] ∧
  TkQ w b1 b2 cd bl pa p N t ω L hd [p0, p1, p2, p3] (fl [z76, z28, [22], z10, [22], z10, [22,2,2,1,3,3,3,26,26,26,26,0,0,27,27,25,25,25,25,27,0,25,10,25,1,29,29,0,29,0,29,29,29]]) [27, 28, 0] (fun N t ω => ⟨L.e1, 1, ⟨N + 301 + 26, (L.thg), (L.τ 11), (p1.cnt + 1), (t + 2595 + 29)⟩, (N + 301 + 27), (t + 2595 + 31)⟩) [(R.IdxL [(p0.cnt), (p1.cnt), (p2.cnt), (p3.cnt)] (p1.cnt) 1), (¬ ((p3.cnt) < (p1.cnt))), (¬ ((p2.cnt) < (p1.cnt))), ((p1.cnt) < (p0.cnt)), (¬ ((p3.who) = (L.thg))), (¬ ((p2.who) = (L.thg))), (¬ ((p1.who) = (L.thg))), (¬ ((p0.who) = (L.thg)))] := by
  cases b1 <;> exact ⟨by kernel_rfl, by kernel_rfl⟩
theorem tkG4e (L : Loc) (hd : List HE) (p0 p1 p2 p3 : PE) (w : World) (b1 b2 : Bool) (cd : Code) (bl : List (Code × Pos)) (pa : Option Value) (p : Pos) (N t : Nat) (ω : Nat → Nat) : TkQ w b1 b2 cd bl pa p N t ω L hd [p0, p1, p2, p3] (fl [z76, z28, [22], z10, [22], z44]) [27, 28, 0] (fun N t ω => ⟨L.e1, 3, ⟨N + 301 + 26, (L.thg), (L.τ 11), (p3.cnt + 1), (t + 2595 + 29)⟩, (N + 301 + 27), (t + 2595 + 31)⟩) [(R.IdxL [(p0.cnt), (p1.cnt), (p2.cnt), (p3.cnt)] (p3.cnt) 3), ((p3.cnt) < (p1.cnt)), (¬ ((p2.cnt) < (p1.cnt))), ((p1.cnt) < (p0.cnt)), (¬ ((p3.who) = (L.thg))), (¬ ((p2.who) = (L.thg))), (¬ ((p1.who) = (L.thg))), (¬ ((p0.who) = (L.thg)))] ∧
  TkQ w b1 b2 cd bl pa p N t ω L hd [p0, p1, p2, p3] (fl [z76, z28, [22], z28, [22], z10, [22,2,2,1,3,3,3,26,26,26,26,0,0,27,27,25,25,25,25,27,0,25,10,25,2,29,29,0,29,0,29,29,29]]) [27, 28, 0] (fun N t ω => ⟨L.e1, 2, ⟨N + 301 + 26, (L.thg), (L.τ 11), (p2.cnt + 1), (t + 2595 + 29)⟩, (N + 301 + 27), (t + 2595 + 31)⟩) [(R.IdxL [(p0.cnt), (p1.cnt), (p2.cnt), (p3.cnt)] (p2.cnt) 2), (¬ ((p3.cnt) < (p2.cnt))), ((p2.cnt) < (p1.cnt)), ((p1.cnt) < (p0.cnt)), (¬ ((p3.who) = (L.thg))), (¬ ((p2.who) = (L.thg))), (¬ ((p1.who) = (L.thg))), (¬ ((p0.who) = (L.thg)))] := by
  cases b1 <;> exact ⟨by kernel_rfl, by kernel_rfl⟩
theorem tkG4f (L : Loc) (hd : List HE) (p0 p1 p2 p3 : PE) (w : World) (b1 b2 : Bool) (cd : Code) (bl : List (Code × Pos)) (pa : Option Value) (p : Pos) (N t : Nat) (ω : Nat → Nat) : TkQ w b1 b2 cd bl pa p N t ω L hd [p0, p1, p2, p3] (fl [z76, z28, [22], z28, [22], z44]) [27, 28, 0] (fun N t ω => ⟨L.e1, 3, ⟨N + 301 + 26, (L.thg), (L.τ 11), (p3.cnt + 1), (t + 2595 + 29)⟩, (N + 301 + 27), (t + 2595 + 31)⟩) [(R.IdxL [(p0.cnt), (p1.cnt), (p2.cnt), (p3.cnt)] (p3.cnt) 3), ((p3.cnt) < (p2.cnt)), ((p2.cnt) < (p1.cnt)), ((p1.cnt) < (p0.cnt)), (¬ ((p3.who) = (L.thg))), (¬ ((p2.who) = (L.thg))), (¬ ((p1.who) = (L.thg))), (¬ ((p0.who) = (L.thg)))] := by
  cases b1 <;> exact by kernel_rfl
theorem lsG2 (L : Loc) (hd : List HE) (p0 p1 : PE) (w : World) (b1 b2 : Bool) (cd : Code) (bl : List (Code × Pos)) (pa : Option Value) (p : Pos) (N t : Nat) (ω : Nat → Nat) : LsQ w b1 b2 cd bl pa p N t ω L hd [p0, p1] (fl [[0,0,1,3,3,0,3], z7, [6], z46, [9], z47, [12], z40, z10, [12,2,2,1,3,3,3,17,17]]) [15, 16, 17] (fun N t ω => ⟨(p0.cnt), (p0.u), (N + 301 + 15), (t + 2595 + 4)⟩) [(¬ ((p1.cnt) < (p0.cnt)))] ∧
  LsQ w b1 b2 cd bl pa p N t ω L hd [p0, p1] (fl [[0,0,1,3,3,0,3], z7, [6], z46, [9], z47, [12], z40, z28, [12,2,2,1,3,3,3,17,17]]) [15, 16, 17] (fun N t ω => ⟨(p1.cnt), (p1.u), (N + 301 + 15), (t + 2595 + 4)⟩) [((p1.cnt) < (p0.cnt))] := by
  cases b1 <;> exact ⟨by kernel_rfl, by kernel_rfl⟩
theorem lsG3 (L : Loc) (hd : List HE) (p0 p1 p2 : PE) (w : World) (b1 b2 : Bool) (cd : Code) (bl : List (Code × Pos)) (pa : Option Value) (p : Pos) (N t : Nat) (ω : Nat → Nat) : LsQ w b1 b2 cd bl pa p N t ω L hd [p0, p1, p2] (fl [z68, z10, [15], z10, [15,2,2,1,3,3,3,20,20]]) [18, 19, 20] (fun N t ω => ⟨(p0.cnt), (p0.u), (N + 301 + 18), (t + 2595 + 6)⟩) [(¬ ((p2.cnt) < (p0.cnt))), (¬ ((p1.cnt) < (p0.cnt)))] ∧
  LsQ w b1 b2 cd bl pa p N t ω L hd [p0, p1, p2] (fl [z68, z10, [15], z28, [15,2,2,1,3,3,3,20,20]]) [18, 19, 20] (fun N t ω => ⟨(p2.cnt), (p2.u), (N + 301 + 18), (t + 2595 + 6)⟩) [((p2.cnt) < (p0.cnt)), (¬ ((p1.cnt) < (p0.cnt)))] ∧
  LsQ w b1 b2 cd bl pa p N t ω L hd [p0, p1, p2] (fl [z68, z28, [15], z10, [15,2,2,1,3,3,3,20,20]]) [18, 19, 20] (fun N t ω => ⟨(p1.cnt), (p1.u), (N + 301 + 18), (t + 2595 + 6)⟩) [(¬ ((p2.cnt) < (p1.cnt))), ((p1.cnt) < (p0.cnt))] ∧
  LsQ w b1 b2 cd bl pa p N t ω L hd [p0, p1, p2] (fl [z68, z28, [15], z28, [15,2,2,1,3,3,3,20,20]]) [18, 19, 20] (fun N t ω => ⟨(p2.cnt), (p2.u), (N + 301 + 18), (t + 2595 + 6)⟩) [((p2.cnt) < (p1.cnt)), ((p1.cnt) < (p0.cnt))] := by
  cases b1 <;> exact ⟨by kernel_rfl, by kernel_rfl, by kernel_rfl, by kernel_rfl⟩
theorem lsG4a (L : Loc) (hd : List HE) (p0 p1 p2 p3 : PE) (w : World) (b1 b2 : Bool) (cd : Code) (bl : List (Code × Pos)) (pa : Option Value) (p : Pos) (N t : Nat) (ω : Nat → Nat) : LsQ w b1 b2 cd bl pa p N t ω L hd [p0, p1, p2, p3] (fl [z71, z10, [18], z31]) [21, 22, 23] (fun N t ω => ⟨(p0.cnt), (p0.u), (N + 301 + 21), (t + 2595 + 8)⟩) [(¬ ((p3.cnt) < (p0.cnt))), (¬ ((p2.cnt) < (p0.cnt))), (¬ ((p1.cnt) < (p0.cnt)))] ∧
  LsQ w b1 b2 cd bl pa p N t ω L hd [p0, p1, p2, p3] (fl [z71, z10, [18], z33]) [21, 22, 23] (fun N t ω => ⟨(p3.cnt), (p3.u), (N + 301 + 21), (t + 2595 + 8)⟩) [((p3.cnt) < (p0.cnt)), (¬ ((p2.cnt) < (p0.cnt))), (¬ ((p1.cnt) < (p0.cnt)))] ∧
  LsQ w b1 b2 cd bl pa p N t ω L hd [p0, p1, p2, p3] (fl [z71, z28, [18], z31]) [21, 22, 23] (fun N t ω => ⟨(p2.cnt), (p2.u), (N + 301 + 21), (t + 2595 + 8)⟩) [(¬ ((p3.cnt) < (p2.cnt))), ((p2.cnt) < (p0.cnt)), (¬ ((p1.cnt) < (p0.cnt)))] := by
  cases b1 <;> exact ⟨by kernel_rfl, by kernel_rfl, by kernel_rfl⟩
theorem lsG4b (L : Loc) (hd : List HE) (p0 p1 p2 p3 : PE) (w : World) (b1 b2 : Bool) (cd : Code) (bl : List (Code × Pos)) (pa : Option Value) (p : Pos) (N t : Nat) (ω : Nat → Nat) : LsQ w b1 b2 cd bl pa p N t ω L hd [p0, p1, p2, p3] (fl [z71, z28, [18], z33]) [21, 22, 23] (fun N t ω => ⟨(p3.cnt), (p3.u), (N + 301 + 21), (t + 2595 + 8)⟩) [((p3.cnt) < (p2.cnt)), ((p2.cnt) < (p0.cnt)), (¬ ((p1.cnt) < (p0.cnt)))] ∧
  LsQ w b1 b2 cd bl pa p N t ω L hd [p0, p1, p2, p3] (fl [z72, z10, [18], z31]) [21, 22, 23] (fun N t ω => ⟨(p1.cnt), (p1.u), (N + 301 + 21), (t + 2595 + 8)⟩) [(¬ ((p3.cnt) < (p1.cnt))), (¬ ((p2.cnt) < (p1.cnt))), ((p1.cnt) < (p0.cnt))] ∧
  LsQ w b1 b2 cd bl pa p N t ω L hd [p0, p1, p2, p3] (fl [z72, z10, [18], z33]) [21, 22, 23] (fun N t ω => ⟨(p3.cnt), (p3.u), (N + 301 + 21), (t + 2595 + 8)⟩) [((p3.cnt) < (p1.cnt)), (¬ ((p2.cnt) < (p1.cnt))), ((p1.cnt) < (p0.cnt))] := by
  cases b1 <;> exact ⟨by kernel_rfl, by kernel_rfl, by kernel_rfl⟩
theorem lsG4c (L : Loc) (hd : List HE) (p0 p1 p2 p3 : PE) (w : World) (b1 b2 : Bool) (cd : Code) (bl : List (Code × Pos)) (pa : Option Value) (p : Pos) (N t : Nat) (ω : Nat → Nat) : LsQ w b1 b2 cd bl pa p N t ω L hd [p0, p1, p2, p3] (fl [z72, z28, [18], z31]) [21, 22, 23] (fun N t ω => ⟨(p2.cnt), (p2.u), (N + 301 + 21), (t + 2595 + 8)⟩) [(¬ ((p3.cnt) < (p2.cnt))), ((p2.cnt) < (p1.cnt)), ((p1.cnt) < (p0.cnt))] ∧
  LsQ w b1 b2 cd bl pa p N t ω L hd [p0, p1, p2, p3] (fl [z72, z28, [18], z33]) [21, 22, 23] (fun N t ω => ⟨(p3.cnt), (p3.u), (N + 301 + 21), (t + 2595 + 8)⟩) [((p3.cnt) < (p2.cnt)), ((p2.cnt) < (p1.cnt)), ((p1.cnt) < (p0.cnt))] := by
  cases b1 <;> exact ⟨by kernel_rfl, by kernel_rfl⟩
theorem apG (L : Loc) (hd : List HE) (pl : List PE) (w : World) (b1 b2 : Bool) (cd : Code) (bl : List (Code × Pos)) (pa : Option Value) (p : Pos) (N t : Nat) (ω : Nat → Nat) : ApQ w b1 b2 cd bl pa p N t ω L hd pl [1,2,2,2,2,1,0,2,13,1] [0, 1] (fun N t ω => ⟨(N + 301), (t + 2595)⟩) [(L.X.size < 1000)] := by
  cases b1 <;> exact by kernel_rfl
theorem fiG (L : Loc) (hd : List HE) (pl : List PE) (v : Int) (vt nu sp : Nat) (w : World) (b1 b2 : Bool) (cd : Code) (bl : List (Code × Pos)) (pa : Option Value) (p : Pos) (N t : Nat) (ω : Nat → Nat) : FiQ w b1 b2 cd bl pa p N t ω L hd pl v vt nu 5 [1,1,1,0,9,(nu),1,1,2,0,9,0,1,1,1,0,1,0,1,0,2,2,0,0,2,0,1,(sp),0,1,5,2,2,2,0,2,0,1,5,0,1,5,0,2,5,0,8,1] [1] (fun N t ω => ⟨fnL [(7, (vt)), (9, (t + 2595 + 2)), (11, (t + 2595 + 4)), (13, (ω 50))] L.τ, (ω 80 + (ω 64 + (ω 48 + (ω 32 + (N + 301 + 1))))), (ω 81 + (ω 65 + (ω 49 + (ω 33 + (t + 2595 + 13)) + 1) + 1) + 1)⟩) [((⟨#[102]⟩ : Str) = (⟨#[102]⟩ : Str)), (LwOk (⟨#[70]⟩ : Str) 5), (DcOk (apB 5) 5), (ApOk (5) 5), (PrOk (spS (sp)) 5), (SpOk (Int.ofNat (nu)) (sp)), (((6 : Int) == 0) = false ∧ Int.fmod (Int.ofNat (nu)) 6 = Int.ofNat 0), (((4096 : Int) == 0) = false ∧ Int.fmod (v) 4096 = Int.ofNat (nu))] ∧
  FiQ w b1 b2 cd bl pa p N t ω L hd pl v vt nu 8 [1,1,1,0,9,(nu),1,1,2,0,9,1,1,1,1,0,1,0,1,0,2,2,0,0,2,0,1,(sp),0,1,8,2,2,2,0,2,0,1,8,0,1,8,0,2,8,0,8,1] [1] (fun N t ω => ⟨fnL [(7, (vt)), (9, (t + 2595 + 2)), (11, (t + 2595 + 5)), (13, (ω 50))] L.τ, (ω 80 + (ω 64 + (ω 48 + (ω 32 + (N + 301 + 1))))), (ω 81 + (ω 65 + (ω 49 + (ω 33 + (t + 2595 + 13)) + 1) + 1) + 1)⟩) [((⟨#[105]⟩ : Str) = (⟨#[105]⟩ : Str)), (LwOk (⟨#[73]⟩ : Str) 8), (DcOk (apB 8) 8), (ApOk (8) 8), (PrOk (spS (sp)) 8), (SpOk (Int.ofNat (nu)) (sp)), (((6 : Int) == 0) = false ∧ Int.fmod (Int.ofNat (nu)) 6 = Int.ofNat 1), (((4096 : Int) == 0) = false ∧ Int.fmod (v) 4096 = Int.ofNat (nu))] ∧
  FiQ w b1 b2 cd bl pa p N t ω L hd pl v vt nu 85 [1,1,1,0,9,(nu),1,1,2,0,9,2,1,1,1,0,1,0,1,0,2,2,0,0,2,0,1,(sp),0,1,85,2,2,2,0,2,0,1,85,0,1,85,0,2,85,0,8,1] [1] (fun N t ω => ⟨fnL [(7, (vt)), (9, (t + 2595 + 2)), (11, (t + 2595 + 6)), (13, (ω 50))] L.τ, (ω 80 + (ω 64 + (ω 48 + (ω 32 + (N + 301 + 1))))), (ω 81 + (ω 65 + (ω 49 + (ω 33 + (t + 2595 + 13)) + 1) + 1) + 1)⟩) [((⟨#[102, 102]⟩ : Str) = (⟨#[102, 102]⟩ : Str)), (LwOk (⟨#[70, 70]⟩ : Str) 85), (DcOk (apB 85) 85), (ApOk (85) 85), (PrOk (spS (sp)) 85), (SpOk (Int.ofNat (nu)) (sp)), (((6 : Int) == 0) = false ∧ Int.fmod (Int.ofNat (nu)) 6 = Int.ofNat 2), (((4096 : Int) == 0) = false ∧ Int.fmod (v) 4096 = Int.ofNat (nu))] ∧
  FiQ w b1 b2 cd bl pa p N t ω L hd pl v vt nu 88 [1,1,1,0,9,(nu),1,1,2,0,9,3,1,1,1,0,1,0,1,0,2,2,0,0,2,0,1,(sp),0,1,88,2,2,2,0,2,0,1,88,0,1,88,0,2,88,0,8,1] [1] (fun N t ω => ⟨fnL [(7, (vt)), (9, (t + 2595 + 2)), (11, (t + 2595 + 7)), (13, (ω 50))] L.τ, (ω 80 + (ω 64 + (ω 48 + (ω 32 + (N + 301 + 1))))), (ω 81 + (ω 65 + (ω 49 + (ω 33 + (t + 2595 + 13)) + 1) + 1) + 1)⟩) [((⟨#[102, 105]⟩ : Str) = (⟨#[102, 105]⟩ : Str)), (LwOk (⟨#[70, 73]⟩ : Str) 88), (DcOk (apB 88) 88), (ApOk (88) 88), (PrOk (spS (sp)) 88), (SpOk (Int.ofNat (nu)) (sp)), (((6 : Int) == 0) = false ∧ Int.fmod (Int.ofNat (nu)) 6 = Int.ofNat 3), (((4096 : Int) == 0) = false ∧ Int.fmod (v) 4096 = Int.ofNat (nu))] ∧
  FiQ w b1 b2 cd bl pa p N t ω L hd pl v vt nu 1368 [1,1,1,0,9,(nu),1,1,2,0,9,4,1,1,1,0,1,0,1,0,2,2,0,0,2,0,1,(sp),0,1,1368,2,2,2,0,2,0,1,1368,0,1,1368,0,2,1368,0,8,1] [1] (fun N t ω => ⟨fnL [(7, (vt)), (9, (t + 2595 + 2)), (11, (t + 2595 + 8)), (13, (ω 50))] L.τ, (ω 80 + (ω 64 + (ω 48 + (ω 32 + (N + 301 + 1))))), (ω 81 + (ω 65 + (ω 49 + (ω 33 + (t + 2595 + 13)) + 1) + 1) + 1)⟩) [((⟨#[102, 102, 105]⟩ : Str) = (⟨#[102, 102, 105]⟩ : Str)), (LwOk (⟨#[70, 70, 73]⟩ : Str) 1368), (DcOk (apB 1368) 1368), (ApOk (1368) 1368), (PrOk (spS (sp)) 1368), (SpOk (Int.ofNat (nu)) (sp)), (((6 : Int) == 0) = false ∧ Int.fmod (Int.ofNat (nu)) 6 = Int.ofNat 4), (((4096 : Int) == 0) = false ∧ Int.fmod (v) 4096 = Int.ofNat (nu))] ∧
  FiQ w b1 b2 cd bl pa p N t ω L hd pl v vt nu 11 [1,1,1,0,9,(nu),1,1,2,0,9,5,1,1,1,0,1,0,1,0,2,2,0,0,2,0,1,(sp),0,1,11,2,2,2,0,2,0,1,11,0,1,11,0,2,11,0,8,1] [1] (fun N t ω => ⟨fnL [(7, (vt)), (9, (t + 2595 + 2)), (11, (t + 2595 + 9)), (13, (ω 50))] L.τ, (ω 80 + (ω 64 + (ω 48 + (ω 32 + (N + 301 + 1))))), (ω 81 + (ω 65 + (ω 49 + (ω 33 + (t + 2595 + 13)) + 1) + 1) + 1)⟩) [((⟨#[108]⟩ : Str) = (⟨#[108]⟩ : Str)), (LwOk (⟨#[76]⟩ : Str) 11), (DcOk (apB 11) 11), (ApOk (11) 11), (PrOk (spS (sp)) 11), (SpOk (Int.ofNat (nu)) (sp)), (((6 : Int) == 0) = false ∧ Int.fmod (Int.ofNat (nu)) 6 = Int.ofNat 5), (((4096 : Int) == 0) = false ∧ Int.fmod (v) 4096 = Int.ofNat (nu))] := by
  cases b1 <;> exact ⟨by kernel_rfl, by kernel_rfl, by kernel_rfl, by kernel_rfl, by kernel_rfl, by kernel_rfl⟩
theorem duG2 (L : Loc) (hd : List HE) (p0 p1 : PE) (y0 y1 y2 : Nat) (w : World) (b1 b2 : Bool) (cd : Code) (bl : List (Code × Pos)) (pa : Option Value) (p : Pos) (N t : Nat) (ω : Nat → Nat) : DuQ w b1 b2 cd bl pa p N t ω L hd [p0, p1] [] (fl [[0,0,1,3,3,0,3], z7, [6,3,3,3], z36, [4,4,4,4,4,8,0,5,0,0,6,0,6,0,6,6,9], z41, [11,0,5,0,0,9,0,9,0,9,9,12,9,9,1,9,9,9,9,9,9,0,14,10,13,13]]) [12, 13, 14, 0] (fun N t ω => ⟨N + 301 + 12, 0, [], (N + 301 + 15), (t + 2595 + 5)⟩) [((([] : List Int), ([] : List Nat)) ∈ soT), (¬ ((p1.cnt) > (L.least))), (¬ ((p0.cnt) > (L.least)))] ∧
  DuQ w b1 b2 cd bl pa p N t ω L hd [p0, p1] [y0] (fl [z60, [10,0,10,0,10,10,13,10,10,1,10,10,10,10,10,10,0,14,11,3,y0,14,14]]) [13, 14, 15, 0, 3] (fun N t ω => ⟨N + 301 + 13, 2, [⟨N + 301 + 9, (p1.who), (p1.t), (p1.cnt - L.least), (t + 2595 + 4)⟩], (N + 301 + 16), (t + 2595 + 6)⟩) [((([(p1.who)] : List Int), ([y0] : List Nat)) ∈ soT), ((p1.cnt) > (L.least)), (¬ ((p0.cnt) > (L.least)))] ∧
  DuQ w b1 b2 cd bl pa p N t ω L hd [p0, p1] [y0] (fl [z59, [0,5,0,0,10,0,10,0,10,10,13,10,10,1,10,10,10,10,10,10,0,14,11,6,y0,14,14]]) [13, 14, 15, 0, 6] (fun N t ω => ⟨N + 301 + 13, 2, [⟨N + 301 + 6, (p0.who), (p0.t), (p0.cnt - L.least), (t + 2595 + 2)⟩], (N + 301 + 16), (t + 2595 + 6)⟩) [((([(p0.who)] : List Int), ([y0] : List Nat)) ∈ soT), (¬ ((p1.cnt) > (L.least))), ((p0.cnt) > (L.least))] := by
  cases b1 <;> exact ⟨by kernel_rfl, by kernel_rfl, by kernel_rfl⟩
theorem duG3a (L : Loc) (hd : List HE) (p0 p1 p2 : PE) (y0 y1 y2 : Nat) (w : World) (b1 b2 : Bool) (cd : Code) (bl : List (Code × Pos)) (pa : Option Value) (p : Pos) (N t : Nat) (ω : Nat → Nat) : DuQ w b1 b2 cd bl pa p N t ω L hd [p0, p1, p2] [] (fl [[0,0,1,3,3,0,3], z7, [6,3,3,3], z36, [4,4,4,4,4,8,0,5,0,0,6,0,6,0,6,6,9], z41, [11,0,5,0,0,9,0,9,0,9,9,12], z38, [10,10,10,14,0,5,0,0,12,0,12,0,12,12,15,12,12,1,12,12,12,12,12,12,0,14,13,16,16]]) [15, 16, 17, 0] (fun N t ω => ⟨N + 301 + 15, 0, [], (N + 301 + 18), (t + 2595 + 7)⟩) [((([] : List Int), ([] : List Nat)) ∈ soT), (¬ ((p2.cnt) > (L.least))), (¬ ((p1.cnt) > (L.least))), (¬ ((p0.cnt) > (L.least)))] ∧
  DuQ w b1 b2 cd bl pa p N t ω L hd [p0, p1, p2] [y0] (fl [[0,0,1,3,3,0,3], z7, [6,3,3,3], z36, [4,4,4,4,4,8,0,5,0,0,6,0,6,0,6,6,9], z41, [11,0,5,0,0,9,0,9,0,9,9,12], z38, [10,10,10,14,0,5,1,10,10,14,0,0,0,12,0,12,12,12,0,13,0,13,0,13,13,16,13,13,1,13,13,13,13,13,13,0,14,14,3,y0,17,17]]) [16, 17, 18, 0, 3] (fun N t ω => ⟨N + 301 + 16, 2, [⟨N + 301 + 12, (p2.who), (p2.t), (p2.cnt - L.least), (t + 2595 + 6)⟩], (N + 301 + 19), (t + 2595 + 8)⟩) [((([(p2.who)] : List Int), ([y0] : List Nat)) ∈ soT), ((p2.cnt) > (L.least)), (¬ ((p1.cnt) > (L.least))), (¬ ((p0.cnt) > (L.least)))] ∧
  DuQ w b1 b2 cd bl pa p N t ω L hd [p0, p1, p2] [y0] (fl [z63, [0,5,0,0,13,0,13,0,13,13,16,13,13,1,13,13,13,13,13,13,0,14,14,6,y0,17,17]]) [16, 17, 18, 0, 6] (fun N t ω => ⟨N + 301 + 16, 2, [⟨N + 301 + 9, (p1.who), (p1.t), (p1.cnt - L.least), (t + 2595 + 4)⟩], (N + 301 + 19), (t + 2595 + 8)⟩) [((([(p1.who)] : List Int), ([y0] : List Nat)) ∈ soT), (¬ ((p2.cnt) > (L.least))), ((p1.cnt) > (L.least)), (¬ ((p0.cnt) > (L.least)))] ∧
  DuQ w b1 b2 cd bl pa p N t ω L hd [p0, p1, p2] [y0, y1] (fl [z63, [0,5,1,11,11,15,0,0,0,13,0,13,13,13,0,14,0,14,0,14,14,17,14,14,1,14,14,14,14,14,14,0,14,15,7,3,y0,y1,18,18]]) [17, 18, 19, 0, 7, 3] (fun N t ω => ⟨N + 301 + 17, 2, [⟨N + 301 + 9, (p1.who), (p1.t), (p1.cnt - L.least), (t + 2595 + 4)⟩, ⟨N + 301 + 13, (p2.who), (p2.t), (p2.cnt - L.least), (t + 2595 + 7)⟩], (N + 301 + 20), (t + 2595 + 9)⟩) [((([(p1.who), (p2.who)] : List Int), ([y0, y1] : List Nat)) ∈ soT), ((p2.cnt) > (L.least)), ((p1.cnt) > (L.least)), (¬ ((p0.cnt) > (L.least)))] ∧
  DuQ w b1 b2 cd bl pa p N t ω L hd [p0, p1, p2] [y0] (fl [z64, [0,5,0,0,13,0,13,0,13,13,16,13,13,1,13,13,13,13,13,13,0,14,14,9,y0,17,17]]) [16, 17, 18, 0, 9] (fun N t ω => ⟨N + 301 + 16, 2, [⟨N + 301 + 6, (p0.who), (p0.t), (p0.cnt - L.least), (t + 2595 + 2)⟩], (N + 301 + 19), (t + 2595 + 8)⟩) [((([(p0.who)] : List Int), ([y0] : List Nat)) ∈ soT), (¬ ((p2.cnt) > (L.least))), (¬ ((p1.cnt) > (L.least))), ((p0.cnt) > (L.least))] := by
  cases b1 <;> exact ⟨by kernel_rfl, by kernel_rfl, by kernel_rfl, by kernel_rfl, by kernel_rfl⟩
theorem duG3b (L : Loc) (hd : List HE) (p0 p1 p2 : PE) (y0 y1 y2 : Nat) (w : World) (b1 b2 : Bool) (cd : Code) (bl : List (Code × Pos)) (pa : Option Value) (p : Pos) (N t : Nat) (ω : Nat → Nat) : DuQ w b1 b2 cd bl pa p N t ω L hd [p0, p1, p2] [y0, y1] (fl [z64, [0,5,1,11,11,15,0,0,0,13,0,13,13,13,0,14,0,14,0,14,14,17,14,14,1,14,14,14,14,14,14,0,14,15,10,3,y0,y1,18,18]]) [17, 18, 19, 0, 10, 3] (fun N t ω => ⟨N + 301 + 17, 2, [⟨N + 301 + 6, (p0.who), (p0.t), (p0.cnt - L.least), (t + 2595 + 2)⟩, ⟨N + 301 + 13, (p2.who), (p2.t), (p2.cnt - L.least), (t + 2595 + 7)⟩], (N + 301 + 20), (t + 2595 + 9)⟩) [((([(p0.who), (p2.who)] : List Int), ([y0, y1] : List Nat)) ∈ soT), ((p2.cnt) > (L.least)), (¬ ((p1.cnt) > (L.least))), ((p0.cnt) > (L.least))] ∧
  DuQ w b1 b2 cd bl pa p N t ω L hd [p0, p1, p2] [y0, y1] (fl [z65, [0,5,0,0,14,0,14,0,14,14,17,14,14,1,14,14,14,14,14,14,0,14,15,10,6,y0,y1,18,18]]) [17, 18, 19, 0, 10, 6] (fun N t ω => ⟨N + 301 + 17, 2, [⟨N + 301 + 6, (p0.who), (p0.t), (p0.cnt - L.least), (t + 2595 + 2)⟩, ⟨N + 301 + 10, (p1.who), (p1.t), (p1.cnt - L.least), (t + 2595 + 5)⟩], (N + 301 + 20), (t + 2595 + 9)⟩) [((([(p0.who), (p1.who)] : List Int), ([y0, y1] : List Nat)) ∈ soT), (¬ ((p2.cnt) > (L.least))), ((p1.cnt) > (L.least)), ((p0.cnt) > (L.least))] := by
  cases b1 <;> exact ⟨by kernel_rfl, by kernel_rfl⟩
theorem duG4a (L : Loc) (hd : List HE) (p0 p1 p2 p3 : PE) (y0 y1 y2 : Nat) (w : World) (b1 b2 : Bool) (cd : Code) (bl : List (Code × Pos)) (pa : Option Value) (p : Pos) (N t : Nat) (ω : Nat → Nat) : DuQ w b1 b2 cd bl pa p N t ω L hd [p0, p1, p2, p3] [] (fl [[0,0,1,3,3,0,3], z7, [6,3,3,3], z36, [4,4,4,4,4,8,0,5,0,0,6,0,6,0,6,6,9], z41, [11,0,5,0,0,9,0,9,0,9,9,12], z38, [10,10,10,14,0,5,0,0,12,0,12,0,12,12,15,12,12,12,100004,100004,100004,0,100004], z3, [100004], z2, [100004], z2, [100004,1,1,1,13,13,13,13,13,17,0,5,0,0,15,0,15,0,15,15,18,15,15,1,15,15,15,15,15,15,0,14,16,19,19]]) [18, 19, 20, 0] (fun N t ω => ⟨N + 301 + 18, 0, [], (N + 301 + 21), (t + 2595 + 9)⟩) [((([] : List Int), ([] : List Nat)) ∈ soT), (¬ ((p3.cnt) > (L.least))), (¬ ((p2.cnt) > (L.least))), (¬ ((p1.cnt) > (L.least))), (¬ ((p0.cnt) > (L.least)))] ∧
  DuQ w b1 b2 cd bl pa p N t ω L hd [p0, p1, p2, p3] [y0] (fl [[0,0,1,3,3,0,3], z7, [6,3,3,3], z36, [4,4,4,4,4,8,0,5,0,0,6,0,6,0,6,6,9], z41, [11,0,5,0,0,9,0,9,0,9,9,12], z38, [10,10,10,14,0,5,0,0,12,0,12,0,12,12,15,12,12,12,100004,100004,100004,0,100004], z3, [100004], z2, [100004], z2, [100004,1,1,1,13,13,13,13,13,17,0,5,1,13,13,17,0,0,0,15,0,15,15,15,0,16,0,16,0,16,16,19,16,16,1,16,16,16,16,16,16,0,14,17,3,y0,20,20]]) [19, 20, 21, 0, 3] (fun N t ω => ⟨N + 301 + 19, 2, [⟨N + 301 + 15, (p3.who), (p3.t), (p3.cnt - L.least), (t + 2595 + 8)⟩], (N + 301 + 22), (t + 2595 + 10)⟩) [((([(p3.who)] : List Int), ([y0] : List Nat)) ∈ soT), ((p3.cnt) > (L.least)), (¬ ((p2.cnt) > (L.least))), (¬ ((p1.cnt) > (L.least))), (¬ ((p0.cnt) > (L.least)))] ∧
  DuQ w b1 b2 cd bl pa p N t ω L hd [p0, p1, p2, p3] [y0] (fl [[0,0,1,3,3,0,3], z7, [6,3,3,3], z36, [4,4,4,4,4,8,0,5,0,0,6,0,6,0,6,6,9], z41, [11,0,5,0,0,9,0,9,0,9,9,12], z38, [10,10,10,14,0,5,1,10,10,14,0,0,0,12,0,12,12,12,0,13,0,13,0,13,13,16,13,13,13,100004,100004,100004,0,100004], z3, [100004], z2, [100004], z2, [100004,1,1,1,14,14,14,14,14,18,0,5,0,0,16,0,16,0,16,16,19,16,16,1,16,16,16,16,16,16,0,14,17,6,y0,20,20]]) [19, 20, 21, 0, 6] (fun N t ω => ⟨N + 301 + 19, 2, [⟨N + 301 + 12, (p2.who), (p2.t), (p2.cnt - L.least), (t + 2595 + 6)⟩], (N + 301 + 22), (t + 2595 + 10)⟩) [((([(p2.who)] : List Int), ([y0] : List Nat)) ∈ soT), (¬ ((p3.cnt) > (L.least))), ((p2.cnt) > (L.least)), (¬ ((p1.cnt) > (L.least))), (¬ ((p0.cnt) > (L.least)))] ∧
  DuQ w b1 b2 cd bl pa p N t ω L hd [p0, p1, p2, p3] [y0, y1] (fl [[0,0,1,3,3,0,3], z7, [6,3,3,3], z36, [4,4,4,4,4,8,0,5,0,0,6,0,6,0,6,6,9], z41, [11,0,5,0,0,9,0,9,0,9,9,12], z38, [10,10,10,14,0,5,1,10,10,14,0,0,0,12,0,12,12,12,0,13,0,13,0,13,13,16,13,13,13,100004,100004,100004,0,100004], z3, [100004], z2, [100004], z2, [100004,1,1,1,14,14,14,14,14,18,0,5,1,14,14,18,0,0,0,16,0,16,16,16,0,17,0,17,0,17,17,20,17,17,1,17,17,17,17,17,17,0,14,18,7,3,y0,y1,21,21]]) [20, 21, 22, 0, 7, 3] (fun N t ω => ⟨N + 301 + 20, 2, [⟨N + 301 + 12, (p2.who), (p2.t), (p2.cnt - L.least), (t + 2595 + 6)⟩, ⟨N + 301 + 16, (p3.who), (p3.t), (p3.cnt - L.least), (t + 2595 + 9)⟩], (N + 301 + 23), (t + 2595 + 11)⟩) [((([(p2.who), (p3.who)] : List Int), ([y0, y1] : List Nat)) ∈ soT), ((p3.cnt) > (L.least)), ((p2.cnt) > (L.least)), (¬ ((p1.cnt) > (L.least))), (¬ ((p0.cnt) > (L.least)))] := by
  cases b1 <;> exact ⟨by kernel_rfl, by kernel_rfl, by kernel_rfl, by kernel_rfl⟩
theorem duG4b (L : Loc) (hd : List HE) (p0 p1 p2 p3 : PE) (y0 y1 y2 : Nat) (w : World) (b1 b2 : Bool) (cd : Code) (bl : List (Code × Pos)) (pa : Option Value) (p : Pos) (N t : Nat) (ω : Nat → Nat) : DuQ w b1 b2 cd bl pa p N t ω L hd [p0, p1, p2, p3] [y0] (fl [z63, z45, [0,5,0,0,16,0,16,0,16,16,19,16,16,1,16,16,16,16,16,16,0,14,17,9,y0,20,20]]) [19, 20, 21, 0, 9] (fun N t ω => ⟨N + 301 + 19, 2, [⟨N + 301 + 9, (p1.who), (p1.t), (p1.cnt - L.least), (t + 2595 + 4)⟩], (N + 301 + 22), (t + 2595 + 10)⟩) [((([(p1.who)] : List Int), ([y0] : List Nat)) ∈ soT), (¬ ((p3.cnt) > (L.least))), (¬ ((p2.cnt) > (L.least))), ((p1.cnt) > (L.least)), (¬ ((p0.cnt) > (L.least)))] ∧
  DuQ w b1 b2 cd bl pa p N t ω L hd [p0, p1, p2, p3] [y0, y1] (fl [z63, z45, [0,5,1,14,14,18,0,0,0,16,0,16,16,16,0,17,0,17,0,17,17,20,17,17,1,17,17,17,17,17,17,0,14,18,10,3,y0,y1,21,21]]) [20, 21, 22, 0, 10, 3] (fun N t ω => ⟨N + 301 + 20, 2, [⟨N + 301 + 9, (p1.who), (p1.t), (p1.cnt - L.least), (t + 2595 + 4)⟩, ⟨N + 301 + 16, (p3.who), (p3.t), (p3.cnt - L.least), (t + 2595 + 9)⟩], (N + 301 + 23), (t + 2595 + 11)⟩) [((([(p1.who), (p3.who)] : List Int), ([y0, y1] : List Nat)) ∈ soT), ((p3.cnt) > (L.least)), (¬ ((p2.cnt) > (L.least))), ((p1.cnt) > (L.least)), (¬ ((p0.cnt) > (L.least)))] ∧
  DuQ w b1 b2 cd bl pa p N t ω L hd [p0, p1, p2, p3] [y0, y1] (fl [z63, z54, [0,5,0,0,17,0,17,0,17,17,20,17,17,1,17,17,17,17,17,17,0,14,18,10,6,y0,y1,21,21]]) [20, 21, 22, 0, 10, 6] (fun N t ω => ⟨N + 301 + 20, 2, [⟨N + 301 + 9, (p1.who), (p1.t), (p1.cnt - L.least), (t + 2595 + 4)⟩, ⟨N + 301 + 13, (p2.who), (p2.t), (p2.cnt - L.least), (t + 2595 + 7)⟩], (N + 301 + 23), (t + 2595 + 11)⟩) [((([(p1.who), (p2.who)] : List Int), ([y0, y1] : List Nat)) ∈ soT), (¬ ((p3.cnt) > (L.least))), ((p2.cnt) > (L.least)), ((p1.cnt) > (L.least)), (¬ ((p0.cnt) > (L.least)))] ∧
  DuQ w b1 b2 cd bl pa p N t ω L hd [p0, p1, p2, p3] [y0, y1, y2] (fl [z63, z54, z26, [18,0,18,0,18,18,21,18,18,1,18,18,18,18,18,18,0,14,19,11,7,3,y0,y1,y2,22,22]]) [21, 22, 23, 0, 11, 7, 3] (fun N t ω => ⟨N + 301 + 21, 2, [⟨N + 301 + 9, (p1.who), (p1.t), (p1.cnt - L.least), (t + 2595 + 4)⟩, ⟨N + 301 + 13, (p2.who), (p2.t), (p2.cnt - L.least), (t + 2595 + 7)⟩, ⟨N + 301 + 17, (p3.who), (p3.t), (p3.cnt - L.least), (t + 2595 + 10)⟩], (N + 301 + 24), (t + 2595 + 12)⟩) [((([(p1.who), (p2.who), (p3.who)] : List Int), ([y0, y1, y2] : List Nat)) ∈ soT), ((p3.cnt) > (L.least)), ((p2.cnt) > (L.least)), ((p1.cnt) > (L.least)), (¬ ((p0.cnt) > (L.least)))] := by
  cases b1 <;> exact ⟨by kernel_rfl, by kernel_rfl, by kernel_rfl, by kernel_rfl⟩
theorem duG4c (L : Loc) (hd : List HE) (p0 p1 p2 p3 : PE) (y0 y1 y2 : Nat) (w : World) (b1 b2 : Bool) (cd : Code) (bl : List (Code × Pos)) (pa : Option Value) (p : Pos) (N t : Nat) (ω : Nat → Nat) : DuQ w b1 b2 cd bl pa p N t ω L hd [p0, p1, p2, p3] [y0] (fl [z64, z45, [0,5,0,0,16,0,16,0,16,16,19,16,16,1,16,16,16,16,16,16,0,14,17,12,y0,20,20]]) [19, 20, 21, 0, 12] (fun N t ω => ⟨N + 301 + 19, 2, [⟨N + 301 + 6, (p0.who), (p0.t), (p0.cnt - L.least), (t + 2595 + 2)⟩], (N + 301 + 22), (t + 2595 + 10)⟩) [((([(p0.who)] : List Int), ([y0] : List Nat)) ∈ soT), (¬ ((p3.cnt) > (L.least))), (¬ ((p2.cnt) > (L.least))), (¬ ((p1.cnt) > (L.least))), ((p0.cnt) > (L.least))] ∧
  DuQ w b1 b2 cd bl pa p N t ω L hd [p0, p1, p2, p3] [y0, y1] (fl [z64, z45, [0,5,1,14,14,18,0,0,0,16,0,16,16,16,0,17,0,17,0,17,17,20,17,17,1,17,17,17,17,17,17,0,14,18,13,3,y0,y1,21,21]]) [20, 21, 22, 0, 13, 3] (fun N t ω => ⟨N + 301 + 20, 2, [⟨N + 301 + 6, (p0.who), (p0.t), (p0.cnt - L.least), (t + 2595 + 2)⟩, ⟨N + 301 + 16, (p3.who), (p3.t), (p3.cnt - L.least), (t + 2595 + 9)⟩], (N + 301 + 23), (t + 2595 + 11)⟩) [((([(p0.who), (p3.who)] : List Int), ([y0, y1] : List Nat)) ∈ soT), ((p3.cnt) > (L.least)), (¬ ((p2.cnt) > (L.least))), (¬ ((p1.cnt) > (L.least))), ((p0.cnt) > (L.least))] ∧
  DuQ w b1 b2 cd bl pa p N t ω L hd [p0, p1, p2, p3] [y0, y1] (fl [z64, z54, [0,5,0,0,17,0,17,0,17,17,20,17,17,1,17,17,17,17,17,17,0,14,18,13,6,y0,y1,21,21]]) [20, 21, 22, 0, 13, 6] (fun N t ω => ⟨N + 301 + 20, 2, [⟨N + 301 + 6, (p0.who), (p0.t), (p0.cnt - L.least), (t + 2595 + 2)⟩, ⟨N + 301 + 13, (p2.who), (p2.t), (p2.cnt - L.least), (t + 2595 + 7)⟩], (N + 301 + 23), (t + 2595 + 11)⟩) [((([(p0.who), (p2.who)] : List Int), ([y0, y1] : List Nat)) ∈ soT), (¬ ((p3.cnt) > (L.least))), ((p2.cnt) > (L.least)), (¬ ((p1.cnt) > (L.least))), ((p0.cnt) > (L.least))] ∧
  DuQ w b1 b2 cd bl pa p N t ω L hd [p0, p1, p2, p3] [y0, y1, y2] (fl [z64, z54, z26, [18,0,18,0,18,18,21,18,18,1,18,18,18,18,18,18,0,14,19,14,7,3,y0,y1,y2,22,22]]) [21, 22, 23, 0, 14, 7, 3] (fun N t ω => ⟨N + 301 + 21, 2, [⟨N + 301 + 6, (p0.who), (p0.t), (p0.cnt - L.least), (t + 2595 + 2)⟩, ⟨N + 301 + 13, (p2.who), (p2.t), (p2.cnt - L.least), (t + 2595 + 7)⟩, ⟨N + 301 + 17, (p3.who), (p3.t), (p3.cnt - L.least), (t + 2595 + 10)⟩], (N + 301 + 24), (t + 2595 + 12)⟩) [((([(p0.who), (p2.who), (p3.who)] : List Int), ([y0, y1, y2] : List Nat)) ∈ soT), ((p3.cnt) > (L.least)), ((p2.cnt) > (L.least)), (¬ ((p1.cnt) > (L.least))), ((p0.cnt) > (L.least))] := by
  cases b1 <;> exact ⟨by kernel_rfl, by kernel_rfl, by kernel_rfl, by kernel_rfl⟩
theorem duG4d (L : Loc) (hd : List HE) (p0 p1 p2 p3 : PE) (y0 y1 y2 : Nat) (w : World) (b1 b2 : Bool) (cd : Code) (bl : List (Code × Pos)) (pa : Option Value) (p : Pos) (N t : Nat) (ω : Nat → Nat) : DuQ w b1 b2 cd bl pa p N t ω L hd [p0, p1, p2, p3] [y0, y1] (fl [z65, [0,5,0,0,14,0,14,0,14,14,17,14,14,14,100004,100004,100004,0,100004], z3, [100004], z2, [100004], z2, [100004,1,1,1,15,15,15,15,15,19,0,5,0,0,17,0,17,0,17,17,20,17,17,1,17,17,17,17,17,17,0,14,18,13,9,y0,y1,21,21]]) [20, 21, 22, 0, 13, 9] (fun N t ω => ⟨N + 301 + 20, 2, [⟨N + 301 + 6, (p0.who), (p0.t), (p0.cnt - L.least), (t + 2595 + 2)⟩, ⟨N + 301 + 10, (p1.who), (p1.t), (p1.cnt - L.least), (t + 2595 + 5)⟩], (N + 301 + 23), (t + 2595 + 11)⟩) [((([(p0.who), (p1.who)] : List Int), ([y0, y1] : List Nat)) ∈ soT), (¬ ((p3.cnt) > (L.least))), (¬ ((p2.cnt) > (L.least))), ((p1.cnt) > (L.least)), ((p0.cnt) > (L.least))] ∧
  DuQ w b1 b2 cd bl pa p N t ω L hd [p0, p1, p2, p3] [y0, y1, y2] (fl [z65, [0,5,0,0,14,0,14,0,14,14,17,14,14,14,100004,100004,100004,0,100004], z3, [100004], z2, [100004], z2, [100004,1,1,1,15,15,15,15,15,19], z26, [18,0,18,0,18,18,21,18,18,1,18,18,18,18,18,18,0,14,19,14,10,3,y0,y1,y2,22,22]]) [21, 22, 23, 0, 14, 10, 3] (fun N t ω => ⟨N + 301 + 21, 2, [⟨N + 301 + 6, (p0.who), (p0.t), (p0.cnt - L.least), (t + 2595 + 2)⟩, ⟨N + 301 + 10, (p1.who), (p1.t), (p1.cnt - L.least), (t + 2595 + 5)⟩, ⟨N + 301 + 17, (p3.who), (p3.t), (p3.cnt - L.least), (t + 2595 + 10)⟩], (N + 301 + 24), (t + 2595 + 12)⟩) [((([(p0.who), (p1.who), (p3.who)] : List Int), ([y0, y1, y2] : List Nat)) ∈ soT), ((p3.cnt) > (L.least)), (¬ ((p2.cnt) > (L.least))), ((p1.cnt) > (L.least)), ((p0.cnt) > (L.least))] ∧
  DuQ w b1 b2 cd bl pa p N t ω L hd [p0, p1, p2, p3] [y0, y1, y2] (fl [z65, [0,5,1,12,12,16,0,0,0,14,0,14,14,14,0,15,0,15,0,15,15,18,15,15,15,100004,100004,100004,0,100004], z3, [100004], z2, [100004], z2, [100004,1,1,1,16,16,16,16,16,20,0,5,0,0,18,0,18,0,18,18,21,18,18,1,18,18,18,18,18,18,0,14,19,14,10,6,y0,y1,y2,22,22]]) [21, 22, 23, 0, 14, 10, 6] (fun N t ω => ⟨N + 301 + 21, 2, [⟨N + 301 + 6, (p0.who), (p0.t), (p0.cnt - L.least), (t + 2595 + 2)⟩, ⟨N + 301 + 10, (p1.who), (p1.t), (p1.cnt - L.least), (t + 2595 + 5)⟩, ⟨N + 301 + 14, (p2.who), (p2.t), (p2.cnt - L.least), (t + 2595 + 8)⟩], (N + 301 + 24), (t + 2595 + 12)⟩) [((([(p0.who), (p1.who), (p2.who)] : List Int), ([y0, y1, y2] : List Nat)) ∈ soT), (¬ ((p3.cnt) > (L.least))), ((p2.cnt) > (L.least)), ((p1.cnt) > (L.least)), ((p0.cnt) > (L.least))] := by
  cases b1 <;> exact ⟨by kernel_rfl, by kernel_rfl, by kernel_rfl⟩
theorem ckG0 (L : Loc) (pl : List PE) (e5 : Nat) (w : World) (b1 b2 : Bool) (q1 q2 : Pos) (pa : Option Value) (p : Pos) (N t : Nat) (ω : Nat → Nat) : CkQ w b1 b2 q1 q2 pa p N t ω L [] pl [] e5 (fl [[0,0,1,3,0,0,0,3,0,0,0,3,0,0,0,0,3,2], z6, [4,0,0,0,0,4,0,0,0,4,4,0,3,6,6,6,0,6,0,1,1,1,1,1,6,0,1,1,0,1,0,1,0,3,0,3,0,3,0,3,3,4,3,3,1,3,3,0,14,4,10,1,14,1,0,1,12,1,14]]) [9, 10, 11, 12] (fun N t ω => ⟨(N + 301 + 12), (t + 2595 + 2)⟩) [(([] : List (Int × Int)) = []), ((([] : List Int), ([] : List Nat)) ∈ soT)] := by
  cases b1 <;> exact by kernel_rfl
theorem ckG1 (L : Loc) (pl : List PE) (e5 : Nat) (h0 : HE) (d0 : PE) (w : World) (b1 b2 : Bool) (q1 q2 : Pos) (pa : Option Value) (p : Pos) (N t : Nat) (ω : Nat → Nat) : CkQ w b1 b2 q1 q2 pa p N t ω L [h0] pl [d0] e5 (fl [z58, [(h0.x),0,4,0,1,(h0.y),0,6,0,6,6,6,0,7,0,7,0,7,7,8,7,7,1,7,7,7,7,7,7,0,14,8,3,0,14,1,18,1,0,1,12,1,4,18,100002]]) [13, 14, 15, 16] (fun N t ω => ⟨(ω 16 + (ω 0 + (N + 301 + 9)) + 7), (ω 17 + (ω 1 + (t + 2595 + 4)))⟩) [(([((Int.ofNat (h0.x)), (Int.ofNat (h0.y)))] : List (Int × Int)) = [((d0.who), (d0.cnt))]), ((([(Int.ofNat (h0.x))] : List Int), ([0] : List Nat)) ∈ soT), (NuOk (h0.c) (h0.y)), (NuOk (h0.s) (h0.x))] := by
  cases b1 <;> exact by kernel_rfl
theorem ckG2 (L : Loc) (pl : List PE) (e5 : Nat) (h0 h1 : HE) (d0 d1 : PE) (w : World) (b1 b2 : Bool) (q1 q2 : Pos) (pa : Option Value) (p : Pos) (N t : Nat) (ω : Nat → Nat) : CkQ w b1 b2 q1 q2 pa p N t ω L [h0, h1] pl [d0, d1] e5 (fl [z58, [(h0.x),0,4,0,1,(h0.y)], z52, [(h1.x),0,8,0,1,(h1.y),0,10,0,10,10,10,0,11,0,11,0,11,11,12,11,11,1,11,11,11,11,11,11,0,14,12,7,3,0,1,18,1,22,1,0,1,12,1,8,4,22,100003,100004]]) [17, 18, 19, 20] (fun N t ω => ⟨(ω 48 + (ω 32 + (ω 16 + (ω 0 + (N + 301 + 9)) + 4)) + 7), (ω 49 + (ω 33 + (ω 17 + (ω 1 + (t + 2595 + 4)) + 2)))⟩) [(([((Int.ofNat (h0.x)), (Int.ofNat (h0.y))), ((Int.ofNat (h1.x)), (Int.ofNat (h1.y)))] : List (Int × Int)) = [((d0.who), (d0.cnt)), ((d1.who), (d1.cnt))]), ((([(Int.ofNat (h0.x)), (Int.ofNat (h1.x))] : List Int), ([0, 1] : List Nat)) ∈ soT), (NuOk (h1.c) (h1.y)), (NuOk (h1.s) (h1.x)), (NuOk (h0.c) (h0.y)), (NuOk (h0.s) (h0.x))] ∧
  CkQ w b1 b2 q1 q2 pa p N t ω L [h0, h1] pl [d0, d1] e5 (fl [z58, [(h0.x),0,4,0,1,(h0.y)], z52, [(h1.x),0,8,0,1,(h1.y),0,10,0,10,10,10,0,11,0,11,0,11,11,12,11,11,1,11,11,11,11,11,11,0,14,12,7,3,1,0,18,1,22,1,0,1,12,1,4,8,22,100003,100004]]) [17, 18, 19, 20] (fun N t ω => ⟨(ω 48 + (ω 32 + (ω 16 + (ω 0 + (N + 301 + 9)) + 4)) + 7), (ω 49 + (ω 33 + (ω 17 + (ω 1 + (t + 2595 + 4)) + 2)))⟩) [(([((Int.ofNat (h1.x)), (Int.ofNat (h1.y))), ((Int.ofNat (h0.x)), (Int.ofNat (h0.y)))] : List (Int × Int)) = [((d0.who), (d0.cnt)), ((d1.who), (d1.cnt))]), ((([(Int.ofNat (h0.x)), (Int.ofNat (h1.x))] : List Int), ([1, 0] : List Nat)) ∈ soT), (NuOk (h1.c) (h1.y)), (NuOk (h1.s) (h1.x)), (NuOk (h0.c) (h0.y)), (NuOk (h0.s) (h0.x))] := by
  cases b1 <;> exact ⟨by kernel_rfl, by kernel_rfl⟩
theorem ckG3a (L : Loc) (pl : List PE) (e5 : Nat) (h0 h1 h2 : HE) (d0 d1 d2 : PE) (w : World) (b1 b2 : Bool) (q1 q2 : Pos) (pa : Option Value) (p : Pos) (N t : Nat) (ω : Nat → Nat) : CkQ w b1 b2 q1 q2 pa p N t ω L [h0, h1, h2] pl [d0, d1, d2] e5 (fl [z58, [(h0.x),0,4,0,1,(h0.y)], z52, [(h1.x),0,8,0,1,(h1.y),0,10,0,10,10,10,0,11,0,11,0,11,11,12,11,11,11,100003,100003,100003,0,100003], z3, [100003], z2, [100003], z2, [100003,1,1,1,12,12,12,12,0,12,0,1,(h2.x),0,12,0,1,(h2.y),0,14,0,14,14,14,0,15,0,15,0,15,15,16,15,15,1,15,15,15,15,15,15,0,14,16,11,7,3,0,1,2,22,1,26,1,0,1,12,1,12,8,4,26,100004,100005,100006]]) [21, 22, 23, 24] (fun N t ω => ⟨(ω 80 + (ω 64 + (ω 48 + (ω 32 + (ω 16 + (ω 0 + (N + 301 + 9)) + 4)) + 4)) + 7), (ω 81 + (ω 65 + (ω 49 + (ω 33 + (ω 17 + (ω 1 + (t + 2595 + 4)) + 2)) + 2)))⟩) [(([((Int.ofNat (h0.x)), (Int.ofNat (h0.y))), ((Int.ofNat (h1.x)), (Int.ofNat (h1.y))), ((Int.ofNat (h2.x)), (Int.ofNat (h2.y)))] : List (Int × Int)) = [((d0.who), (d0.cnt)), ((d1.who), (d1.cnt)), ((d2.who), (d2.cnt))]), ((([(Int.ofNat (h0.x)), (Int.ofNat (h1.x)), (Int.ofNat (h2.x))] : List Int), ([0, 1, 2] : List Nat)) ∈ soT), (NuOk (h2.c) (h2.y)), (NuOk (h2.s) (h2.x)), (NuOk (h1.c) (h1.y)), (NuOk (h1.s) (h1.x)), (NuOk (h0.c) (h0.y)), (NuOk (h0.s) (h0.x))] ∧
  CkQ w b1 b2 q1 q2 pa p N t ω L [h0, h1, h2] pl [d0, d1, d2] e5 (fl [z58, [(h0.x),0,4,0,1,(h0.y)], z52, [(h1.x),0,8,0,1,(h1.y),0,10,0,10,10,10,0,11,0,11,0,11,11,12,11,11,11,100003,100003,100003,0,100003], z3, [100003], z2, [100003], z2, [100003,1,1,1,12,12,12,12,0,12,0,1,(h2.x),0,12,0,1,(h2.y),0,14,0,14,14,14,0,15,0,15,0,15,15,16,15,15,1,15,15,15,15,15,15,0,14,16,11,7,3,0,2,1,22,1,26,1,0,1,12,1,12,4,8,26,100004,100005,100006]]) [21, 22, 23, 24] (fun N t ω => ⟨(ω 80 + (ω 64 + (ω 48 + (ω 32 + (ω 16 + (ω 0 + (N + 301 + 9)) + 4)) + 4)) + 7), (ω 81 + (ω 65 + (ω 49 + (ω 33 + (ω 17 + (ω 1 + (t + 2595 + 4)) + 2)) + 2)))⟩) [(([((Int.ofNat (h0.x)), (Int.ofNat (h0.y))), ((Int.ofNat (h2.x)), (Int.ofNat (h2.y))), ((Int.ofNat (h1.x)), (Int.ofNat (h1.y)))] : List (Int × Int)) = [((d0.who), (d0.cnt)), ((d1.who), (d1.cnt)), ((d2.who), (d2.cnt))]), ((([(Int.ofNat (h0.x)), (Int.ofNat (h1.x)), (Int.ofNat (h2.x))] : List Int), ([0, 2, 1] : List Nat)) ∈ soT), (NuOk (h2.c) (h2.y)), (NuOk (h2.s) (h2.x)), (NuOk (h1.c) (h1.y)), (NuOk (h1.s) (h1.x)), (NuOk (h0.c) (h0.y)), (NuOk (h0.s) (h0.x))] ∧
  CkQ w b1 b2 q1 q2 pa p N t ω L [h0, h1, h2] pl [d0, d1, d2] e5 (fl [z58, [(h0.x),0,4,0,1,(h0.y)], z52, [(h1.x),0,8,0,1,(h1.y),0,10,0,10,10,10,0,11,0,11,0,11,11,12,11,11,11,100003,100003,100003,0,100003], z3, [100003], z2, [100003], z2, [100003,1,1,1,12,12,12,12,0,12,0,1,(h2.x),0,12,0,1,(h2.y),0,14,0,14,14,14,0,15,0,15,0,15,15,16,15,15,1,15,15,15,15,15,15,0,14,16,11,7,3,1,0,2,22,1,26,1,0,1,12,1,8,12,4,26,100004,100005,100006]]) [21, 22, 23, 24] (fun N t ω => ⟨(ω 80 + (ω 64 + (ω 48 + (ω 32 + (ω 16 + (ω 0 + (N + 301 + 9)) + 4)) + 4)) + 7), (ω 81 + (ω 65 + (ω 49 + (ω 33 + (ω 17 + (ω 1 + (t + 2595 + 4)) + 2)) + 2)))⟩) [(([((Int.ofNat (h1.x)), (Int.ofNat (h1.y))), ((Int.ofNat (h0.x)), (Int.ofNat (h0.y))), ((Int.ofNat (h2.x)), (Int.ofNat (h2.y)))] : List (Int × Int)) = [((d0.who), (d0.cnt)), ((d1.who), (d1.cnt)), ((d2.who), (d2.cnt))]), ((([(Int.ofNat (h0.x)), (Int.ofNat (h1.x)), (Int.ofNat (h2.x))] : List Int), ([1, 0, 2] : List Nat)) ∈ soT), (NuOk (h2.c) (h2.y)), (NuOk (h2.s) (h2.x)), (NuOk (h1.c) (h1.y)), (NuOk (h1.s) (h1.x)), (NuOk (h0.c) (h0.y)), (NuOk (h0.s) (h0.x))] ∧
  CkQ w b1 b2 q1 q2 pa p N t ω L [h0, h1, h2] pl [d0, d1, d2] e5 (fl [z58, [(h0.x),0,4,0,1,(h0.y)], z52, [(h1.x),0,8,0,1,(h1.y),0,10,0,10,10,10,0,11,0,11,0,11,11,12,11,11,11,100003,100003,100003,0,100003], z3, [100003], z2, [100003], z2, [100003,1,1,1,12,12,12,12,0,12,0,1,(h2.x),0,12,0,1,(h2.y),0,14,0,14,14,14,0,15,0,15,0,15,15,16,15,15,1,15,15,15,15,15,15,0,14,16,11,7,3,1,2,0,22,1,26,1,0,1,12,1,8,4,12,26,100004,100005,100006]]) [21, 22, 23, 24] (fun N t ω => ⟨(ω 80 + (ω 64 + (ω 48 + (ω 32 + (ω 16 + (ω 0 + (N + 301 + 9)) + 4)) + 4)) + 7), (ω 81 + (ω 65 + (ω 49 + (ω 33 + (ω 17 + (ω 1 + (t + 2595 + 4)) + 2)) + 2)))⟩) [(([((Int.ofNat (h1.x)), (Int.ofNat (h1.y))), ((Int.ofNat (h2.x)), (Int.ofNat (h2.y))), ((Int.ofNat (h0.x)), (Int.ofNat (h0.y)))] : List (Int × Int)) = [((d0.who), (d0.cnt)), ((d1.who), (d1.cnt)), ((d2.who), (d2.cnt))]), ((([(Int.ofNat (h0.x)), (Int.ofNat (h1.x)), (Int.ofNat (h2.x))] : List Int), ([1, 2, 0] : List Nat)) ∈ soT), (NuOk (h2.c) (h2.y)), (NuOk (h2.s) (h2.x)), (NuOk (h1.c) (h1.y)), (NuOk (h1.s) (h1.x)), (NuOk (h0.c) (h0.y)), (NuOk (h0.s) (h0.x))] := by
  cases b1 <;> exact ⟨by kernel_rfl, by kernel_rfl, by kernel_rfl, by kernel_rfl⟩
theorem ckG3b (L : Loc) (pl : List PE) (e5 : Nat) (h0 h1 h2 : HE) (d0 d1 d2 : PE) (w : World) (b1 b2 : Bool) (q1 q2 : Pos) (pa : Option Value) (p : Pos) (N t : Nat) (ω : Nat → Nat) : CkQ w b1 b2 q1 q2 pa p N t ω L [h0, h1, h2] pl [d0, d1, d2] e5 (fl [z58, [(h0.x),0,4,0,1,(h0.y)], z52, [(h1.x),0,8,0,1,(h1.y),0,10,0,10,10,10,0,11,0,11,0,11,11,12,11,11,11,100003,100003,100003,0,100003], z3, [100003], z2, [100003], z2, [100003,1,1,1,12,12,12,12,0,12,0,1,(h2.x),0,12,0,1,(h2.y),0,14,0,14,14,14,0,15,0,15,0,15,15,16,15,15,1,15,15,15,15,15,15,0,14,16,11,7,3,2,0,1,22,1,26,1,0,1,12,1,4,12,8,26,100004,100005,100006]]) [21, 22, 23, 24] (fun N t ω => ⟨(ω 80 + (ω 64 + (ω 48 + (ω 32 + (ω 16 + (ω 0 + (N + 301 + 9)) + 4)) + 4)) + 7), (ω 81 + (ω 65 + (ω 49 + (ω 33 + (ω 17 + (ω 1 + (t + 2595 + 4)) + 2)) + 2)))⟩) [(([((Int.ofNat (h2.x)), (Int.ofNat (h2.y))), ((Int.ofNat (h0.x)), (Int.ofNat (h0.y))), ((Int.ofNat (h1.x)), (Int.ofNat (h1.y)))] : List (Int × Int)) = [((d0.who), (d0.cnt)), ((d1.who), (d1.cnt)), ((d2.who), (d2.cnt))]), ((([(Int.ofNat (h0.x)), (Int.ofNat (h1.x)), (Int.ofNat (h2.x))] : List Int), ([2, 0, 1] : List Nat)) ∈ soT), (NuOk (h2.c) (h2.y)), (NuOk (h2.s) (h2.x)), (NuOk (h1.c) (h1.y)), (NuOk (h1.s) (h1.x)), (NuOk (h0.c) (h0.y)), (NuOk (h0.s) (h0.x))] ∧
  CkQ w b1 b2 q1 q2 pa p N t ω L [h0, h1, h2] pl [d0, d1, d2] e5 (fl [z58, [(h0.x),0,4,0,1,(h0.y)], z52, [(h1.x),0,8,0,1,(h1.y),0,10,0,10,10,10,0,11,0,11,0,11,11,12,11,11,11,100003,100003,100003,0,100003], z3, [100003], z2, [100003], z2, [100003,1,1,1,12,12,12,12,0,12,0,1,(h2.x),0,12,0,1,(h2.y),0,14,0,14,14,14,0,15,0,15,0,15,15,16,15,15,1,15,15,15,15,15,15,0,14,16,11,7,3,2,1,0,22,1,26,1,0,1,12,1,4,8,12,26,100004,100005,100006]]) [21, 22, 23, 24] (fun N t ω => ⟨(ω 80 + (ω 64 + (ω 48 + (ω 32 + (ω 16 + (ω 0 + (N + 301 + 9)) + 4)) + 4)) + 7), (ω 81 + (ω 65 + (ω 49 + (ω 33 + (ω 17 + (ω 1 + (t + 2595 + 4)) + 2)) + 2)))⟩) [(([((Int.ofNat (h2.x)), (Int.ofNat (h2.y))), ((Int.ofNat (h1.x)), (Int.ofNat (h1.y))), ((Int.ofNat (h0.x)), (Int.ofNat (h0.y)))] : List (Int × Int)) = [((d0.who), (d0.cnt)), ((d1.who), (d1.cnt)), ((d2.who), (d2.cnt))]), ((([(Int.ofNat (h0.x)), (Int.ofNat (h1.x)), (Int.ofNat (h2.x))] : List Int), ([2, 1, 0] : List Nat)) ∈ soT), (NuOk (h2.c) (h2.y)), (NuOk (h2.s) (h2.x)), (NuOk (h1.c) (h1.y)), (NuOk (h1.s) (h1.x)), (NuOk (h0.c) (h0.y)), (NuOk (h0.s) (h0.x))] := by
  cases b1 <;> exact ⟨by kernel_rfl, by kernel_rfl⟩
theorem fnG0 (L : Loc) (kept : Int) (Xc : Cells) (x0 vt cnt : Nat) (w : World) (b1 b2 : Bool) (cd : Code) (bl : List (Code × Pos)) (pa : Option Value) (p : Pos) (N t : Nat) (ω : Nat → Nat) : FnQ w b1 b2 cd bl pa p N t ω false L kept [] Xc x0 vt (fl [z32, [(x0),0,1,(x0)], z35, [(x0),0,2,1,1,1,5,0,0,0,0,5,0,0,0,5,5,0,4,6,6,0,6], z5, [7,1,1,1,0,4,0,1,0,5,5,5,5,10,10,10,10,5,0,10,11,10,(cnt),0,4,1,5,6,0,0,0,4,1]]) [4, 5, 6, 7, 8, 9] (fun N t ω => ⟨fnL [(11, vt), (15, (ω 65 + (ω 17 + (ω 1 + (t + 2595 + 1) + 1) + 11))), (16, (ω 66))] L.τ, (0 : Int), (ω 64 + (ω 16 + (ω 0 + (N + 301)) + 5)), (ω 65 + (ω 17 + (ω 1 + (t + 2595 + 1) + 1) + 11) + 3)⟩) [((Int.ofNat (cnt)) ≤ ((0 : Int) + L.least)), ((0) ≤ (Int.ofNat (cnt))), (R.CountL L.X (Int.ofNat (x0)) (cnt)), (NuOk (⟨#[]⟩ : Str) 0), (CvOk (lo (x0)) true), (LwOk (apS (x0)) (x0)), (DcOk (apB (x0)) (x0)), (ApOk (Int.ofNat (x0)) (x0))] ∧
  FnQ w b1 b2 cd bl pa p N t ω true L kept [] Xc x0 vt (fl [z32, [(x0),0,1,(x0)], z35, [(x0),0,2,1,1,1,5,0,0,0,0,5,0,0,0,5,5,0,4,6,6,0,6], z5, [7,1,1,1,0,4,0,1,0,5,5,5,5,10,10,10,10,5,0,10,11,10,(cnt),0,4,1,5,6,0,0,0,4,1]]) [4, 5, 6, 7, 8, 9] (fun N t ω => ⟨fnL [(11, vt), (15, (L.τ 15)), (16, (ω 66))] L.τ, (0 : Int), (ω 64 + (ω 16 + (ω 0 + (N + 301)) + 5)), (ω 65 + (ω 17 + (ω 1 + (t + 2595 + 1) + 1) + 11) + 3)⟩) [((Int.ofNat (cnt)) ≤ ((0 : Int) + L.least)), ((0) ≤ (Int.ofNat (cnt))), (R.CountL L.X (Int.ofNat (x0)) (cnt)), (NuOk (⟨#[]⟩ : Str) 0), (CvOk (lo (x0)) true), (LwOk (apS (x0)) (x0)), (DcOk (apB (x0)) (x0)), (ApOk (Int.ofNat (x0)) (x0))] := by
  cases b1 <;> exact ⟨by kernel_rfl, by kernel_rfl⟩
theorem fnG1 (L : Loc) (kept : Int) (Xc : Cells) (x0 vt cnt : Nat) (h0 : HE) (w : World) (b1 b2 : Bool) (cd : Code) (bl : List (Code × Pos)) (pa : Option Value) (p : Pos) (N t : Nat) (ω : Nat → Nat) : FnQ w b1 b2 cd bl pa p N t ω false L kept [h0] Xc x0 vt (fl [z32, [(x0),0,1,(x0)], z35, [(x0)], z55, [(h0.x)], z0, [(h0.y)], z13, [(cnt),0,4,1,6,7,0,0,0,4,1]]) [5, 6, 7, 8, 9, 10] (fun N t ω => ⟨fnL [(11, vt), (15, (ω 97 + (ω 17 + (ω 1 + (t + 2595 + 1) + 1) + 14))), (16, (ω 98))] L.τ, Int.ofNat h0.y, (ω 96 + (ω 16 + (ω 0 + (N + 301)) + 6)), (ω 97 + (ω 17 + (ω 1 + (t + 2595 + 1) + 1) + 14) + 3)⟩) [((Int.ofNat (cnt)) ≤ (Int.ofNat (h0.y) + L.least)), ((Int.ofNat (h0.y)) ≤ (Int.ofNat (cnt))), (R.CountL L.X (Int.ofNat (x0)) (cnt)), (NuOk (h0.c) (h0.y)), ((lo (h0.x)) = (lo (x0))), (LwOk (h0.s) (h0.x)), (CvOk (lo (x0)) true), (LwOk (apS (x0)) (x0)), (DcOk (apB (x0)) (x0)), (ApOk (Int.ofNat (x0)) (x0))] ∧
  FnQ w b1 b2 cd bl pa p N t ω false L kept [h0] Xc x0 vt (fl [z32, [(x0),0,1,(x0)], z35, [(x0)], z55, [(h0.x),5,0,7,0,0,4,0,4,0,4,4,10,4,4,1,0,7,0,1,0,8,8,8,8,13,13,13,13,8,0,13,11,13,(cnt),0,4,1,8,9,0,0,0,4,1]]) [7, 8, 9, 10, 11, 12] (fun N t ω => ⟨fnL [(11, vt), (15, (ω 97 + (ω 17 + (ω 1 + (t + 2595 + 1) + 1) + 14))), (16, (ω 98))] L.τ, (0 : Int), (ω 96 + (ω 16 + (ω 0 + (N + 301)) + 8)), (ω 97 + (ω 17 + (ω 1 + (t + 2595 + 1) + 1) + 14) + 3)⟩) [((Int.ofNat (cnt)) ≤ ((0 : Int) + L.least)), ((0) ≤ (Int.ofNat (cnt))), (R.CountL L.X (Int.ofNat (x0)) (cnt)), (NuOk (⟨#[]⟩ : Str) 0), ((lo (h0.x)) ≠ (lo (x0))), (LwOk (h0.s) (h0.x)), (CvOk (lo (x0)) true), (LwOk (apS (x0)) (x0)), (DcOk (apB (x0)) (x0)), (ApOk (Int.ofNat (x0)) (x0))] ∧
  FnQ w b1 b2 cd bl pa p N t ω true L kept [h0] Xc x0 vt (fl [z32, [(x0),0,1,(x0)], z35, [(x0)], z55, [(h0.x)], z0, [(h0.y)], z13, [(cnt),0,4,1,6,7,0,0,0,4,1]]) [5, 6, 7, 8, 9, 10] (fun N t ω => ⟨fnL [(11, vt), (15, (L.τ 15)), (16, (ω 98))] L.τ, Int.ofNat h0.y, (ω 96 + (ω 16 + (ω 0 + (N + 301)) + 6)), (ω 97 + (ω 17 + (ω 1 + (t + 2595 + 1) + 1) + 14) + 3)⟩) [((Int.ofNat (cnt)) ≤ (Int.ofNat (h0.y) + L.least)), ((Int.ofNat (h0.y)) ≤ (Int.ofNat (cnt))), (R.CountL L.X (Int.ofNat (x0)) (cnt)), (NuOk (h0.c) (h0.y)), ((lo (h0.x)) = (lo (x0))), (LwOk (h0.s) (h0.x)), (CvOk (lo (x0)) true), (LwOk (apS (x0)) (x0)), (DcOk (apB (x0)) (x0)), (ApOk (Int.ofNat (x0)) (x0))] ∧
  FnQ w b1 b2 cd bl pa p N t ω true L kept [h0] Xc x0 vt (fl [z32, [(x0),0,1,(x0)], z35, [(x0)], z55, [(h0.x),5,0,7,0,0,4,0,4,0,4,4,10,4,4,1,0,7,0,1,0,8,8,8,8,13,13,13,13,8,0,13,11,13,(cnt),0,4,1,8,9,0,0,0,4,1]]) [7, 8, 9, 10, 11, 12] (fun N t ω => ⟨fnL [(11, vt), (15, (L.τ 15)), (16, (ω 98))] L.τ, (0 : Int), (ω 96 + (ω 16 + (ω 0 + (N + 301)) + 8)), (ω 97 + (ω 17 + (ω 1 + (t + 2595 + 1) + 1) + 14) + 3)⟩) [((Int.ofNat (cnt)) ≤ ((0 : Int) + L.least)), ((0) ≤ (Int.ofNat (cnt))), (R.CountL L.X (Int.ofNat (x0)) (cnt)), (NuOk (⟨#[]⟩ : Str) 0), ((lo (h0.x)) ≠ (lo (x0))), (LwOk (h0.s) (h0.x)), (CvOk (lo (x0)) true), (LwOk (apS (x0)) (x0)), (DcOk (apB (x0)) (x0)), (ApOk (Int.ofNat (x0)) (x0))] := by
  cases b1 <;> exact ⟨by kernel_rfl, by kernel_rfl, by kernel_rfl, by kernel_rfl⟩
theorem fnG2a (L : Loc) (kept : Int) (Xc : Cells) (x0 vt cnt : Nat) (h0 h1 : HE) (w : World) (b1 b2 : Bool) (cd : Code) (bl : List (Code × Pos)) (pa : Option Value) (p : Pos) (N t : Nat) (ω : Nat → Nat) : FnQ w b1 b2 cd bl pa p N t ω false L kept [h0, h1] Xc x0 vt (fl [z32, [(x0),0,1,(x0)], z35, [(x0)], z55, [(h0.x)], z0, [(h0.y)], z13, [(cnt),0,4,1,6,7,0,0,0,4,1]]) [5, 6, 7, 8, 9, 10] (fun N t ω => ⟨fnL [(11, vt), (15, (ω 97 + (ω 17 + (ω 1 + (t + 2595 + 1) + 1) + 14))), (16, (ω 98))] L.τ, Int.ofNat h0.y, (ω 96 + (ω 16 + (ω 0 + (N + 301)) + 6)), (ω 97 + (ω 17 + (ω 1 + (t + 2595 + 1) + 1) + 14) + 3)⟩) [((Int.ofNat (cnt)) ≤ (Int.ofNat (h0.y) + L.least)), ((Int.ofNat (h0.y)) ≤ (Int.ofNat (cnt))), (R.CountL L.X (Int.ofNat (x0)) (cnt)), (NuOk (h0.c) (h0.y)), ((lo (h0.x)) = (lo (x0))), (LwOk (h0.s) (h0.x)), (CvOk (lo (x0)) true), (LwOk (apS (x0)) (x0)), (DcOk (apB (x0)) (x0)), (ApOk (Int.ofNat (x0)) (x0))] ∧
  FnQ w b1 b2 cd bl pa p N t ω false L kept [h0, h1] Xc x0 vt (fl [z32, [(x0),0,1,(x0)], z35, [(x0)], z55, [(h0.x)], z51, [(h1.x),8,0,7,1,8,0,1,(h1.y)], z14, [(cnt),0,4,1,9,10,0,0,0,4,1]]) [8, 9, 10, 11, 12, 13] (fun N t ω => ⟨fnL [(11, vt), (15, (ω 129 + (ω 17 + (ω 1 + (t + 2595 + 1) + 1) + 17))), (16, (ω 130))] L.τ, Int.ofNat h1.y, (ω 128 + (ω 16 + (ω 0 + (N + 301)) + 9)), (ω 129 + (ω 17 + (ω 1 + (t + 2595 + 1) + 1) + 17) + 3)⟩) [((Int.ofNat (cnt)) ≤ (Int.ofNat (h1.y) + L.least)), ((Int.ofNat (h1.y)) ≤ (Int.ofNat (cnt))), (R.CountL L.X (Int.ofNat (x0)) (cnt)), (NuOk (h1.c) (h1.y)), ((lo (h1.x)) = (lo (x0))), (LwOk (h1.s) (h1.x)), ((lo (h0.x)) ≠ (lo (x0))), (LwOk (h0.s) (h0.x)), (CvOk (lo (x0)) true), (LwOk (apS (x0)) (x0)), (DcOk (apB (x0)) (x0)), (ApOk (Int.ofNat (x0)) (x0))] ∧
  FnQ w b1 b2 cd bl pa p N t ω false L kept [h0, h1] Xc x0 vt (fl [z32, [(x0),0,1,(x0)], z35, [(x0)], z55, [(h0.x)], z51, [(h1.x),8,0,7,0,0,7,0,7,0,7,7,13,7,7,1,0,10,0,1,0,11,11,11,11,16,16,16,16,11,0,16,11,16,(cnt),0,4,1,11,12,0,0,0,4,1]]) [10, 11, 12, 13, 14, 15] (fun N t ω => ⟨fnL [(11, vt), (15, (ω 129 + (ω 17 + (ω 1 + (t + 2595 + 1) + 1) + 17))), (16, (ω 130))] L.τ, (0 : Int), (ω 128 + (ω 16 + (ω 0 + (N + 301)) + 11)), (ω 129 + (ω 17 + (ω 1 + (t + 2595 + 1) + 1) + 17) + 3)⟩) [((Int.ofNat (cnt)) ≤ ((0 : Int) + L.least)), ((0) ≤ (Int.ofNat (cnt))), (R.CountL L.X (Int.ofNat (x0)) (cnt)), (NuOk (⟨#[]⟩ : Str) 0), ((lo (h1.x)) ≠ (lo (x0))), (LwOk (h1.s) (h1.x)), ((lo (h0.x)) ≠ (lo (x0))), (LwOk (h0.s) (h0.x)), (CvOk (lo (x0)) true), (LwOk (apS (x0)) (x0)), (DcOk (apB (x0)) (x0)), (ApOk (Int.ofNat (x0)) (x0))] ∧
  FnQ w b1 b2 cd bl pa p N t ω true L kept [h0, h1] Xc x0 vt (fl [z32, [(x0),0,1,(x0)], z35, [(x0)], z55, [(h0.x)], z0, [(h0.y)], z13, [(cnt),0,4,1,6,7,0,0,0,4,1]]) [5, 6, 7, 8, 9, 10] (fun N t ω => ⟨fnL [(11, vt), (15, (L.τ 15)), (16, (ω 98))] L.τ, Int.ofNat h0.y, (ω 96 + (ω 16 + (ω 0 + (N + 301)) + 6)), (ω 97 + (ω 17 + (ω 1 + (t + 2595 + 1) + 1) + 14) + 3)⟩) [((Int.ofNat (cnt)) ≤ (Int.ofNat (h0.y) + L.least)), ((Int.ofNat (h0.y)) ≤ (Int.ofNat (cnt))), (R.CountL L.X (Int.ofNat (x0)) (cnt)), (NuOk (h0.c) (h0.y)), ((lo (h0.x)) = (lo (x0))), (LwOk (h0.s) (h0.x)), (CvOk (lo (x0)) true), (LwOk (apS (x0)) (x0)), (DcOk (apB (x0)) (x0)), (ApOk (Int.ofNat (x0)) (x0))] ∧
  FnQ w b1 b2 cd bl pa p N t ω true L kept [h0, h1] Xc x0 vt (fl [z32, [(x0),0,1,(x0)], z35, [(x0)], z55, [(h0.x)], z51, [(h1.x),8,0,7,1,8,0,1,(h1.y)], z14, [(cnt),0,4,1,9,10,0,0,0,4,1]]) [8, 9, 10, 11, 12, 13] (fun N t ω => ⟨fnL [(11, vt), (15, (L.τ 15)), (16, (ω 130))] L.τ, Int.ofNat h1.y, (ω 128 + (ω 16 + (ω 0 + (N + 301)) + 9)), (ω 129 + (ω 17 + (ω 1 + (t + 2595 + 1) + 1) + 17) + 3)⟩) [((Int.ofNat (cnt)) ≤ (Int.ofNat (h1.y) + L.least)), ((Int.ofNat (h1.y)) ≤ (Int.ofNat (cnt))), (R.CountL L.X (Int.ofNat (x0)) (cnt)), (NuOk (h1.c) (h1.y)), ((lo (h1.x)) = (lo (x0))), (LwOk (h1.s) (h1.x)), ((lo (h0.x)) ≠ (lo (x0))), (LwOk (h0.s) (h0.x)), (CvOk (lo (x0)) true), (LwOk (apS (x0)) (x0)), (DcOk (apB (x0)) (x0)), (ApOk (Int.ofNat (x0)) (x0))] := by
  cases b1 <;> exact ⟨by kernel_rfl, by kernel_rfl, by kernel_rfl, by kernel_rfl, by kernel_rfl⟩
theorem fnG2b (L : Loc) (kept : Int) (Xc : Cells) (x0 vt cnt : Nat) (h0 h1 : HE) (w : World) (b1 b2 : Bool) (cd : Code) (bl : List (Code × Pos)) (pa : Option Value) (p : Pos) (N t : Nat) (ω : Nat → Nat) : FnQ w b1 b2 cd bl pa p N t ω true L kept [h0, h1] Xc x0 vt (fl [z32, [(x0),0,1,(x0)], z35, [(x0)], z55, [(h0.x)], z51, [(h1.x),8,0,7,0,0,7,0,7,0,7,7,13,7,7,1,0,10,0,1,0,11,11,11,11,16,16,16,16,11,0,16,11,16,(cnt),0,4,1,11,12,0,0,0,4,1]]) [10, 11, 12, 13, 14, 15] (fun N t ω => ⟨fnL [(11, vt), (15, (L.τ 15)), (16, (ω 130))] L.τ, (0 : Int), (ω 128 + (ω 16 + (ω 0 + (N + 301)) + 11)), (ω 129 + (ω 17 + (ω 1 + (t + 2595 + 1) + 1) + 17) + 3)⟩) [((Int.ofNat (cnt)) ≤ ((0 : Int) + L.least)), ((0) ≤ (Int.ofNat (cnt))), (R.CountL L.X (Int.ofNat (x0)) (cnt)), (NuOk (⟨#[]⟩ : Str) 0), ((lo (h1.x)) ≠ (lo (x0))), (LwOk (h1.s) (h1.x)), ((lo (h0.x)) ≠ (lo (x0))), (LwOk (h0.s) (h0.x)), (CvOk (lo (x0)) true), (LwOk (apS (x0)) (x0)), (DcOk (apB (x0)) (x0)), (ApOk (Int.ofNat (x0)) (x0))] := by
  cases b1 <;> exact by kernel_rfl
theorem fnG3a (L : Loc) (kept : Int) (Xc : Cells) (x0 vt cnt : Nat) (h0 h1 h2 : HE) (w : World) (b1 b2 : Bool) (cd : Code) (bl : List (Code × Pos)) (pa : Option Value) (p : Pos) (N t : Nat) (ω : Nat → Nat) : FnQ w b1 b2 cd bl pa p N t ω false L kept [h0, h1, h2] Xc x0 vt (fl [z32, [(x0),0,1,(x0)], z35, [(x0)], z55, [(h0.x)], z0, [(h0.y)], z13, [(cnt),0,4,1,6,7,0,0,0,4,1]]) [5, 6, 7, 8, 9, 10] (fun N t ω => ⟨fnL [(11, vt), (15, (ω 97 + (ω 17 + (ω 1 + (t + 2595 + 1) + 1) + 14))), (16, (ω 98))] L.τ, Int.ofNat h0.y, (ω 96 + (ω 16 + (ω 0 + (N + 301)) + 6)), (ω 97 + (ω 17 + (ω 1 + (t + 2595 + 1) + 1) + 14) + 3)⟩) [((Int.ofNat (cnt)) ≤ (Int.ofNat (h0.y) + L.least)), ((Int.ofNat (h0.y)) ≤ (Int.ofNat (cnt))), (R.CountL L.X (Int.ofNat (x0)) (cnt)), (NuOk (h0.c) (h0.y)), ((lo (h0.x)) = (lo (x0))), (LwOk (h0.s) (h0.x)), (CvOk (lo (x0)) true), (LwOk (apS (x0)) (x0)), (DcOk (apB (x0)) (x0)), (ApOk (Int.ofNat (x0)) (x0))] ∧
  FnQ w b1 b2 cd bl pa p N t ω false L kept [h0, h1, h2] Xc x0 vt (fl [z32, [(x0),0,1,(x0)], z35, [(x0)], z55, [(h0.x)], z51, [(h1.x),8,0,7,1,8,0,1,(h1.y)], z14, [(cnt),0,4,1,9,10,0,0,0,4,1]]) [8, 9, 10, 11, 12, 13] (fun N t ω => ⟨fnL [(11, vt), (15, (ω 129 + (ω 17 + (ω 1 + (t + 2595 + 1) + 1) + 17))), (16, (ω 130))] L.τ, Int.ofNat h1.y, (ω 128 + (ω 16 + (ω 0 + (N + 301)) + 9)), (ω 129 + (ω 17 + (ω 1 + (t + 2595 + 1) + 1) + 17) + 3)⟩) [((Int.ofNat (cnt)) ≤ (Int.ofNat (h1.y) + L.least)), ((Int.ofNat (h1.y)) ≤ (Int.ofNat (cnt))), (R.CountL L.X (Int.ofNat (x0)) (cnt)), (NuOk (h1.c) (h1.y)), ((lo (h1.x)) = (lo (x0))), (LwOk (h1.s) (h1.x)), ((lo (h0.x)) ≠ (lo (x0))), (LwOk (h0.s) (h0.x)), (CvOk (lo (x0)) true), (LwOk (apS (x0)) (x0)), (DcOk (apB (x0)) (x0)), (ApOk (Int.ofNat (x0)) (x0))] ∧
  FnQ w b1 b2 cd bl pa p N t ω false L kept [h0, h1, h2] Xc x0 vt (fl [z32, [(x0),0,1,(x0)], z35, [(x0)], z55, [(h0.x)], z51, [(h1.x),8,0,7,0,0,7,0,7,0,7,7,13,7,7,7], z39, [0,2,(h2.x),11,0,7,1,11,0,1,(h2.y),12,12,12,12,17,17,17,17,12,0,17,11,17,(cnt),0,4,1,12,13,0,0,0,4,1]]) [11, 12, 13, 14, 15, 16] (fun N t ω => ⟨fnL [(11, vt), (15, (ω 161 + (ω 17 + (ω 1 + (t + 2595 + 1) + 1) + 20))), (16, (ω 162))] L.τ, Int.ofNat h2.y, (ω 160 + (ω 16 + (ω 0 + (N + 301)) + 12)), (ω 161 + (ω 17 + (ω 1 + (t + 2595 + 1) + 1) + 20) + 3)⟩) [((Int.ofNat (cnt)) ≤ (Int.ofNat (h2.y) + L.least)), ((Int.ofNat (h2.y)) ≤ (Int.ofNat (cnt))), (R.CountL L.X (Int.ofNat (x0)) (cnt)), (NuOk (h2.c) (h2.y)), ((lo (h2.x)) = (lo (x0))), (LwOk (h2.s) (h2.x)), ((lo (h1.x)) ≠ (lo (x0))), (LwOk (h1.s) (h1.x)), ((lo (h0.x)) ≠ (lo (x0))), (LwOk (h0.s) (h0.x)), (CvOk (lo (x0)) true), (LwOk (apS (x0)) (x0)), (DcOk (apB (x0)) (x0)), (ApOk (Int.ofNat (x0)) (x0))] ∧
  FnQ w b1 b2 cd bl pa p N t ω false L kept [h0, h1, h2] Xc x0 vt (fl [z32, [(x0),0,1,(x0)], z35, [(x0)], z55, [(h0.x)], z51, [(h1.x),8,0,7,0,0,7,0,7,0,7,7,13,7,7,7], z39, [0,2,(h2.x),11,0,7,0,0,10,0,10,0,10,10,16,10,10,1,0,13,0,1,0,14,14,14,14,19,19,19,19,14,0,19,11,19,(cnt),0,4,1,14,15,0,0,0,4,1]]) [13, 14, 15, 16, 17, 18] (fun N t ω => ⟨fnL [(11, vt), (15, (ω 161 + (ω 17 + (ω 1 + (t + 2595 + 1) + 1) + 20))), (16, (ω 162))] L.τ, (0 : Int), (ω 160 + (ω 16 + (ω 0 + (N + 301)) + 14)), (ω 161 + (ω 17 + (ω 1 + (t + 2595 + 1) + 1) + 20) + 3)⟩) [((Int.ofNat (cnt)) ≤ ((0 : Int) + L.least)), ((0) ≤ (Int.ofNat (cnt))), (R.CountL L.X (Int.ofNat (x0)) (cnt)), (NuOk (⟨#[]⟩ : Str) 0), ((lo (h2.x)) ≠ (lo (x0))), (LwOk (h2.s) (h2.x)), ((lo (h1.x)) ≠ (lo (x0))), (LwOk (h1.s) (h1.x)), ((lo (h0.x)) ≠ (lo (x0))), (LwOk (h0.s) (h0.x)), (CvOk (lo (x0)) true), (LwOk (apS (x0)) (x0)), (DcOk (apB (x0)) (x0)), (ApOk (Int.ofNat (x0)) (x0))] ∧
  FnQ w b1 b2 cd bl pa p N t ω true L kept [h0, h1, h2] Xc x0 vt (fl [z32, [(x0),0,1,(x0)], z35, [(x0)], z55, [(h0.x)], z0, [(h0.y)], z13, [(cnt),0,4,1,6,7,0,0,0,4,1]]) [5, 6, 7, 8, 9, 10] (fun N t ω => ⟨fnL [(11, vt), (15, (L.τ 15)), (16, (ω 98))] L.τ, Int.ofNat h0.y, (ω 96 + (ω 16 + (ω 0 + (N + 301)) + 6)), (ω 97 + (ω 17 + (ω 1 + (t + 2595 + 1) + 1) + 14) + 3)⟩) [((Int.ofNat (cnt)) ≤ (Int.ofNat (h0.y) + L.least)), ((Int.ofNat (h0.y)) ≤ (Int.ofNat (cnt))), (R.CountL L.X (Int.ofNat (x0)) (cnt)), (NuOk (h0.c) (h0.y)), ((lo (h0.x)) = (lo (x0))), (LwOk (h0.s) (h0.x)), (CvOk (lo (x0)) true), (LwOk (apS (x0)) (x0)), (DcOk (apB (x0)) (x0)), (ApOk (Int.ofNat (x0)) (x0))] := by
  cases b1 <;> exact ⟨by kernel_rfl, by kernel_rfl, by kernel_rfl, by kernel_rfl, by kernel_rfl⟩
theorem fnG3b (L : Loc) (kept : Int) (Xc : Cells) (x0 vt cnt : Nat) (h0 h1 h2 : HE) (w : World) (b1 b2 : Bool) (cd : Code) (bl : List (Code × Pos)) (pa : Option Value) (p : Pos) (N t : Nat) (ω : Nat → Nat) : FnQ w b1 b2 cd bl pa p N t ω true L kept [h0, h1, h2] Xc x0 vt (fl [z32, [(x0),0,1,(x0)], z35, [(x0)], z55, [(h0.x)], z51, [(h1.x),8,0,7,1,8,0,1,(h1.y)], z14, [(cnt),0,4,1,9,10,0,0,0,4,1]]) [8, 9, 10, 11, 12, 13] (fun N t ω => ⟨fnL [(11, vt), (15, (L.τ 15)), (16, (ω 130))] L.τ, Int.ofNat h1.y, (ω 128 + (ω 16 + (ω 0 + (N + 301)) + 9)), (ω 129 + (ω 17 + (ω 1 + (t + 2595 + 1) + 1) + 17) + 3)⟩) [((Int.ofNat (cnt)) ≤ (Int.ofNat (h1.y) + L.least)), ((Int.ofNat (h1.y)) ≤ (Int.ofNat (cnt))), (R.CountL L.X (Int.ofNat (x0)) (cnt)), (NuOk (h1.c) (h1.y)), ((lo (h1.x)) = (lo (x0))), (LwOk (h1.s) (h1.x)), ((lo (h0.x)) ≠ (lo (x0))), (LwOk (h0.s) (h0.x)), (CvOk (lo (x0)) true), (LwOk (apS (x0)) (x0)), (DcOk (apB (x0)) (x0)), (ApOk (Int.ofNat (x0)) (x0))] ∧
  FnQ w b1 b2 cd bl pa p N t ω true L kept [h0, h1, h2] Xc x0 vt (fl [z32, [(x0),0,1,(x0)], z35, [(x0)], z55, [(h0.x)], z51, [(h1.x),8,0,7,0,0,7,0,7,0,7,7,13,7,7,7], z39, [0,2,(h2.x),11,0,7,1,11,0,1,(h2.y),12,12,12,12,17,17,17,17,12,0,17,11,17,(cnt),0,4,1,12,13,0,0,0,4,1]]) [11, 12, 13, 14, 15, 16] (fun N t ω => ⟨fnL [(11, vt), (15, (L.τ 15)), (16, (ω 162))] L.τ, Int.ofNat h2.y, (ω 160 + (ω 16 + (ω 0 + (N + 301)) + 12)), (ω 161 + (ω 17 + (ω 1 + (t + 2595 + 1) + 1) + 20) + 3)⟩) [((Int.ofNat (cnt)) ≤ (Int.ofNat (h2.y) + L.least)), ((Int.ofNat (h2.y)) ≤ (Int.ofNat (cnt))), (R.CountL L.X (Int.ofNat (x0)) (cnt)), (NuOk (h2.c) (h2.y)), ((lo (h2.x)) = (lo (x0))), (LwOk (h2.s) (h2.x)), ((lo (h1.x)) ≠ (lo (x0))), (LwOk (h1.s) (h1.x)), ((lo (h0.x)) ≠ (lo (x0))), (LwOk (h0.s) (h0.x)), (CvOk (lo (x0)) true), (LwOk (apS (x0)) (x0)), (DcOk (apB (x0)) (x0)), (ApOk (Int.ofNat (x0)) (x0))] ∧
  FnQ w b1 b2 cd bl pa p N t ω true L kept [h0, h1, h2] Xc x0 vt (fl [z32, [(x0),0,1,(x0)], z35, [(x0)], z55, [(h0.x)], z51, [(h1.x),8,0,7,0,0,7,0,7,0,7,7,13,7,7,7], z39, [0,2,(h2.x),11,0,7,0,0,10,0,10,0,10,10,16,10,10,1,0,13,0,1,0,14,14,14,14,19,19,19,19,14,0,19,11,19,(cnt),0,4,1,14,15,0,0,0,4,1]]) [13, 14, 15, 16, 17, 18] (fun N t ω => ⟨fnL [(11, vt), (15, (L.τ 15)), (16, (ω 162))] L.τ, (0 : Int), (ω 160 + (ω 16 + (ω 0 + (N + 301)) + 14)), (ω 161 + (ω 17 + (ω 1 + (t + 2595 + 1) + 1) + 20) + 3)⟩) [((Int.ofNat (cnt)) ≤ ((0 : Int) + L.least)), ((0) ≤ (Int.ofNat (cnt))), (R.CountL L.X (Int.ofNat (x0)) (cnt)), (NuOk (⟨#[]⟩ : Str) 0), ((lo (h2.x)) ≠ (lo (x0))), (LwOk (h2.s) (h2.x)), ((lo (h1.x)) ≠ (lo (x0))), (LwOk (h1.s) (h1.x)), ((lo (h0.x)) ≠ (lo (x0))), (LwOk (h0.s) (h0.x)), (CvOk (lo (x0)) true), (LwOk (apS (x0)) (x0)), (DcOk (apB (x0)) (x0)), (ApOk (Int.ofNat (x0)) (x0))] := by
  cases b1 <;> exact ⟨by kernel_rfl, by kernel_rfl, by kernel_rfl⟩
theorem ftGa (τ0 : Nat → Nat) (dt e0 e1 e2 u0 u1 vt : Nat) (o1 o2 o3 : Obj) (w : World) (b1 b2 : Bool) (q1 q2 : Pos) (pa : Option Value) (p : Pos) (N t : Nat) (ω : Nat → Nat) : FtQ w b1 b2 q1 q2 pa p N t ω τ0 1 dt 2 e0 e1 e2 o1 o2 o3 u0 u1 vt (fl [z77, [9,9,1,12,12,9,9,9,9,9,9,0,0,0,0,12,0,0,36,0,36,0,36], z34, [14,14,14,14,38,38,38,0,38,0,38,100001,100001,100001,0,100001,0,100001,0,14,0,0,0,1,0,1,0,1,1,1,1,1,1,1,14,14,14,14,38,38,38,0,38,0,38,100001,100001,100001,0,100001,0,100001,0,14,0,0,0,1,0,1,0,1,1,1,1,0,0,0,16,0,0,14,14,0,14,0,1,0,1,2,0,2,0,2,2,16], z11, [16], z9, [16,2,2,1,3,3,3,20,20,20,20,0,0,21,21,19,19,19,19,21,0,19,10,19,0,45,45,0,45,0,45,45,45,40,46,46,46,46,40,0,46,13,45,0,0,40,45,45,0,45], z7, [48,3,3,3,4,4,4,0,4], z3, [5], z2, [5], z2, [5,1,1,1,4,4,4,4,4,0,5,0,5,5,5,0,6,0,6,0,6,6,51], z49, [54], z40, z27, [12,2,2,1,3,3,3,56,56,0,0,55,60,60,0,60], z7, [63,3,3,3,19,19,19,0,19], z3, [20], z2, [20], z2, [20,1,1,1,4,4,4,4,4,62,0,0,4,4,62], z24, [67,7,7,7], z36, [8,8,8,8,8,66,0,0,0,10,0,10,0,10,10,70,10,10,1,10,10,10,10,10,10,0,14,11,6,0,68,68,0,0,68,71,0,0,0,71,0,0,0,71,0,0,0,0,71,70], z6, [72,0,0,0,0,72,0,0,0,72,72,0,71,74,74,74,0,74,0,1,1,1,1,1,74,0,1,1,0,1,0,1,0,3,0,3,0,3,0,3,3,4,3,3,3,56,56,56,0,56], z3, [57], z2, [57], z2, [57], z43, [0,81,1,14,1,0,1,12,1,4,14,20]]) [80, 81, 82, 83, 84, 85, 86, 62, 41] (fun N t ω => ⟨⟨1, 21, 21, 88, lo 88, ω 160 + (ω 144 + (ω 128 + (ω 48 + (ω 32 + (ω 16 + (ω 0 + (N + 301 + 1)))) + 12))) + 58, fnL [(6, (t + 2595)), (8, (t + 2595 + 3)), (10, (t + 2595 + 12)), (12, (ω 17 + (ω 1 + (t + 2595 + 13)))), (14, (ω 161 + (ω 145 + (ω 129 + (ω 49 + (ω 33 + (ω 17 + (ω 1 + (t + 2595 + 13)) + 1) + 1) + 19)) + 1) + 54)), (7, (vt)), (9, (t + 2595 + 2)), (11, (t + 2595 + 7)), (13, (ω 18))] τ0, 0, (u1), dt, e0 + 1, e1, e2 + 1, #[.int 88 (t + 2595 + 7)], o1, o2, o3⟩, ⟨ω 160 + (ω 144 + (ω 128 + (ω 48 + (ω 32 + (ω 16 + (ω 0 + (N + 301 + 1)))) + 12))) + 8, apS 88, (ω 162), apS 1, (ω 161 + (ω 145 + (ω 129 + (ω 49 + (ω 33 + (ω 17 + (ω 1 + (t + 2595 + 13)) + 1) + 1) + 19)) + 1)), 88, 1⟩, ⟨ω 160 + (ω 144 + (ω 128 + (ω 48 + (ω 32 + (ω 16 + (ω 0 + (N + 301 + 1)))) + 12))) + 29, 88, (t + 2595 + 7), 1, (ω 161 + (ω 145 + (ω 129 + (ω 49 + (ω 33 + (ω 17 + (ω 1 + (t + 2595 + 13)) + 1) + 1) + 19)) + 1) + 43)⟩, 1, (ω 304 + (ω 288 + (ω 160 + (ω 144 + (ω 128 + (ω 48 + (ω 32 + (ω 16 + (ω 0 + (N + 301 + 1)))) + 12))) + 70)) + 7), (ω 305 + (ω 289 + (ω 161 + (ω 145 + (ω 129 + (ω 49 + (ω 33 + (ω 17 + (ω 1 + (t + 2595 + 13)) + 1) + 1) + 19)) + 1) + 59)))⟩) [(([((88), (1))] : List (Int × Int)) = [((88), (1))]), ((([(88)] : List Int), ([0] : List Nat)) ∈ soT), (NuOk (⟨#[66]⟩ : Str) 1), (NuOk (⟨#[70, 73]⟩ : Str) 88), ((([(88)] : List Int), ([0] : List Nat)) ∈ soT), ((#[] : Array Value).size < 1000), (R.IdxL [(0), (0)] (0) 0), (CvOk (⟨#[66]⟩ : Str) false), (CvOk (⟨#[70, 73]⟩ : Str) true), (CvOk (⟨#[102, 105]⟩ : Str) true), (LwOk (⟨#[70, 73]⟩ : Str) 88), (DcOk (apB 88) 88), (ApOk (88) 88), (NuOk (⟨#[102, 105]⟩ : Str) 88), (CvOk (⟨#[102, 105]⟩ : Str) true), (LwOk (⟨#[102, 105]⟩ : Str) 88), ((⟨#[102, 105]⟩ : Str) = (⟨#[102, 105]⟩ : Str)), (LwOk (⟨#[70, 73]⟩ : Str) 88), (DcOk (apB 88) 88), (ApOk (88) 88), (PrOk (spS 21) 88), (SpOk (21) 21)] := by
  cases b1 <;> exact by kernel_rfl
theorem ftGb (τ0 : Nat → Nat) (dt e0 e1 e2 u0 u1 vt : Nat) (o1 o2 o3 : Obj) (w : World) (b1 b2 : Bool) (q1 q2 : Pos) (pa : Option Value) (p : Pos) (N t : Nat) (ω : Nat → Nat) : FtQ w b1 b2 q1 q2 pa p N t ω τ0 2 dt 3 e0 e1 e2 o1 o2 o3 u0 u1 vt (fl [z77, z50, [37,12,12,1,15,15,12,12,12,12,12,12,0,0,0,0,15,0,0,39,0,39,0,39], z34, [17,17,17,17,41,41,41,0,41,0,41,100001,100001,100001,0,100001,0,100001,0,17,0,0,0,1,0,1,0,1,1,1,1,1,1,1,17,17,17,17,41,41,41,0,41,0,41,100001,100001,100001,0,100001,0,100001,0,17,0,0,0,1,0,1,0,1,1,1,1,1,1,1,17,17,17,17,41,41,41,0,41,0,41,100001,100001,100001,0,100001,0,100001,0,17,0,0,0,1,0,1,0,1,1,1,1,0,0,0,19,0,0,17,17,0,17,0,1,0,1,2,0,2,0,2,2,19], z11, [19], z9, [19], z9, [19,2,2,1,3,3,3,23,23,23,23,0,0,24,24,22,22,22,22,24,0,22,10,22,0,48,48,0,48,0,48,48,48,43,49,49,49,49,43,0,49,13,48,0,0,43,48,48,0,48], z7, [51,3,3,3,4,4,4,0,4], z3, [5], z2, [5], z2, [5,1,1,1,4,4,4,4,4,0,5,0,5,5,5,0,6,0,6,0,6,6,54], z49, [57], z50, [60,12,12,1,12,12,12,12,12,12,0,0,13,13,0,13,0,1,0,1,2,0,2,0,2,2,15], z11, [15], z27, [15], z9, [15,2,2,1,3,3,3,62,62,0,0,61,66,66,0,66], z7, [69,3,3,3,22,22,22,0,22], z3, [23], z2, [23], z2, [23,1,1,1,4,4,4,4,4,68,0,0,4,4,68], z24, [73,7,7,7], z36, [8,8,8,8,8,72,0,0,0,10,0,10,0,10,10,76,10,10,10], z36, [11,11,11,11,11,75,0,0,0,13,0,13,0,13,13,79,13,13,1,13,13,13,13,13,13,0,14,14,9,0,77,77,0,0,77,80,0,0,0,80,0,0,0,80,0,0,0,0,80,79], z6, [81,0,0,0,0,81,0,0,0,81,81,0,80,83,83,83,0,83,0,1,1,1,1,1,83,0,1,1,0,1,0,1,0,3,0,3,0,3,0,3,3,4,3,3,3,65,65,65,0,65], z3, [66], z2, [66], z2, [66], z43, [0,90,1,14,1,0,1,12,1,4,14,23]]) [89, 90, 91, 92, 93, 94, 95, 71, 47] (fun N t ω => ⟨⟨2, 21, 21, 88, lo 88, ω 160 + (ω 144 + (ω 128 + (ω 48 + (ω 32 + (ω 16 + (ω 0 + (N + 301 + 1)))) + 12))) + 67, fnL [(6, (t + 2595)), (8, (t + 2595 + 3)), (10, (t + 2595 + 12)), (12, (ω 17 + (ω 1 + (t + 2595 + 13)))), (14, (ω 161 + (ω 145 + (ω 129 + (ω 49 + (ω 33 + (ω 17 + (ω 1 + (t + 2595 + 13)) + 1) + 1) + 19)) + 1) + 63)), (7, (vt)), (9, (t + 2595 + 2)), (11, (t + 2595 + 7)), (13, (ω 18))] τ0, 0, (u1), dt, e0 + 1, e1, e2 + 1, #[.int 88 (t + 2595 + 7)], o1, o2, o3⟩, ⟨ω 160 + (ω 144 + (ω 128 + (ω 48 + (ω 32 + (ω 16 + (ω 0 + (N + 301 + 1)))) + 12))) + 8, apS 88, (ω 162), apS 1, (ω 161 + (ω 145 + (ω 129 + (ω 49 + (ω 33 + (ω 17 + (ω 1 + (t + 2595 + 13)) + 1) + 1) + 19)) + 1)), 88, 1⟩, ⟨ω 160 + (ω 144 + (ω 128 + (ω 48 + (ω 32 + (ω 16 + (ω 0 + (N + 301 + 1)))) + 12))) + 32, 88, (t + 2595 + 7), 1, (ω 161 + (ω 145 + (ω 129 + (ω 49 + (ω 33 + (ω 17 + (ω 1 + (t + 2595 + 13)) + 1) + 1) + 19)) + 1) + 48)⟩, 2, (ω 304 + (ω 288 + (ω 160 + (ω 144 + (ω 128 + (ω 48 + (ω 32 + (ω 16 + (ω 0 + (N + 301 + 1)))) + 12))) + 79)) + 7), (ω 305 + (ω 289 + (ω 161 + (ω 145 + (ω 129 + (ω 49 + (ω 33 + (ω 17 + (ω 1 + (t + 2595 + 13)) + 1) + 1) + 19)) + 1) + 68)))⟩) [(([((88), (1))] : List (Int × Int)) = [((88), (1))]), ((([(88)] : List Int), ([0] : List Nat)) ∈ soT), (NuOk (⟨#[66]⟩ : Str) 1), (NuOk (⟨#[70, 73]⟩ : Str) 88), ((([(88)] : List Int), ([0] : List Nat)) ∈ soT), ((#[] : Array Value).size < 1000), (R.IdxL [(0), (0), (0)] (0) 0), (CvOk (⟨#[66]⟩ : Str) false), (CvOk (⟨#[70, 73]⟩ : Str) true), (CvOk (⟨#[102, 105]⟩ : Str) true), (LwOk (⟨#[70, 73]⟩ : Str) 88), (DcOk (apB 88) 88), (ApOk (88) 88), (NuOk (⟨#[102, 105]⟩ : Str) 88), (CvOk (⟨#[102, 105]⟩ : Str) true), (LwOk (⟨#[102, 105]⟩ : Str) 88), ((⟨#[102, 105]⟩ : Str) = (⟨#[102, 105]⟩ : Str)), (LwOk (⟨#[70, 73]⟩ : Str) 88), (DcOk (apB 88) 88), (ApOk (88) 88), (PrOk (spS 21) 88), (SpOk (21) 21)] := by
  cases b1 <;> exact by kernel_rfl
theorem ftGc (τ0 : Nat → Nat) (dt e0 e1 e2 u0 u1 vt : Nat) (o1 o2 o3 : Obj) (w : World) (b1 b2 : Bool) (q1 q2 : Pos) (pa : Option Value) (p : Pos) (N t : Nat) (ω : Nat → Nat) : FtQ w b1 b2 q1 q2 pa p N t ω τ0 3 dt 4 e0 e1 e2 o1 o2 o3 u0 u1 vt (fl [z77, z50, [37,12,12,12], z36, [13,13,13,13,13,0,14,0,14,14,14,0,15,0,15,0,15,15,40,15,15,1,18,18,15,15,15,15,15,15,0,0,0,0,18,0,0,42,0,42,0,42], z34, [20,20,20,20,44,44,44,0,44,0,44,100001,100001,100001,0,100001,0,100001,0,20,0,0,0,1,0,1,0,1,1,1,1,1,1,1,20,20,20,20,44,44,44,0,44,0,44,100001,100001,100001,0,100001,0,100001,0,20,0,0,0,1,0,1,0,1,1,1,1,1,1,1,20,20,20,20,44,44,44,0,44,0,44,100001,100001,100001,0,100001,0,100001,0,20,0,0,0,1,0,1,0,1,1,1,1,1,1,1,20,20,20,20,44,44,44,0,44,0,44,100001,100001,100001,0,100001,0,100001,0,20,0,0,0,1,0,1,0,1,1,1,1,0,0,0,22,0,0,20,20,0,20,0,1,0,1,2,0,2,0,2,2,22], z11, [22], z9, [22], z9, [22], z9, [22,2,2,1,3,3,3,26,26,26,26,0,0,27,27,25,25,25,25,27,0,25,10,25,0,51,51,0,51,0,51,51,51,46,52,52,52,52,46,0,52,13,51,0,0,46,51,51,0,51], z7, [54,3,3,3,4,4,4,0,4], z3, [5], z2, [5], z2, [5,1,1,1,4,4,4,4,4,0,5,0,5,5,5,0,6,0,6,0,6,6,57], z49, [60], z50, [63,12,12,12], z36, [13,13,13,13,13,0,14,0,14,14,14,0,15,0,15,0,15,15,66,15,15,1,15,15,15,15,15,15,0,0,16,16,0,16,0,1,0,1,2,0,2,0,2,2,18], z11, [18], z27, [18], z9, [18], z9, [18,2,2,1,3,3,3,68,68,0,0,67,72,72,0,72], z7, [75,3,3,3,25,25,25,0,25], z3, [26], z2, [26], z2, [26,1,1,1,4,4,4,4,4,74,0,0,4,4,74], z24, [79,7,7,7], z36, [8,8,8,8,8,78,0,0,0,10,0,10,0,10,10,82,10,10,10], z36, [11,11,11,11,11,81,0,0,0,13,0,13,0,13,13,85,13,13,13], z36, [14,14,14,14,14,84,0,0,0,16,0,16,0,16,16,88,16,16,1,16,16,16,16,16,16,0,14,17,12,0,86,86,0,0,86,89,0,0,0,89,0,0,0,89,0,0,0,0,89,88], z6, [90,0,0,0,0,90,0,0,0,90,90,0,89,92,92,92,0,92,0,1,1,1,1,1,92,0,1,1,0,1,0,1,0,3,0,3,0,3,0,3,3,4,3,3,3,74,74,74,0,74], z3, [75], z2, [75], z2, [75], z43, [0,99,1,14,1,0,1,12,1,4,14,26]]) [98, 99, 100, 101, 102, 103, 104, 80, 53] (fun N t ω => ⟨⟨3, 21, 21, 88, lo 88, ω 160 + (ω 144 + (ω 128 + (ω 48 + (ω 32 + (ω 16 + (ω 0 + (N + 301 + 1)))) + 12))) + 76, fnL [(6, (t + 2595)), (8, (t + 2595 + 3)), (10, (t + 2595 + 12)), (12, (ω 17 + (ω 1 + (t + 2595 + 13)))), (14, (ω 161 + (ω 145 + (ω 129 + (ω 49 + (ω 33 + (ω 17 + (ω 1 + (t + 2595 + 13)) + 1) + 1) + 19)) + 1) + 72)), (7, (vt)), (9, (t + 2595 + 2)), (11, (t + 2595 + 7)), (13, (ω 18))] τ0, 0, (u1), dt, e0 + 1, e1, e2 + 1, #[.int 88 (t + 2595 + 7)], o1, o2, o3⟩, ⟨ω 160 + (ω 144 + (ω 128 + (ω 48 + (ω 32 + (ω 16 + (ω 0 + (N + 301 + 1)))) + 12))) + 8, apS 88, (ω 162), apS 1, (ω 161 + (ω 145 + (ω 129 + (ω 49 + (ω 33 + (ω 17 + (ω 1 + (t + 2595 + 13)) + 1) + 1) + 19)) + 1)), 88, 1⟩, ⟨ω 160 + (ω 144 + (ω 128 + (ω 48 + (ω 32 + (ω 16 + (ω 0 + (N + 301 + 1)))) + 12))) + 35, 88, (t + 2595 + 7), 1, (ω 161 + (ω 145 + (ω 129 + (ω 49 + (ω 33 + (ω 17 + (ω 1 + (t + 2595 + 13)) + 1) + 1) + 19)) + 1) + 53)⟩, 3, (ω 304 + (ω 288 + (ω 160 + (ω 144 + (ω 128 + (ω 48 + (ω 32 + (ω 16 + (ω 0 + (N + 301 + 1)))) + 12))) + 88)) + 7), (ω 305 + (ω 289 + (ω 161 + (ω 145 + (ω 129 + (ω 49 + (ω 33 + (ω 17 + (ω 1 + (t + 2595 + 13)) + 1) + 1) + 19)) + 1) + 77)))⟩) [(([((88), (1))] : List (Int × Int)) = [((88), (1))]), ((([(88)] : List Int), ([0] : List Nat)) ∈ soT), (NuOk (⟨#[66]⟩ : Str) 1), (NuOk (⟨#[70, 73]⟩ : Str) 88), ((([(88)] : List Int), ([0] : List Nat)) ∈ soT), ((#[] : Array Value).size < 1000), (R.IdxL [(0), (0), (0), (0)] (0) 0), (CvOk (⟨#[66]⟩ : Str) false), (CvOk (⟨#[70, 73]⟩ : Str) true), (CvOk (⟨#[102, 105]⟩ : Str) true), (LwOk (⟨#[70, 73]⟩ : Str) 88), (DcOk (apB 88) 88), (ApOk (88) 88), (NuOk (⟨#[102, 105]⟩ : Str) 88), (CvOk (⟨#[102, 105]⟩ : Str) true), (LwOk (⟨#[102, 105]⟩ : Str) 88), ((⟨#[102, 105]⟩ : Str) = (⟨#[102, 105]⟩ : Str)), (LwOk (⟨#[70, 73]⟩ : Str) 88), (DcOk (apB 88) 88), (ApOk (88) 88), (PrOk (spS 21) 88), (SpOk (21) 21)] := by
  cases b1 <;> exact by kernel_rfl
end Mine.B
end
section
namespace Mine.B
open PySem PySem.W PySem.W.X
structure Cx (w : World) (b1 b2 : Bool) (E : R.World0) (cd : Code) (bl : List (Code × Pos)) (pa : Option Value) : Prop where
  ok : EOk (wb w b1 b2) E
  P0 : E.P0 ≤ 290
  h0 : E.h0.objs.size ≤ 290
  ctx : R.COk 660 ⟨cd, none, none, bl, pa⟩ 20
noncomputable def Wn (E : R.World0) (Γ : Ctx) (m : Sem Flow) (Q : Shared → Prop) (s : Shared) : Prop := ∀ p, Sem.wp E.M Γ m (fun f _ s' => f = .next ∧ Q s') (fun _ _ _ => False) p s
theorem Wn.mono {E : R.World0} {Γ : Ctx} {m : Sem Flow} {Q Q' : Shared → Prop} {s : Shared} (hq : ∀ s, Q s → Q' s) (h : Wn E Γ m Q s) : Wn E Γ m Q' s := fun p =>
  Sem.wp_mono _ _ _ (fun _ _ s' h' => ⟨h'.1, hq s' h'.2⟩) (fun _ _ _ h => h) _ _ (h p)
noncomputable def HS (w : World) (b1 b2 : Bool) (E : R.World0) (L : Loc) (hd : List HE) (pl : List PE) (s : Shared) : Prop := ∃ K N t, Hold E (TT (pp w b1 b2) L hd pl) K N t s ∧ (∀ x ∈ heK hd, x ∈ K) ∧ ∀ x ∈ peK pl, x ∈ K
variable {w : World} {b1 b2 : Bool} {E : R.World0} {pa : Option Value} {s : Shared}
theorem segc {cd : Params → Code} {bl : Params → List (Code × Pos)} (X : Cx w b1 b2 E (cd (pp w b1 b2)) (bl (pp w b1 b2)) pa)
    {Kc K : Cells} {T0 : Params → Cells} {ix ix' : List Nat} {tree : Params → Sem Flow} {hs idx : List Nat} {R : Nat → Nat → (Nat → Nat) → RS} {cs : List Prop} (C : SegC cd bl Kc T0 ix ix' tree hs idx R cs) (hi : idx.Nodup) (hix : ix.Nodup)
    (hfz : ∀ P, allFz false (sel ix (T0 P)) = true) (hun : ∀ P N t ω, unsF ix 0 (T0 P) = unsF ix' 0 ((R N t ω).T P)) (hex : ∀ N t ω, allFz true (R N t ω).ex = true) (hn : ∀ P N t ω, 301 ≤ N + 301 → (((R N t ω).T P).map (·.1)).Nodup) (hc : ∀ q ∈ cs, q)
    {N t : Nat} (hK : ∀ x ∈ Kc, x ∈ K) (D : Hold E (T0 (pp w b1 b2)) K N t s) :
    Wn E ⟨cd (pp w b1 b2), none, none, bl (pp w b1 b2), pa⟩ (tree (pp w b1 b2)) (fun s' => ∃ N' t' ω N1 t1, Hold E ((R N' t' ω).T (pp w b1 b2)) ((R N' t' ω).ex ++ K) N1 t1 s') s :=
  fun p => segc_use X.ok (Nat.le_trans X.P0 (by decide)) (by decide : 660 + 320 ≤ 990) X.ctx C hi hix hfz hun hex (fun P N t ω => hn P N t ω (Nat.le_add_left ..)) hc hK D
theorem fz_heK : ∀ l : List HE, allFz true (heK l) = true
  | [] => rfl
  | _ :: l => fz_heK l
theorem fz_peK : ∀ l : List PE, allFz true (peK l) = true
  | [] => rfl
  | _ :: l => fz_peK l
theorem heK_mem {l : List HE} {K : Cells} : (∀ x ∈ heK l, x ∈ K) ↔ ∀ h ∈ l, (h.a, tupS h.s h.t h.c h.u) ∈ K := by
  unfold heK
  simp
theorem peK_mem {l : List PE} {K : Cells} : (∀ x ∈ peK l, x ∈ K) ↔ ∀ q ∈ l, (q.a, R.tupO q.who q.t q.cnt q.u) ∈ K := by
  unfold peK
  simp
variable {cd : Code} {bl : List (Code × Pos)}
theorem hear_use (X : Cx w b1 b2 E cd bl pa) {L : Loc} {hd : List HE} {pl : List PE} {k x0 r : Nat} {hs idx : List Nat} {f : Nat → Nat → (Nat → Nat) → HR} {cs : List Prop}
    (C : ∀ w b1 b2 pa p N t ω, HrQ w b1 b2 cd bl pa p N t ω L hd pl hs idx f cs) (hi : idx.Nodup) (hc : ∀ q ∈ cs, q) (H : AllOk k hd)
    (h1 : ∀ N t ω, ∀ h ∈ (f N t ω).hd.take (f N t ω).j, h ∈ hd) (h2 : ∀ N t ω, ∀ h ∈ (f N t ω).hd.drop (f N t ω).j, HEok (k + 1) h) (hr : ∀ N t ω, HearQ (hd.map keyH) x0 r ((f N t ω).hd.map keyH)) (D : HS w b1 b2 E L hd pl s) :
    Wn E ⟨cd, none, none, bl, pa⟩ (sgT 4 (pp w b1 b2)) (fun s' => ∃ e hd', HS w b1 b2 E { L with e0 := e } hd' pl s' ∧ HearQ (hd.map keyH) x0 r (hd'.map keyH) ∧ AllOk (k + 1) hd') s := by
  obtain ⟨K, N, t, D, hh, hp⟩ := D
  refine Wn.mono (fun s' h' => ?_) (segc (cd := fun _ => cd) (bl := fun _ => bl) X C hi (by decide) (fun _ => rfl) (fun _ _ _ _ => rfl) (fun _ _ _ => fz_heK _) (fun _ _ _ _ _ => TT_nodup _ _ _ _) hc hh D)
  obtain ⟨N', t', ω, N1, t1, D1⟩ := h'
  have both : ∀ h ∈ (f N' t' ω).hd, h ∈ hd ∨ h ∈ (f N' t' ω).hd.drop (f N' t' ω).j := fun h hm => by
    rw [← List.take_append_drop (f N' t' ω).j (f N' t' ω).hd] at hm
    exact (List.mem_append.mp hm).imp (h1 _ _ _ h) id
  refine ⟨_, (f N' t' ω).hd, ⟨_, N1, t1, D1, heK_mem.mpr fun h hm => ?_, fun x hx => List.mem_append_right _ (hp x hx)⟩, hr _ _ _, fun h hm => ?_⟩
  · rcases both h hm with q | q
    · exact List.mem_append_right _ (heK_mem.mp hh h q)
    · exact List.mem_append_left _ (List.mem_map_of_mem (f := fun h : HE => (h.a, tupS h.s h.t h.c h.u)) q)
  · rcases both h hm with q | q
    · exact (H h q).mono (Nat.le_succ k)
    · exact h2 _ _ _ h q
theorem take_use (X : Cx w b1 b2 E cd bl pa) {L : Loc} {hd : List HE} {pl : List PE} {hs idx : List Nat} {f : Nat → Nat → (Nat → Nat) → TR} {cs : List Prop}
    (C : ∀ w b1 b2 pa p N t ω, TkQ w b1 b2 cd bl pa p N t ω L hd pl hs idx f cs) (hi : idx.Nodup) (hc : ∀ q ∈ cs, q)
    (hr : ∀ N t ω, TakeQ (pl.map keyP) L.thg ((pl.set (f N t ω).i (f N t ω).q).map keyP)) (D : HS w b1 b2 E L hd pl s) :
    Wn E ⟨cd, none, none, bl, pa⟩ (sgT 5 (pp w b1 b2)) (fun s' => ∃ e pl', HS w b1 b2 E { L with e1 := e } hd pl' s' ∧ TakeQ (pl.map keyP) L.thg (pl'.map keyP)) s := by
  obtain ⟨K, N, t, D, hh, hp⟩ := D
  refine Wn.mono (fun s' h' => ?_) (segc (cd := fun _ => cd) (bl := fun _ => bl) X C hi (by decide) (fun _ => rfl) (fun _ _ _ _ => rfl) (fun _ _ _ => fz_peK _) (fun _ _ _ _ _ => TT_nodup _ _ _ _) hc hp D)
  obtain ⟨N', t', ω, N1, t1, D1⟩ := h'
  refine ⟨_, _, ⟨_, N1, t1, D1, fun x hx => List.mem_append_right _ (hh x hx), peK_mem.mpr fun q hq => ?_⟩, hr N' t' ω⟩
  rcases List.mem_or_eq_of_mem_set hq with q | rfl
  · exact List.mem_append_right _ (peK_mem.mp hp _ q)
  · exact List.mem_append_left _ (.head _)
theorem least_use (X : Cx w b1 b2 E cd bl pa) {L : Loc} {hd : List HE} {pl : List PE} {hs idx : List Nat} {f : Nat → Nat → (Nat → Nat) → LR} {cs : List Prop}
    (C : ∀ w b1 b2 pa p N t ω, LsQ w b1 b2 cd bl pa p N t ω L hd pl hs idx f cs) (hi : idx.Nodup) (hc : ∀ q ∈ cs, q)
    (hr : ∀ N t ω, (∃ q ∈ pl, q.cnt = (f N t ω).v) ∧ ∀ q ∈ pl, (f N t ω).v ≤ q.cnt) (D : HS w b1 b2 E L hd pl s) :
    Wn E ⟨cd, none, none, bl, pa⟩ (sgT 7 (pp w b1 b2)) (fun s' => ∃ v u, HS w b1 b2 E { L with least := v, lt := u } hd pl s' ∧ (∃ q ∈ pl, q.cnt = v) ∧ ∀ q ∈ pl, v ≤ q.cnt) s := by
  obtain ⟨K, N, t, D, hh, hp⟩ := D
  refine Wn.mono (fun s' h' => ?_) (segc (cd := fun _ => cd) (bl := fun _ => bl) X C hi (by decide) (fun _ => rfl) (fun _ _ _ _ => rfl) (fun _ _ _ => rfl) (fun _ _ _ _ _ => TT_nodup _ _ _ _) hc hp D)
  obtain ⟨N', t', ω, N1, t1, D1⟩ := h'
  exact ⟨_, _, ⟨_, N1, t1, D1, hh, hp⟩, hr N' t' ω⟩
theorem ap_use (X : Cx w b1 b2 E cd bl pa) {L : Loc} {hd : List HE} {pl : List PE} {hs idx : List Nat} {f : Nat → Nat → (Nat → Nat) → NR} {cs : List Prop}
    (C : ∀ w b1 b2 pa p N t ω, ApQ w b1 b2 cd bl pa p N t ω L hd pl hs idx f cs) (hi : idx.Nodup) (hc : ∀ q ∈ cs, q) (D : HS w b1 b2 E L hd pl s) :
    Wn E ⟨cd, none, none, bl, pa⟩ (sgT 6 (pp w b1 b2)) (fun s' => HS w b1 b2 E (Lp L) hd pl s') s := by
  obtain ⟨K, N, t, D, hh, hp⟩ := D
  refine Wn.mono (fun s' h' => ?_) (segc (cd := fun _ => cd) (bl := fun _ => bl) X C hi (by decide) (fun _ => rfl) (fun _ _ _ _ => rfl) (fun _ _ _ => rfl) (fun _ _ _ _ _ => TT_nodup _ _ _ _) hc (fun _ h => nomatch h) D)
  obtain ⟨N', t', ω, N1, t1, D1⟩ := h'
  exact ⟨_, N1, t1, D1, hh, hp⟩
theorem fi_use (X : Cx w b1 b2 E cd bl pa) {L : Loc} {hd : List HE} {pl : List PE} {v : Int} {vt nu TH : Nat} {hs idx : List Nat} {f : Nat → Nat → (Nat → Nat) → FR} {cs : List Prop}
    (C : ∀ w b1 b2 pa p N t ω, FiQ w b1 b2 cd bl pa p N t ω L hd pl v vt nu TH hs idx f cs) (hi : idx.Nodup) (hc : ∀ q ∈ cs, q) (D : HS w b1 b2 E L hd pl s) :
    Wn E ⟨cd, none, none, bl, pa⟩ (fiT v vt (pp w b1 b2)) (fun s' => ∃ τ, HS w b1 b2 E (Lf L v nu TH τ) hd pl s') s := by
  obtain ⟨K, N, t, D, hh, hp⟩ := D
  refine Wn.mono (fun s' h' => ?_) (segc (cd := fun _ => cd) (bl := fun _ => bl) X C hi (by decide) (fun _ => rfl) (fun _ _ _ _ => rfl) (fun _ _ _ => rfl) (fun _ _ _ _ _ => TT_nodup _ _ _ _) hc (fun _ h => nomatch h) D)
  obtain ⟨N', t', ω, N1, t1, D1⟩ := h'
  exact ⟨_, _, N1, t1, D1, hh, hp⟩
theorem TTd_nodup {P : Params} {L : Loc} {hd : List HE} {pl : List PE} {a : Nat} {o : Obj} (h : 300 < a) : ((TT P L hd pl ++ [(a, o)]).map (·.1)).Nodup := by
  show ([282, 283, 285, 286, 288, 294, 295, 299, 300, 281, a] : List Nat).Nodup
  simp only [List.nodup_cons, List.mem_cons, List.not_mem_nil, or_false, not_or, List.nodup_nil, and_true, not_false_eq_true]
  omega
noncomputable def HD (w : World) (b1 b2 : Bool) (E : R.World0) (L : Loc) (hd : List HE) (pl dl : List PE) (e : Nat) (s : Shared) : Prop := ∃ K N t, Hold E (TT (pp w b1 b2) L hd pl ++ [(L.due, R.listR (dl.map fun q => q.a) e)]) K N t s ∧ (∀ x ∈ heK hd, x ∈ K) ∧ (∀ x ∈ peK pl, x ∈ K) ∧ ∀ x ∈ peK dl, x ∈ K
theorem due_use (X : Cx w b1 b2 E cd bl pa) {L : Loc} {hd : List HE} {pl : List PE} {π : List Nat} {hs idx : List Nat} {f : Nat → Nat → (Nat → Nat) → DR} {cs : List Prop} {l : List (Int × Int)}
    (C : ∀ w b1 b2 pa p N t ω, DuQ w b1 b2 cd bl pa p N t ω L hd pl π hs idx f cs) (hi : idx.Nodup) (hc : ∀ q ∈ cs, q) (ha : ∀ N t ω, 300 < (f N t ω).a) (hl : ∀ N t ω, (f N t ω).dl.map keyP = l) (hπ : ∀ i ∈ π, i < l.length) (D : HS w b1 b2 E L hd pl s) :
    Wn E ⟨cd, none, none, bl, pa⟩ (sgT 8 (pp w b1 b2)) (fun s' => ∃ a e dl, 300 < a ∧ HD w b1 b2 E { L with due := a } hd pl dl e s' ∧ dl.map keyP = π.map fun i => l.getD i (0, 0)) s := by
  obtain ⟨K, N, t, D, hh, hp⟩ := D
  refine Wn.mono (fun s' h' => ?_) (segc (cd := fun _ => cd) (bl := fun _ => bl) X C hi (by decide) (fun _ => rfl) (fun _ _ _ _ => rfl) (fun _ _ _ => fz_peK _) (fun _ _ _ _ _ => TTd_nodup (ha _ _ _)) hc hp D)
  obtain ⟨N', t', ω, N1, t1, D1⟩ := h'
  have key : ∀ i ∈ π, i < (f N' t' ω).dl.length := fun i h => by
    have := hπ i h
    rw [← hl N' t' ω, List.length_map] at this
    exact this
  have e1 : pick π ((f N' t' ω).dl.map fun q => q.a) = (π.map fun i => (f N' t' ω).dl.getD i ⟨0, 0, 0, 0, 0⟩).map fun q => q.a := by
    unfold pick
    rw [List.map_map]
    refine List.map_congr_left fun i h => ?_
    have hk := key i h
    simp [List.getD, List.getElem?_eq_getElem hk]
  have D2 : Hold E (TT (pp w b1 b2) { L with due := (f N' t' ω).a } hd pl ++ [((f N' t' ω).a, R.listR (pick π ((f N' t' ω).dl.map fun q => q.a)) (f N' t' ω).e)]) (peK (f N' t' ω).dl ++ K) N1 t1 s' := D1
  rw [e1] at D2
  refine ⟨_, _, π.map fun i => (f N' t' ω).dl.getD i ⟨0, 0, 0, 0, 0⟩, ha N' t' ω, ⟨_, N1, t1, D2, fun x hx => List.mem_append_right _ (hh x hx), fun x hx => List.mem_append_right _ (hp x hx), peK_mem.mpr fun q hq => ?_⟩, ?_⟩
  · obtain ⟨i, h, rfl⟩ := List.mem_map.mp hq
    have hk := key i h
    refine List.mem_append_left _ (List.mem_map_of_mem (f := fun q : PE => (q.a, R.tupO q.who q.t q.cnt q.u)) ?_)
    rw [List.getD_eq_getElem?_getD, List.getElem?_eq_getElem hk]
    exact List.getElem_mem hk
  · rw [List.map_map, ← hl N' t' ω]
    refine List.map_congr_left fun i h => ?_
    have hk := key i h
    simp [List.getD, List.getElem?_eq_getElem hk]
theorem ck_use {q1 q2 : Pos} (X : Cx w b1 b2 E (cd1 (pp w b1 b2)) (bl1 (pp w b1 b2) q1 q2) pa) {L : Loc} {hd : List HE} {pl dl : List PE} {e5 : Nat} {hs idx : List Nat} {f : Nat → Nat → (Nat → Nat) → NR} {cs : List Prop}
    (C : ∀ w b1 b2 pa p N t ω, CkQ w b1 b2 q1 q2 pa p N t ω L hd pl dl e5 hs idx f cs) (hi : idx.Nodup) (hc : ∀ q ∈ cs, q) (D : HD w b1 b2 E L hd pl dl e5 s) :
    Wn E ⟨cd1 (pp w b1 b2), none, none, bl1 (pp w b1 b2) q1 q2, pa⟩ (sgT 9 (pp w b1 b2)) (fun s' => HS w b1 b2 E L hd pl s') s := by
  obtain ⟨K, N, t, D, hh, hp, hd'⟩ := D
  refine Wn.mono (fun s' h' => ?_) (segc (cd := cd1) (bl := fun P => bl1 P q1 q2) X C hi (by decide) (fun _ => rfl) (fun _ _ _ _ => rfl) (fun _ _ _ => rfl) (fun _ _ _ _ _ => TT_nodup _ _ _ _) hc (fun x hx => (List.mem_append.mp hx).elim (hh x) (hd' x)) D)
  obtain ⟨N', t', ω, N1, t1, D1⟩ := h'
  exact ⟨_, N1, t1, D1, hh, hp⟩
noncomputable def HF (w : World) (b1 b2 : Bool) (E : R.World0) (b : Bool) (L : Loc) (kept : Int) (hd : List HE) (Xc : Cells) (s : Shared) : Prop := ∃ K N t, Hold E (TF (pp w b1 b2) b L kept hd ++ Xc) K N t s ∧ ∀ x ∈ heK hd, x ∈ K
theorem fn_use (X : Cx w b1 b2 E cd bl pa) {b : Bool} {L : Loc} {kept : Int} {hd : List HE} {Xc : Cells} {x0 vt : Nat} {hs idx : List Nat} {f : Nat → Nat → (Nat → Nat) → KR} {cs : List Prop}
    (C : ∀ w b1 b2 pa p N t ω, FnQ w b1 b2 cd bl pa p N t ω b L kept hd Xc x0 vt hs idx f cs) (hi : idx.Nodup) (hc : ∀ q ∈ cs, q) (hnd : ([282, 283, 285, 286, 288, 295, 281] ++ Xc.map (fun (x : Nat × Obj) => x.1)).Nodup) (D : HF w b1 b2 E b L kept hd Xc s) :
    Wn E ⟨cd, none, none, bl, pa⟩ (fnT (Int.ofNat x0) vt (pp w b1 b2)) (fun s' => ∃ τ kept', HF w b1 b2 E true { L with thg := Int.ofNat x0, τ := τ } kept' hd Xc s') s := by
  obtain ⟨K, N, t, D, hh⟩ := D
  refine Wn.mono (fun s' h' => ?_) (segc (cd := fun _ => cd) (bl := fun _ => bl) X C hi (by decide) (fun _ => by cases b <;> rfl) (fun _ _ _ _ => rfl) (fun _ _ _ => rfl) (fun _ _ _ _ _ => by
    show (List.map (fun x => x.fst) (TF _ true _ _ hd ++ Xc)).Nodup
    rw [List.map_append]
    exact hnd) hc hh D)
  obtain ⟨N', t', ω, N1, t1, D1⟩ := h'
  exact ⟨_, _, _, N1, t1, D1, hh⟩
theorem ft_use {q1 q2 : Pos} (X : Cx w b1 b2 E (cd1 (pp w b1 b2)) (bl1 (pp w b1 b2) q1 q2) pa) {τ0 : Nat → Nat} {r : Int} {dt m e0 e1 e2 : Nat} {o1 o2 o3 : Obj} {u0 u1 vt : Nat} {hs idx : List Nat} {f : Nat → Nat → (Nat → Nat) → GR} {cs : List Prop}
    (C : ∀ w b1 b2 pa p N t ω, FtQ w b1 b2 q1 q2 pa p N t ω τ0 r dt m e0 e1 e2 o1 o2 o3 u0 u1 vt hs idx f cs) (hi : idx.Nodup) (hc : ∀ q ∈ cs, q) {N t : Nat} (D : Hold E (T1 (pp w b1 b2) τ0 r dt m e0 e1 e2 o1 o2 o3) [(292, R.tupO 0 u0 0 u1)] N t s)
    (hu : ∀ N t ω, [((299 : Nat), o1), (300, o2), (281, o3)] = [(299, (f N t ω).L.o1), (300, (f N t ω).L.o2), (281, (f N t ω).L.o3)]) :
    Wn E ⟨cd1 (pp w b1 b2), none, none, bl1 (pp w b1 b2) q1 q2, pa⟩ (ftT vt (pp w b1 b2)) (fun s' => ∃ N' t' ω, HS w b1 b2 E (f N' t' ω).L [(f N' t' ω).h] ((f N' t' ω).q :: List.replicate (f N' t' ω).r ⟨292, 0, u0, 0, u1⟩) s') s := by
  refine Wn.mono (fun s' h' => ?_) (segc (cd := cd1) (bl := fun P => bl1 P q1 q2) X C hi (by decide) (fun _ => rfl) (fun _ N t ω => hu N t ω) (fun _ _ _ => rfl) (fun _ _ _ _ _ => TT_nodup _ _ _ _) hc (fun _ h => h) D)
  obtain ⟨N', t', ω, N1, t1, D1⟩ := h'
  refine ⟨N', t', ω, _, N1, t1, D1, heK_mem.mpr (ac (.head _) an), peK_mem.mpr fun q hq => ?_⟩
  rcases List.mem_cons.mp hq with rfl | hq
  · exact .tail _ (.head _)
  · obtain rfl := List.eq_of_mem_replicate hq
    exact .tail _ (.tail _ (.head _))
end Mine.B
end
section
namespace Mine.B
open PySem PySem.W PySem.W.X
variable {w : World} {b1 b2 : Bool} {E : R.World0} {pa : Option Value} {s : Shared} {cd : Code} {bl : List (Code × Pos)}
theorem hear_ok (X : Cx w b1 b2 E cd bl pa) {L : Loc} {pl : List PE} {k x0 r : Nat} (hk : k ≤ 18) (hx : x0 ∈ things) {hd : List HE} (H : AllOk k hd) (hl : hd.length ≤ 3) (hn : (hd.map fun h => h.x).Nodup) (hroom : L.room = (r : Int)) (hr1 : 1 ≤ r) (hr3 : r ≤ 3) (D : HS w b1 b2 E (Lw L x0) hd pl s) :
    Wn E ⟨cd, none, none, bl, pa⟩ (sgT 4 (pp w b1 b2)) (fun s' => ∃ e hd', HS w b1 b2 E { Lw L x0 with e0 := e } hd' pl s' ∧ HearQ (hd.map keyH) x0 r (hd'.map keyH) ∧ AllOk (k + 1) hd') s := by
  match hd, H, hl, hn, D with
  | [], H, hl, hn, D =>
    have k20 : k ≤ 20 := Nat.le_trans hk (by decide)
    by_cases hr : ((0 : Int) < L.room)
    · skip
      exact hear_use X (fun w b1 b2 pa p N t ω => (hrG0 L pl x0  w b1 b2 cd bl pa p N t ω)) (by decide) (ac (cvNum (y := 1) (Nat.le_refl 1) (by decide)) (ac (cvAp hx) (ac (cvLo hx) (ac (lwAp hx) (ac (dcTh hx) (ac (apTh hx) (ac (nuLo hx) (ac (hr) (ac (cvLo hx) (ac (lwLo hx) an)))))))))) H (fun _ _ _ => an) (fun _ _ _ => ac (⟨hx, .inl rfl, rfl, Nat.le_refl 1, Nat.le_add_left 1 _⟩) an) (fun _ _ _ => .inr (.inl ⟨by simp [keyH], by rw [hroom] at hr; simp; omega, by simp [keyH]⟩)) D
    · rw [hroom] at hr; omega
  | [h0], H, hl, hn, D =>
    have k20 : k ≤ 20 := Nat.le_trans hk (by decide)
    have H0 : HEok k h0 := H _ (.head _)
    have l0 := H0.2.2.2.1
    have u0 := H0.2.2.2.2
    have v0 : h0.y + 1 ≤ 20 := Nat.le_trans (Nat.succ_le_succ (Nat.le_trans u0 hk)) (by decide)
    have w0 : h0.y ≤ 20 := Nat.le_of_succ_le v0
    by_cases g0 : h0.x = x0
    · skip
      exact hear_use X (fun w b1 b2 pa p N t ω => (hrG1a L pl x0 h0 w b1 b2 cd bl pa p N t ω).1) (by decide) (ac (cvNum (y := h0.y + 1) (Nat.le_add_left 1 _) v0) (ac (cvLo hx) (ac (congrArg lo g0) (ac (lwOk H0) (ac (cvLo hx) (ac (lwLo hx) (ac (dcUp (y := h0.y) (Nat.le_of_succ_le_succ v0)) (ac (apUp (y := h0.y) (Nat.le_of_succ_le_succ v0)) (ac (nuC H0 k20) (ac (congrArg lo g0) (ac (lwOk H0) (ac (cvLo hx) (ac (lwLo hx) an))))))))))))) H (fun _ _ _ => an) (fun _ _ _ => ac (⟨hx, .inr rfl, rfl, Nat.le_add_left 1 _, Nat.succ_le_succ u0⟩) an) (fun _ _ _ => .inl ⟨h0.y, by simp [keyH, g0], by simp [keyH, g0]⟩) D
    have n0 : h0.x ≠ x0 := g0
    by_cases hr : ((1 : Int) < L.room)
    · skip
      exact hear_use X (fun w b1 b2 pa p N t ω => (hrG1a L pl x0 h0 w b1 b2 cd bl pa p N t ω).2) (by decide) (ac (cvNum (y := 1) (Nat.le_refl 1) (by decide)) (ac (cvAp hx) (ac (fun q => n0 (lo_inj _ H0.1 _ hx q)) (ac (lwOk H0) (ac (cvLo hx) (ac (lwAp hx) (ac (dcTh hx) (ac (apTh hx) (ac (nuLo hx) (ac (hr) (ac (fun q => n0 (lo_inj _ H0.1 _ hx q)) (ac (lwOk H0) (ac (cvLo hx) (ac (lwLo hx) an)))))))))))))) H (fun _ _ _ => ac (.head _) an) (fun _ _ _ => ac (⟨hx, .inl rfl, rfl, Nat.le_refl 1, Nat.le_add_left 1 _⟩) an) (fun _ _ _ => .inr (.inl ⟨by simp [keyH, n0], by rw [hroom] at hr; simp; omega, by simp [keyH]⟩)) D
    have hno : ∀ e ∈ ([h0].map keyH), e.1 ≠ x0 := by simp [keyH, n0]
    have hrD : r ≤ ([h0].map keyH).length := by rw [hroom] at hr; simp; omega
    by_cases z0 : h0.y - 1 = 0
    · skip
      exact hear_use X (fun w b1 b2 pa p N t ω => (hrG1c L pl x0 h0 w b1 b2 cd bl pa p N t ω)) (by decide) (ac (rfl) (ac (lwOk H0) (ac (cvLo H0.1) (ac (lwOk H0) (ac ((dies h0.y (Nat.lt_succ_of_le w0)).mpr z0) (ac (dcDn (y := h0.y) w0) (ac (apDn (y := h0.y) l0 w0) (ac (nuC H0 k20) (ac (rfl) (ac (lwOk H0) (ac (cvLo H0.1) (ac (lwOk H0) (ac (hr) (ac (fun q => n0 (lo_inj _ H0.1 _ hx q)) (ac (lwOk H0) (ac (cvLo hx) (ac (lwLo hx) an))))))))))))))))) H (fun _ _ _ => an) (fun _ _ _ => an) (fun _ _ _ => .inr (.inr ⟨hno, hrD, by simp [keyH, z0]⟩)) D
    · have s0 := z0
      have t0 : 2 ≤ h0.y := by omega
      exact hear_use X (fun w b1 b2 pa p N t ω => (hrG1b L pl x0 h0 w b1 b2 cd bl pa p N t ω)) (by decide) (ac (cvDn (y := h0.y) t0 w0) (ac (cvName H0) (ac (rfl) (ac (lwOk H0) (ac (cvLo H0.1) (ac (lwOk H0) (ac (fun q => s0 ((dies h0.y (Nat.lt_succ_of_le w0)).mp q)) (ac (dcDn (y := h0.y) w0) (ac (apDn (y := h0.y) l0 w0) (ac (nuC H0 k20) (ac (rfl) (ac (lwOk H0) (ac (cvLo H0.1) (ac (lwOk H0) (ac (hr) (ac (fun q => n0 (lo_inj _ H0.1 _ hx q)) (ac (lwOk H0) (ac (cvLo hx) (ac (lwLo hx) an))))))))))))))))))) H (fun _ _ _ => an) (fun _ _ _ => ac (⟨H0.1, H0.2.1, rfl, Nat.pos_of_ne_zero s0, Nat.le_trans (Nat.sub_le _ _) (Nat.le_succ_of_le u0)⟩) an) (fun _ _ _ => .inr (.inr ⟨hno, hrD, by simp [keyH, s0]⟩)) D
  | [h0, h1], H, hl, hn, D =>
    have k20 : k ≤ 20 := Nat.le_trans hk (by decide)
    have H0 : HEok k h0 := H _ (.head _)
    have l0 := H0.2.2.2.1
    have u0 := H0.2.2.2.2
    have v0 : h0.y + 1 ≤ 20 := Nat.le_trans (Nat.succ_le_succ (Nat.le_trans u0 hk)) (by decide)
    have w0 : h0.y ≤ 20 := Nat.le_of_succ_le v0
    have H1 : HEok k h1 := H _ (.tail _ (.head _))
    have l1 := H1.2.2.2.1
    have u1 := H1.2.2.2.2
    have v1 : h1.y + 1 ≤ 20 := Nat.le_trans (Nat.succ_le_succ (Nat.le_trans u1 hk)) (by decide)
    have w1 : h1.y ≤ 20 := Nat.le_of_succ_le v1
    simp only [List.map_cons, List.map_nil, List.nodup_cons, List.mem_cons, List.not_mem_nil, or_false, not_or, List.nodup_nil, and_true, not_false_eq_true] at hn
    have d01 := hn
    have d10 : h1.x ≠ h0.x := fun q => d01 q.symm
    by_cases g0 : h0.x = x0
    · skip
      have n1 : h1.x ≠ x0 := fun q => d10 (q.trans g0.symm)
      exact hear_use X (fun w b1 b2 pa p N t ω => (hrG2a L pl x0 h0 h1 w b1 b2 cd bl pa p N t ω).1) (by decide) (ac (cvNum (y := h0.y + 1) (Nat.le_add_left 1 _) v0) (ac (cvLo hx) (ac (fun q => n1 (lo_inj _ H1.1 _ hx q)) (ac (lwOk H1) (ac (congrArg lo g0) (ac (lwOk H0) (ac (cvLo hx) (ac (lwLo hx) (ac (dcUp (y := h0.y) (Nat.le_of_succ_le_succ v0)) (ac (apUp (y := h0.y) (Nat.le_of_succ_le_succ v0)) (ac (nuC H0 k20) (ac (congrArg lo g0) (ac (lwOk H0) (ac (cvLo hx) (ac (lwLo hx) an))))))))))))))) H (fun _ _ _ => ac (.tail _ (.head _)) an) (fun _ _ _ => ac (⟨hx, .inr rfl, rfl, Nat.le_add_left 1 _, Nat.succ_le_succ u0⟩) an) (fun _ _ _ => .inl ⟨h0.y, by simp [keyH, g0], by simp [keyH, g0, n1]⟩) D
    have n0 : h0.x ≠ x0 := g0
    by_cases g1 : h1.x = x0
    · skip
      exact hear_use X (fun w b1 b2 pa p N t ω => (hrG2a L pl x0 h0 h1 w b1 b2 cd bl pa p N t ω).2) (by decide) (ac (cvNum (y := h1.y + 1) (Nat.le_add_left 1 _) v1) (ac (cvLo hx) (ac (congrArg lo g1) (ac (lwOk H1) (ac (fun q => n0 (lo_inj _ H0.1 _ hx q)) (ac (lwOk H0) (ac (cvLo hx) (ac (lwLo hx) (ac (dcUp (y := h1.y) (Nat.le_of_succ_le_succ v1)) (ac (apUp (y := h1.y) (Nat.le_of_succ_le_succ v1)) (ac (nuC H1 k20) (ac (congrArg lo g1) (ac (lwOk H1) (ac (fun q => n0 (lo_inj _ H0.1 _ hx q)) (ac (lwOk H0) (ac (cvLo hx) (ac (lwLo hx) an))))))))))))))))) H (fun _ _ _ => ac (.head _) an) (fun _ _ _ => ac (⟨hx, .inr rfl, rfl, Nat.le_add_left 1 _, Nat.succ_le_succ u1⟩) an) (fun _ _ _ => .inl ⟨h1.y, by simp [keyH, g1], by simp [keyH, g1, n0]⟩) D
    have n1 : h1.x ≠ x0 := g1
    by_cases hr : ((2 : Int) < L.room)
    · skip
      exact hear_use X (fun w b1 b2 pa p N t ω => (hrG2b L pl x0 h0 h1 w b1 b2 cd bl pa p N t ω)) (by decide) (ac (cvNum (y := 1) (Nat.le_refl 1) (by decide)) (ac (cvAp hx) (ac (fun q => n1 (lo_inj _ H1.1 _ hx q)) (ac (lwOk H1) (ac (fun q => n0 (lo_inj _ H0.1 _ hx q)) (ac (lwOk H0) (ac (cvLo hx) (ac (lwAp hx) (ac (dcTh hx) (ac (apTh hx) (ac (nuLo hx) (ac (hr) (ac (fun q => n1 (lo_inj _ H1.1 _ hx q)) (ac (lwOk H1) (ac (fun q => n0 (lo_inj _ H0.1 _ hx q)) (ac (lwOk H0) (ac (cvLo hx) (ac (lwLo hx) an)))))))))))))))))) H (fun _ _ _ => ac (.head _) (ac (.tail _ (.head _)) an)) (fun _ _ _ => ac (⟨hx, .inl rfl, rfl, Nat.le_refl 1, Nat.le_add_left 1 _⟩) an) (fun _ _ _ => .inr (.inl ⟨by simp [keyH, n0, n1], by rw [hroom] at hr; simp; omega, by simp [keyH]⟩)) D
    have hno : ∀ e ∈ ([h0, h1].map keyH), e.1 ≠ x0 := by simp [keyH, n0, n1]
    have hrD : r ≤ ([h0, h1].map keyH).length := by rw [hroom] at hr; simp; omega
    by_cases z0 : h0.y - 1 = 0
    · skip
      by_cases z1 : h1.y - 1 = 0
      · skip
        exact hear_use X (fun w b1 b2 pa p N t ω => (hrG2f L pl x0 h0 h1 w b1 b2 cd bl pa p N t ω)) (by decide) (ac (rfl) (ac (lwOk H1) (ac (cvLo H1.1) (ac (lwOk H1) (ac ((dies h1.y (Nat.lt_succ_of_le w1)).mpr z1) (ac (dcDn (y := h1.y) w1) (ac (apDn (y := h1.y) l1 w1) (ac (nuC H1 k20) (ac (rfl) (ac (lwOk H1) (ac (cvLo H1.1) (ac (lwOk H1) (ac (fun q => d10 (lo_inj _ H1.1 _ H0.1 q)) (ac (lwOk H1) (ac (rfl) (ac (lwOk H0) (ac (cvLo H0.1) (ac (lwOk H0) (ac ((dies h0.y (Nat.lt_succ_of_le w0)).mpr z0) (ac (dcDn (y := h0.y) w0) (ac (apDn (y := h0.y) l0 w0) (ac (nuC H0 k20) (ac (rfl) (ac (lwOk H0) (ac (cvLo H0.1) (ac (lwOk H0) (ac (hr) (ac (fun q => n1 (lo_inj _ H1.1 _ hx q)) (ac (lwOk H1) (ac (fun q => n0 (lo_inj _ H0.1 _ hx q)) (ac (lwOk H0) (ac (cvLo hx) (ac (lwLo hx) an))))))))))))))))))))))))))))))))) H (fun _ _ _ => an) (fun _ _ _ => an) (fun _ _ _ => .inr (.inr ⟨hno, hrD, by simp [keyH, z0, z1]⟩)) D
      · have s1 := z1
        have t1 : 2 ≤ h1.y := by omega
        exact hear_use X (fun w b1 b2 pa p N t ω => (hrG2e L pl x0 h0 h1 w b1 b2 cd bl pa p N t ω)) (by decide) (ac (cvDn (y := h1.y) t1 w1) (ac (cvName H1) (ac (rfl) (ac (lwOk H1) (ac (cvLo H1.1) (ac (lwOk H1) (ac (fun q => s1 ((dies h1.y (Nat.lt_succ_of_le w1)).mp q)) (ac (dcDn (y := h1.y) w1) (ac (apDn (y := h1.y) l1 w1) (ac (nuC H1 k20) (ac (rfl) (ac (lwOk H1) (ac (cvLo H1.1) (ac (lwOk H1) (ac (fun q => d10 (lo_inj _ H1.1 _ H0.1 q)) (ac (lwOk H1) (ac (rfl) (ac (lwOk H0) (ac (cvLo H0.1) (ac (lwOk H0) (ac ((dies h0.y (Nat.lt_succ_of_le w0)).mpr z0) (ac (dcDn (y := h0.y) w0) (ac (apDn (y := h0.y) l0 w0) (ac (nuC H0 k20) (ac (rfl) (ac (lwOk H0) (ac (cvLo H0.1) (ac (lwOk H0) (ac (hr) (ac (fun q => n1 (lo_inj _ H1.1 _ hx q)) (ac (lwOk H1) (ac (fun q => n0 (lo_inj _ H0.1 _ hx q)) (ac (lwOk H0) (ac (cvLo hx) (ac (lwLo hx) an))))))))))))))))))))))))))))))))))) H (fun _ _ _ => an) (fun _ _ _ => ac (⟨H1.1, H1.2.1, rfl, Nat.pos_of_ne_zero s1, Nat.le_trans (Nat.sub_le _ _) (Nat.le_succ_of_le u1)⟩) an) (fun _ _ _ => .inr (.inr ⟨hno, hrD, by simp [keyH, z0, s1]⟩)) D
    · have s0 := z0
      have t0 : 2 ≤ h0.y := by omega
      by_cases z1 : h1.y - 1 = 0
      · skip
        exact hear_use X (fun w b1 b2 pa p N t ω => (hrG2d L pl x0 h0 h1 w b1 b2 cd bl pa p N t ω)) (by decide) (ac (fun q => d01 (lo_inj _ H0.1 _ H1.1 q)) (ac (lwOk H0) (ac (rfl) (ac (lwOk H1) (ac (cvLo H1.1) (ac (lwOk H1) (ac ((dies h1.y (Nat.lt_succ_of_le w1)).mpr z1) (ac (dcDn (y := h1.y) w1) (ac (apDn (y := h1.y) l1 w1) (ac (nuC H1 k20) (ac (rfl) (ac (lwOk H1) (ac (cvLo H1.1) (ac (lwOk H1) (ac (cvDn (y := h0.y) t0 w0) (ac (cvName H0) (ac (fun q => d10 (lo_inj _ H1.1 _ H0.1 q)) (ac (lwOk H1) (ac (rfl) (ac (lwOk H0) (ac (cvLo H0.1) (ac (lwOk H0) (ac (fun q => s0 ((dies h0.y (Nat.lt_succ_of_le w0)).mp q)) (ac (dcDn (y := h0.y) w0) (ac (apDn (y := h0.y) l0 w0) (ac (nuC H0 k20) (ac (rfl) (ac (lwOk H0) (ac (cvLo H0.1) (ac (lwOk H0) (ac (hr) (ac (fun q => n1 (lo_inj _ H1.1 _ hx q)) (ac (lwOk H1) (ac (fun q => n0 (lo_inj _ H0.1 _ hx q)) (ac (lwOk H0) (ac (cvLo hx) (ac (lwLo hx) an))))))))))))))))))))))))))))))))))))) H (fun _ _ _ => an) (fun _ _ _ => ac (⟨H0.1, H0.2.1, rfl, Nat.pos_of_ne_zero s0, Nat.le_trans (Nat.sub_le _ _) (Nat.le_succ_of_le u0)⟩) an) (fun _ _ _ => .inr (.inr ⟨hno, hrD, by simp [keyH, s0, z1]⟩)) D
      · have s1 := z1
        have t1 : 2 ≤ h1.y := by omega
        exact hear_use X (fun w b1 b2 pa p N t ω => (hrG2c L pl x0 h0 h1 w b1 b2 cd bl pa p N t ω)) (by decide) (ac (cvDn (y := h1.y) t1 w1) (ac (cvName H1) (ac (fun q => d01 (lo_inj _ H0.1 _ H1.1 q)) (ac (lwOk H0) (ac (rfl) (ac (lwOk H1) (ac (cvLo H1.1) (ac (lwOk H1) (ac (fun q => s1 ((dies h1.y (Nat.lt_succ_of_le w1)).mp q)) (ac (dcDn (y := h1.y) w1) (ac (apDn (y := h1.y) l1 w1) (ac (nuC H1 k20) (ac (rfl) (ac (lwOk H1) (ac (cvLo H1.1) (ac (lwOk H1) (ac (cvDn (y := h0.y) t0 w0) (ac (cvName H0) (ac (fun q => d10 (lo_inj _ H1.1 _ H0.1 q)) (ac (lwOk H1) (ac (rfl) (ac (lwOk H0) (ac (cvLo H0.1) (ac (lwOk H0) (ac (fun q => s0 ((dies h0.y (Nat.lt_succ_of_le w0)).mp q)) (ac (dcDn (y := h0.y) w0) (ac (apDn (y := h0.y) l0 w0) (ac (nuC H0 k20) (ac (rfl) (ac (lwOk H0) (ac (cvLo H0.1) (ac (lwOk H0) (ac (hr) (ac (fun q => n1 (lo_inj _ H1.1 _ hx q)) (ac (lwOk H1) (ac (fun q => n0 (lo_inj _ H0.1 _ hx q)) (ac (lwOk H0) (ac (cvLo hx) (ac (lwLo hx) an))))))))))))))))))))))))))))))))))))))) H (fun _ _ _ => an) (fun _ _ _ => ac (⟨H0.1, H0.2.1, rfl, Nat.pos_of_ne_zero s0, Nat.le_trans (Nat.sub_le _ _) (Nat.le_succ_of_le u0)⟩) (ac (⟨H1.1, H1.2.1, rfl, Nat.pos_of_ne_zero s1, Nat.le_trans (Nat.sub_le _ _) (Nat.le_succ_of_le u1)⟩) an)) (fun _ _ _ => .inr (.inr ⟨hno, hrD, by simp [keyH, s0, s1]⟩)) D
  | [h0, h1, h2], H, hl, hn, D =>
    have k20 : k ≤ 20 := Nat.le_trans hk (by decide)
    have H0 : HEok k h0 := H _ (.head _)
    have l0 := H0.2.2.2.1
    have u0 := H0.2.2.2.2
    have v0 : h0.y + 1 ≤ 20 := Nat.le_trans (Nat.succ_le_succ (Nat.le_trans u0 hk)) (by decide)
    have w0 : h0.y ≤ 20 := Nat.le_of_succ_le v0
    have H1 : HEok k h1 := H _ (.tail _ (.head _))
    have l1 := H1.2.2.2.1
    have u1 := H1.2.2.2.2
    have v1 : h1.y + 1 ≤ 20 := Nat.le_trans (Nat.succ_le_succ (Nat.le_trans u1 hk)) (by decide)
    have w1 : h1.y ≤ 20 := Nat.le_of_succ_le v1
    have H2 : HEok k h2 := H _ (.tail _ (.tail _ (.head _)))
    have l2 := H2.2.2.2.1
    have u2 := H2.2.2.2.2
    have v2 : h2.y + 1 ≤ 20 := Nat.le_trans (Nat.succ_le_succ (Nat.le_trans u2 hk)) (by decide)
    have w2 : h2.y ≤ 20 := Nat.le_of_succ_le v2
    simp only [List.map_cons, List.map_nil, List.nodup_cons, List.mem_cons, List.not_mem_nil, or_false, not_or, List.nodup_nil, and_true, not_false_eq_true] at hn
    have d01 := hn.1.1
    have d02 := hn.1.2
    have d12 := hn.2
    have d10 : h1.x ≠ h0.x := fun q => d01 q.symm
    have d20 : h2.x ≠ h0.x := fun q => d02 q.symm
    have d21 : h2.x ≠ h1.x := fun q => d12 q.symm
    by_cases g0 : h0.x = x0
    · skip
      have n1 : h1.x ≠ x0 := fun q => d10 (q.trans g0.symm)
      have n2 : h2.x ≠ x0 := fun q => d20 (q.trans g0.symm)
      exact hear_use X (fun w b1 b2 pa p N t ω => (hrG3a L pl x0 h0 h1 h2 w b1 b2 cd bl pa p N t ω).1) (by decide) (ac (cvNum (y := h0.y + 1) (Nat.le_add_left 1 _) v0) (ac (cvLo hx) (ac (fun q => n2 (lo_inj _ H2.1 _ hx q)) (ac (lwOk H2) (ac (fun q => n1 (lo_inj _ H1.1 _ hx q)) (ac (lwOk H1) (ac (congrArg lo g0) (ac (lwOk H0) (ac (cvLo hx) (ac (lwLo hx) (ac (dcUp (y := h0.y) (Nat.le_of_succ_le_succ v0)) (ac (apUp (y := h0.y) (Nat.le_of_succ_le_succ v0)) (ac (nuC H0 k20) (ac (congrArg lo g0) (ac (lwOk H0) (ac (cvLo hx) (ac (lwLo hx) an))))))))))))))))) H (fun _ _ _ => ac (.tail _ (.head _)) (ac (.tail _ (.tail _ (.head _))) an)) (fun _ _ _ => ac (⟨hx, .inr rfl, rfl, Nat.le_add_left 1 _, Nat.succ_le_succ u0⟩) an) (fun _ _ _ => .inl ⟨h0.y, by simp [keyH, g0], by simp [keyH, g0, n1, n2]⟩) D
    have n0 : h0.x ≠ x0 := g0
    by_cases g1 : h1.x = x0
    · skip
      have n2 : h2.x ≠ x0 := fun q => d21 (q.trans g1.symm)
      exact hear_use X (fun w b1 b2 pa p N t ω => (hrG3a L pl x0 h0 h1 h2 w b1 b2 cd bl pa p N t ω).2) (by decide) (ac (cvNum (y := h1.y + 1) (Nat.le_add_left 1 _) v1) (ac (cvLo hx) (ac (fun q => n2 (lo_inj _ H2.1 _ hx q)) (ac (lwOk H2) (ac (congrArg lo g1) (ac (lwOk H1) (ac (fun q => n0 (lo_inj _ H0.1 _ hx q)) (ac (lwOk H0) (ac (cvLo hx) (ac (lwLo hx) (ac (dcUp (y := h1.y) (Nat.le_of_succ_le_succ v1)) (ac (apUp (y := h1.y) (Nat.le_of_succ_le_succ v1)) (ac (nuC H1 k20) (ac (congrArg lo g1) (ac (lwOk H1) (ac (fun q => n0 (lo_inj _ H0.1 _ hx q)) (ac (lwOk H0) (ac (cvLo hx) (ac (lwLo hx) an))))))))))))))))))) H (fun _ _ _ => ac (.head _) (ac (.tail _ (.tail _ (.head _))) an)) (fun _ _ _ => ac (⟨hx, .inr rfl, rfl, Nat.le_add_left 1 _, Nat.succ_le_succ u1⟩) an) (fun _ _ _ => .inl ⟨h1.y, by simp [keyH, g1], by simp [keyH, g1, n0, n2]⟩) D
    have n1 : h1.x ≠ x0 := g1
    by_cases g2 : h2.x = x0
    · skip
      exact hear_use X (fun w b1 b2 pa p N t ω => (hrG3b L pl x0 h0 h1 h2 w b1 b2 cd bl pa p N t ω)) (by decide) (ac (cvNum (y := h2.y + 1) (Nat.le_add_left 1 _) v2) (ac (cvLo hx) (ac (congrArg lo g2) (ac (lwOk H2) (ac (fun q => n1 (lo_inj _ H1.1 _ hx q)) (ac (lwOk H1) (ac (fun q => n0 (lo_inj _ H0.1 _ hx q)) (ac (lwOk H0) (ac (cvLo hx) (ac (lwLo hx) (ac (dcUp (y := h2.y) (Nat.le_of_succ_le_succ v2)) (ac (apUp (y := h2.y) (Nat.le_of_succ_le_succ v2)) (ac (nuC H2 k20) (ac (congrArg lo g2) (ac (lwOk H2) (ac (fun q => n1 (lo_inj _ H1.1 _ hx q)) (ac (lwOk H1) (ac (fun q => n0 (lo_inj _ H0.1 _ hx q)) (ac (lwOk H0) (ac (cvLo hx) (ac (lwLo hx) an))))))))))))))))))))) H (fun _ _ _ => ac (.head _) (ac (.tail _ (.head _)) an)) (fun _ _ _ => ac (⟨hx, .inr rfl, rfl, Nat.le_add_left 1 _, Nat.succ_le_succ u2⟩) an) (fun _ _ _ => .inl ⟨h2.y, by simp [keyH, g2], by simp [keyH, g2, n0, n1]⟩) D
    have n2 : h2.x ≠ x0 := g2
    by_cases hr : ((3 : Int) < L.room)
    · skip
      rw [hroom] at hr; omega
    have hno : ∀ e ∈ ([h0, h1, h2].map keyH), e.1 ≠ x0 := by simp [keyH, n0, n1, n2]
    have hrD : r ≤ ([h0, h1, h2].map keyH).length := by rw [hroom] at hr; simp; omega
    by_cases z0 : h0.y - 1 = 0
    · skip
      by_cases z1 : h1.y - 1 = 0
      · skip
        by_cases z2 : h2.y - 1 = 0
        · skip
          exact hear_use X (fun w b1 b2 pa p N t ω => (hrG3j L pl x0 h0 h1 h2 w b1 b2 cd bl pa p N t ω)) (by decide) (ac (rfl) (ac (lwOk H2) (ac (cvLo H2.1) (ac (lwOk H2) (ac ((dies h2.y (Nat.lt_succ_of_le w2)).mpr z2) (ac (dcDn (y := h2.y) w2) (ac (apDn (y := h2.y) l2 w2) (ac (nuC H2 k20) (ac (rfl) (ac (lwOk H2) (ac (cvLo H2.1) (ac (lwOk H2) (ac (fun q => d21 (lo_inj _ H2.1 _ H1.1 q)) (ac (lwOk H2) (ac (rfl) (ac (lwOk H1) (ac (cvLo H1.1) (ac (lwOk H1) (ac ((dies h1.y (Nat.lt_succ_of_le w1)).mpr z1) (ac (dcDn (y := h1.y) w1) (ac (apDn (y := h1.y) l1 w1) (ac (nuC H1 k20) (ac (rfl) (ac (lwOk H1) (ac (cvLo H1.1) (ac (lwOk H1) (ac (fun q => d20 (lo_inj _ H2.1 _ H0.1 q)) (ac (lwOk H2) (ac (fun q => d10 (lo_inj _ H1.1 _ H0.1 q)) (ac (lwOk H1) (ac (rfl) (ac (lwOk H0) (ac (cvLo H0.1) (ac (lwOk H0) (ac ((dies h0.y (Nat.lt_succ_of_le w0)).mpr z0) (ac (dcDn (y := h0.y) w0) (ac (apDn (y := h0.y) l0 w0) (ac (nuC H0 k20) (ac (rfl) (ac (lwOk H0) (ac (cvLo H0.1) (ac (lwOk H0) (ac (hr) (ac (fun q => n2 (lo_inj _ H2.1 _ hx q)) (ac (lwOk H2) (ac (fun q => n1 (lo_inj _ H1.1 _ hx q)) (ac (lwOk H1) (ac (fun q => n0 (lo_inj _ H0.1 _ hx q)) (ac (lwOk H0) (ac (cvLo hx) (ac (lwLo hx) an))))))))))))))))))))))))))))))))))))))))))))))))))) H (fun _ _ _ => an) (fun _ _ _ => an) (fun _ _ _ => .inr (.inr ⟨hno, hrD, by simp [keyH, z0, z1, z2]⟩)) D
        · have s2 := z2
          have t2 : 2 ≤ h2.y := by omega
          exact hear_use X (fun w b1 b2 pa p N t ω => (hrG3i L pl x0 h0 h1 h2 w b1 b2 cd bl pa p N t ω)) (by decide) (ac (cvDn (y := h2.y) t2 w2) (ac (cvName H2) (ac (rfl) (ac (lwOk H2) (ac (cvLo H2.1) (ac (lwOk H2) (ac (fun q => s2 ((dies h2.y (Nat.lt_succ_of_le w2)).mp q)) (ac (dcDn (y := h2.y) w2) (ac (apDn (y := h2.y) l2 w2) (ac (nuC H2 k20) (ac (rfl) (ac (lwOk H2) (ac (cvLo H2.1) (ac (lwOk H2) (ac (fun q => d21 (lo_inj _ H2.1 _ H1.1 q)) (ac (lwOk H2) (ac (rfl) (ac (lwOk H1) (ac (cvLo H1.1) (ac (lwOk H1) (ac ((dies h1.y (Nat.lt_succ_of_le w1)).mpr z1) (ac (dcDn (y := h1.y) w1) (ac (apDn (y := h1.y) l1 w1) (ac (nuC H1 k20) (ac (rfl) (ac (lwOk H1) (ac (cvLo H1.1) (ac (lwOk H1) (ac (fun q => d20 (lo_inj _ H2.1 _ H0.1 q)) (ac (lwOk H2) (ac (fun q => d10 (lo_inj _ H1.1 _ H0.1 q)) (ac (lwOk H1) (ac (rfl) (ac (lwOk H0) (ac (cvLo H0.1) (ac (lwOk H0) (ac ((dies h0.y (Nat.lt_succ_of_le w0)).mpr z0) (ac (dcDn (y := h0.y) w0) (ac (apDn (y := h0.y) l0 w0) (ac (nuC H0 k20) (ac (rfl) (ac (lwOk H0) (ac (cvLo H0.1) (ac (lwOk H0) (ac (hr) (ac (fun q => n2 (lo_inj _ H2.1 _ hx q)) (ac (lwOk H2) (ac (fun q => n1 (lo_inj _ H1.1 _ hx q)) (ac (lwOk H1) (ac (fun q => n0 (lo_inj _ H0.1 _ hx q)) (ac (lwOk H0) (ac (cvLo hx) (ac (lwLo hx) an))))))))))))))))))))))))))))))))))))))))))))))))))))) H (fun _ _ _ => an) (fun _ _ _ => ac (⟨H2.1, H2.2.1, rfl, Nat.pos_of_ne_zero s2, Nat.le_trans (Nat.sub_le _ _) (Nat.le_succ_of_le u2)⟩) an) (fun _ _ _ => .inr (.inr ⟨hno, hrD, by simp [keyH, z0, z1, s2]⟩)) D
      · have s1 := z1
        have t1 : 2 ≤ h1.y := by omega
        by_cases z2 : h2.y - 1 = 0
        · skip
          exact hear_use X (fun w b1 b2 pa p N t ω => (hrG3h L pl x0 h0 h1 h2 w b1 b2 cd bl pa p N t ω)) (by decide) (ac (fun q => d12 (lo_inj _ H1.1 _ H2.1 q)) (ac (lwOk H1) (ac (rfl) (ac (lwOk H2) (ac (cvLo H2.1) (ac (lwOk H2) (ac ((dies h2.y (Nat.lt_succ_of_le w2)).mpr z2) (ac (dcDn (y := h2.y) w2) (ac (apDn (y := h2.y) l2 w2) (ac (nuC H2 k20) (ac (rfl) (ac (lwOk H2) (ac (cvLo H2.1) (ac (lwOk H2) (ac (cvDn (y := h1.y) t1 w1) (ac (cvName H1) (ac (fun q => d21 (lo_inj _ H2.1 _ H1.1 q)) (ac (lwOk H2) (ac (rfl) (ac (lwOk H1) (ac (cvLo H1.1) (ac (lwOk H1) (ac (fun q => s1 ((dies h1.y (Nat.lt_succ_of_le w1)).mp q)) (ac (dcDn (y := h1.y) w1) (ac (apDn (y := h1.y) l1 w1) (ac (nuC H1 k20) (ac (rfl) (ac (lwOk H1) (ac (cvLo H1.1) (ac (lwOk H1) (ac (fun q => d20 (lo_inj _ H2.1 _ H0.1 q)) (ac (lwOk H2) (ac (fun q => d10 (lo_inj _ H1.1 _ H0.1 q)) (ac (lwOk H1) (ac (rfl) (ac (lwOk H0) (ac (cvLo H0.1) (ac (lwOk H0) (ac ((dies h0.y (Nat.lt_succ_of_le w0)).mpr z0) (ac (dcDn (y := h0.y) w0) (ac (apDn (y := h0.y) l0 w0) (ac (nuC H0 k20) (ac (rfl) (ac (lwOk H0) (ac (cvLo H0.1) (ac (lwOk H0) (ac (hr) (ac (fun q => n2 (lo_inj _ H2.1 _ hx q)) (ac (lwOk H2) (ac (fun q => n1 (lo_inj _ H1.1 _ hx q)) (ac (lwOk H1) (ac (fun q => n0 (lo_inj _ H0.1 _ hx q)) (ac (lwOk H0) (ac (cvLo hx) (ac (lwLo hx) an))))))))))))))))))))))))))))))))))))))))))))))))))))))) H (fun _ _ _ => an) (fun _ _ _ => ac (⟨H1.1, H1.2.1, rfl, Nat.pos_of_ne_zero s1, Nat.le_trans (Nat.sub_le _ _) (Nat.le_succ_of_le u1)⟩) an) (fun _ _ _ => .inr (.inr ⟨hno, hrD, by simp [keyH, z0, s1, z2]⟩)) D
        · have s2 := z2
          have t2 : 2 ≤ h2.y := by omega
          exact hear_use X (fun w b1 b2 pa p N t ω => (hrG3g L pl x0 h0 h1 h2 w b1 b2 cd bl pa p N t ω)) (by decide) (ac (cvDn (y := h2.y) t2 w2) (ac (cvName H2) (ac (fun q => d12 (lo_inj _ H1.1 _ H2.1 q)) (ac (lwOk H1) (ac (rfl) (ac (lwOk H2) (ac (cvLo H2.1) (ac (lwOk H2) (ac (fun q => s2 ((dies h2.y (Nat.lt_succ_of_le w2)).mp q)) (ac (dcDn (y := h2.y) w2) (ac (apDn (y := h2.y) l2 w2) (ac (nuC H2 k20) (ac (rfl) (ac (lwOk H2) (ac (cvLo H2.1) (ac (lwOk H2) (ac (cvDn (y := h1.y) t1 w1) (ac (cvName H1) (ac (fun q => d21 (lo_inj _ H2.1 _ H1.1 q)) (ac (lwOk H2) (ac (rfl) (ac (lwOk H1) (ac (cvLo H1.1) (ac (lwOk H1) (ac (fun q => s1 ((dies h1.y (Nat.lt_succ_of_le w1)).mp q)) (ac (dcDn (y := h1.y) w1) (ac (apDn (y := h1.y) l1 w1) (ac (nuC H1 k20) (ac (rfl) (ac (lwOk H1) (ac (cvLo H1.1) (ac (lwOk H1) (ac (fun q => d20 (lo_inj _ H2.1 _ H0.1 q)) (ac (lwOk H2) (ac (fun q => d10 (lo_inj _ H1.1 _ H0.1 q)) (ac (lwOk H1) (ac (rfl) (ac (lwOk H0) (ac (cvLo H0.1) (ac (lwOk H0) (ac ((dies h0.y (Nat.lt_succ_of_le w0)).mpr z0) (ac (dcDn (y := h0.y) w0) (ac (apDn (y := h0.y) l0 w0) (ac (nuC H0 k20) (ac (rfl) (ac (lwOk H0) (ac (cvLo H0.1) (ac (lwOk H0) (ac (hr) (ac (fun q => n2 (lo_inj _ H2.1 _ hx q)) (ac (lwOk H2) (ac (fun q => n1 (lo_inj _ H1.1 _ hx q)) (ac (lwOk H1) (ac (fun q => n0 (lo_inj _ H0.1 _ hx q)) (ac (lwOk H0) (ac (cvLo hx) (ac (lwLo hx) an))))))))))))))))))))))))))))))))))))))))))))))))))))))))) H (fun _ _ _ => an) (fun _ _ _ => ac (⟨H1.1, H1.2.1, rfl, Nat.pos_of_ne_zero s1, Nat.le_trans (Nat.sub_le _ _) (Nat.le_succ_of_le u1)⟩) (ac (⟨H2.1, H2.2.1, rfl, Nat.pos_of_ne_zero s2, Nat.le_trans (Nat.sub_le _ _) (Nat.le_succ_of_le u2)⟩) an)) (fun _ _ _ => .inr (.inr ⟨hno, hrD, by simp [keyH, z0, s1, s2]⟩)) D
    · have s0 := z0
      have t0 : 2 ≤ h0.y := by omega
      by_cases z1 : h1.y - 1 = 0
      · skip
        by_cases z2 : h2.y - 1 = 0
        · skip
          exact hear_use X (fun w b1 b2 pa p N t ω => (hrG3f L pl x0 h0 h1 h2 w b1 b2 cd bl pa p N t ω)) (by decide) (ac (fun q => d02 (lo_inj _ H0.1 _ H2.1 q)) (ac (lwOk H0) (ac (rfl) (ac (lwOk H2) (ac (cvLo H2.1) (ac (lwOk H2) (ac ((dies h2.y (Nat.lt_succ_of_le w2)).mpr z2) (ac (dcDn (y := h2.y) w2) (ac (apDn (y := h2.y) l2 w2) (ac (nuC H2 k20) (ac (rfl) (ac (lwOk H2) (ac (cvLo H2.1) (ac (lwOk H2) (ac (fun q => d01 (lo_inj _ H0.1 _ H1.1 q)) (ac (lwOk H0) (ac (fun q => d21 (lo_inj _ H2.1 _ H1.1 q)) (ac (lwOk H2) (ac (rfl) (ac (lwOk H1) (ac (cvLo H1.1) (ac (lwOk H1) (ac ((dies h1.y (Nat.lt_succ_of_le w1)).mpr z1) (ac (dcDn (y := h1.y) w1) (ac (apDn (y := h1.y) l1 w1) (ac (nuC H1 k20) (ac (rfl) (ac (lwOk H1) (ac (cvLo H1.1) (ac (lwOk H1) (ac (cvDn (y := h0.y) t0 w0) (ac (cvName H0) (ac (fun q => d20 (lo_inj _ H2.1 _ H0.1 q)) (ac (lwOk H2) (ac (fun q => d10 (lo_inj _ H1.1 _ H0.1 q)) (ac (lwOk H1) (ac (rfl) (ac (lwOk H0) (ac (cvLo H0.1) (ac (lwOk H0) (ac (fun q => s0 ((dies h0.y (Nat.lt_succ_of_le w0)).mp q)) (ac (dcDn (y := h0.y) w0) (ac (apDn (y := h0.y) l0 w0) (ac (nuC H0 k20) (ac (rfl) (ac (lwOk H0) (ac (cvLo H0.1) (ac (lwOk H0) (ac (hr) (ac (fun q => n2 (lo_inj _ H2.1 _ hx q)) (ac (lwOk H2) (ac (fun q => n1 (lo_inj _ H1.1 _ hx q)) (ac (lwOk H1) (ac (fun q => n0 (lo_inj _ H0.1 _ hx q)) (ac (lwOk H0) (ac (cvLo hx) (ac (lwLo hx) an))))))))))))))))))))))))))))))))))))))))))))))))))))))))) H (fun _ _ _ => an) (fun _ _ _ => ac (⟨H0.1, H0.2.1, rfl, Nat.pos_of_ne_zero s0, Nat.le_trans (Nat.sub_le _ _) (Nat.le_succ_of_le u0)⟩) an) (fun _ _ _ => .inr (.inr ⟨hno, hrD, by simp [keyH, s0, z1, z2]⟩)) D
        · have s2 := z2
          have t2 : 2 ≤ h2.y := by omega
          exact hear_use X (fun w b1 b2 pa p N t ω => (hrG3e L pl x0 h0 h1 h2 w b1 b2 cd bl pa p N t ω)) (by decide) (ac (cvDn (y := h2.y) t2 w2) (ac (cvName H2) (ac (fun q => d02 (lo_inj _ H0.1 _ H2.1 q)) (ac (lwOk H0) (ac (rfl) (ac (lwOk H2) (ac (cvLo H2.1) (ac (lwOk H2) (ac (fun q => s2 ((dies h2.y (Nat.lt_succ_of_le w2)).mp q)) (ac (dcDn (y := h2.y) w2) (ac (apDn (y := h2.y) l2 w2) (ac (nuC H2 k20) (ac (rfl) (ac (lwOk H2) (ac (cvLo H2.1) (ac (lwOk H2) (ac (fun q => d01 (lo_inj _ H0.1 _ H1.1 q)) (ac (lwOk H0) (ac (fun q => d21 (lo_inj _ H2.1 _ H1.1 q)) (ac (lwOk H2) (ac (rfl) (ac (lwOk H1) (ac (cvLo H1.1) (ac (lwOk H1) (ac ((dies h1.y (Nat.lt_succ_of_le w1)).mpr z1) (ac (dcDn (y := h1.y) w1) (ac (apDn (y := h1.y) l1 w1) (ac (nuC H1 k20) (ac (rfl) (ac (lwOk H1) (ac (cvLo H1.1) (ac (lwOk H1) (ac (cvDn (y := h0.y) t0 w0) (ac (cvName H0) (ac (fun q => d20 (lo_inj _ H2.1 _ H0.1 q)) (ac (lwOk H2) (ac (fun q => d10 (lo_inj _ H1.1 _ H0.1 q)) (ac (lwOk H1) (ac (rfl) (ac (lwOk H0) (ac (cvLo H0.1) (ac (lwOk H0) (ac (fun q => s0 ((dies h0.y (Nat.lt_succ_of_le w0)).mp q)) (ac (dcDn (y := h0.y) w0) (ac (apDn (y := h0.y) l0 w0) (ac (nuC H0 k20) (ac (rfl) (ac (lwOk H0) (ac (cvLo H0.1) (ac (lwOk H0) (ac (hr) (ac (fun q => n2 (lo_inj _ H2.1 _ hx q)) (ac (lwOk H2) (ac (fun q => n1 (lo_inj _ H1.1 _ hx q)) (ac (lwOk H1) (ac (fun q => n0 (lo_inj _ H0.1 _ hx q)) (ac (lwOk H0) (ac (cvLo hx) (ac (lwLo hx) an))))))))))))))))))))))))))))))))))))))))))))))))))))))))))) H (fun _ _ _ => an) (fun _ _ _ => ac (⟨H0.1, H0.2.1, rfl, Nat.pos_of_ne_zero s0, Nat.le_trans (Nat.sub_le _ _) (Nat.le_succ_of_le u0)⟩) (ac (⟨H2.1, H2.2.1, rfl, Nat.pos_of_ne_zero s2, Nat.le_trans (Nat.sub_le _ _) (Nat.le_succ_of_le u2)⟩) an)) (fun _ _ _ => .inr (.inr ⟨hno, hrD, by simp [keyH, s0, z1, s2]⟩)) D
      · have s1 := z1
        have t1 : 2 ≤ h1.y := by omega
        by_cases z2 : h2.y - 1 = 0
        · skip
          exact hear_use X (fun w b1 b2 pa p N t ω => (hrG3d L pl x0 h0 h1 h2 w b1 b2 cd bl pa p N t ω)) (by decide) (ac (fun q => d12 (lo_inj _ H1.1 _ H2.1 q)) (ac (lwOk H1) (ac (fun q => d02 (lo_inj _ H0.1 _ H2.1 q)) (ac (lwOk H0) (ac (rfl) (ac (lwOk H2) (ac (cvLo H2.1) (ac (lwOk H2) (ac ((dies h2.y (Nat.lt_succ_of_le w2)).mpr z2) (ac (dcDn (y := h2.y) w2) (ac (apDn (y := h2.y) l2 w2) (ac (nuC H2 k20) (ac (rfl) (ac (lwOk H2) (ac (cvLo H2.1) (ac (lwOk H2) (ac (cvDn (y := h1.y) t1 w1) (ac (cvName H1) (ac (fun q => d01 (lo_inj _ H0.1 _ H1.1 q)) (ac (lwOk H0) (ac (fun q => d21 (lo_inj _ H2.1 _ H1.1 q)) (ac (lwOk H2) (ac (rfl) (ac (lwOk H1) (ac (cvLo H1.1) (ac (lwOk H1) (ac (fun q => s1 ((dies h1.y (Nat.lt_succ_of_le w1)).mp q)) (ac (dcDn (y := h1.y) w1) (ac (apDn (y := h1.y) l1 w1) (ac (nuC H1 k20) (ac (rfl) (ac (lwOk H1) (ac (cvLo H1.1) (ac (lwOk H1) (ac (cvDn (y := h0.y) t0 w0) (ac (cvName H0) (ac (fun q => d20 (lo_inj _ H2.1 _ H0.1 q)) (ac (lwOk H2) (ac (fun q => d10 (lo_inj _ H1.1 _ H0.1 q)) (ac (lwOk H1) (ac (rfl) (ac (lwOk H0) (ac (cvLo H0.1) (ac (lwOk H0) (ac (fun q => s0 ((dies h0.y (Nat.lt_succ_of_le w0)).mp q)) (ac (dcDn (y := h0.y) w0) (ac (apDn (y := h0.y) l0 w0) (ac (nuC H0 k20) (ac (rfl) (ac (lwOk H0) (ac (cvLo H0.1) (ac (lwOk H0) (ac (hr) (ac (fun q => n2 (lo_inj _ H2.1 _ hx q)) (ac (lwOk H2) (ac (fun q => n1 (lo_inj _ H1.1 _ hx q)) (ac (lwOk H1) (ac (fun q => n0 (lo_inj _ H0.1 _ hx q)) (ac (lwOk H0) (ac (cvLo hx) (ac (lwLo hx) an))))))))))))))))))))))))))))))))))))))))))))))))))))))))))))) H (fun _ _ _ => an) (fun _ _ _ => ac (⟨H0.1, H0.2.1, rfl, Nat.pos_of_ne_zero s0, Nat.le_trans (Nat.sub_le _ _) (Nat.le_succ_of_le u0)⟩) (ac (⟨H1.1, H1.2.1, rfl, Nat.pos_of_ne_zero s1, Nat.le_trans (Nat.sub_le _ _) (Nat.le_succ_of_le u1)⟩) an)) (fun _ _ _ => .inr (.inr ⟨hno, hrD, by simp [keyH, s0, s1, z2]⟩)) D
        · have s2 := z2
          have t2 : 2 ≤ h2.y := by omega
          exact hear_use X (fun w b1 b2 pa p N t ω => (hrG3c L pl x0 h0 h1 h2 w b1 b2 cd bl pa p N t ω)) (by decide) (ac (cvDn (y := h2.y) t2 w2) (ac (cvName H2) (ac (fun q => d12 (lo_inj _ H1.1 _ H2.1 q)) (ac (lwOk H1) (ac (fun q => d02 (lo_inj _ H0.1 _ H2.1 q)) (ac (lwOk H0) (ac (rfl) (ac (lwOk H2) (ac (cvLo H2.1) (ac (lwOk H2) (ac (fun q => s2 ((dies h2.y (Nat.lt_succ_of_le w2)).mp q)) (ac (dcDn (y := h2.y) w2) (ac (apDn (y := h2.y) l2 w2) (ac (nuC H2 k20) (ac (rfl) (ac (lwOk H2) (ac (cvLo H2.1) (ac (lwOk H2) (ac (cvDn (y := h1.y) t1 w1) (ac (cvName H1) (ac (fun q => d01 (lo_inj _ H0.1 _ H1.1 q)) (ac (lwOk H0) (ac (fun q => d21 (lo_inj _ H2.1 _ H1.1 q)) (ac (lwOk H2) (ac (rfl) (ac (lwOk H1) (ac (cvLo H1.1) (ac (lwOk H1) (ac (fun q => s1 ((dies h1.y (Nat.lt_succ_of_le w1)).mp q)) (ac (dcDn (y := h1.y) w1) (ac (apDn (y := h1.y) l1 w1) (ac (nuC H1 k20) (ac (rfl) (ac (lwOk H1) (ac (cvLo H1.1) (ac (lwOk H1) (ac (cvDn (y := h0.y) t0 w0) (ac (cvName H0) (ac (fun q => d20 (lo_inj _ H2.1 _ H0.1 q)) (ac (lwOk H2) (ac (fun q => d10 (lo_inj _ H1.1 _ H0.1 q)) (ac (lwOk H1) (ac (rfl) (ac (lwOk H0) (ac (cvLo H0.1) (ac (lwOk H0) (ac (fun q => s0 ((dies h0.y (Nat.lt_succ_of_le w0)).mp q)) (ac (dcDn (y := h0.y) w0) (ac (apDn (y := h0.y) l0 w0) (ac (nuC H0 k20) (ac (rfl) (ac (lwOk H0) (ac (cvLo H0.1) (ac (lwOk H0) (ac (hr) (ac (fun q => n2 (lo_inj _ H2.1 _ hx q)) (ac (lwOk H2) (ac (fun q => n1 (lo_inj _ H1.1 _ hx q)) (ac (lwOk H1) (ac (fun q => n0 (lo_inj _ H0.1 _ hx q)) (ac (lwOk H0) (ac (cvLo hx) (ac (lwLo hx) an))))))))))))))))))))))))))))))))))))))))))))))))))))))))))))))) H (fun _ _ _ => an) (fun _ _ _ => ac (⟨H0.1, H0.2.1, rfl, Nat.pos_of_ne_zero s0, Nat.le_trans (Nat.sub_le _ _) (Nat.le_succ_of_le u0)⟩) (ac (⟨H1.1, H1.2.1, rfl, Nat.pos_of_ne_zero s1, Nat.le_trans (Nat.sub_le _ _) (Nat.le_succ_of_le u1)⟩) (ac (⟨H2.1, H2.2.1, rfl, Nat.pos_of_ne_zero s2, Nat.le_trans (Nat.sub_le _ _) (Nat.le_succ_of_le u2)⟩) an))) (fun _ _ _ => .inr (.inr ⟨hno, hrD, by simp [keyH, s0, s1, s2]⟩)) D
  | _ :: _ :: _ :: _ :: _, _, hl, _, _ => simp at hl
theorem take_ok (X : Cx w b1 b2 E cd bl pa) {L : Loc} {hd : List HE} {pl : List PE} (hl : 2 ≤ pl.length) (hl2 : pl.length ≤ 4) (D : HS w b1 b2 E L hd pl s) :
    Wn E ⟨cd, none, none, bl, pa⟩ (sgT 5 (pp w b1 b2)) (fun s' => ∃ e pl', HS w b1 b2 E { L with e1 := e } hd pl' s' ∧ TakeQ (pl.map keyP) L.thg (pl'.map keyP)) s := by
  match pl, hl, hl2, D with
  | [p0, p1], hl, hl2, D =>
    by_cases g0 : p0.who = L.thg
    · skip
      exact take_use X (fun w b1 b2 pa p N t ω => (tkG2a L hd p0 p1 w b1 b2 cd bl pa p N t ω).1) (by decide) (ac (g0) an) (fun _ _ _ => .inl ⟨0, p0.cnt, by simp [keyP, g0], rfl⟩) D
    have n0 := g0
    by_cases g1 : p1.who = L.thg
    · skip
      exact take_use X (fun w b1 b2 pa p N t ω => (tkG2a L hd p0 p1 w b1 b2 cd bl pa p N t ω).2.1) (by decide) (ac (g1) (ac (n0) an)) (fun _ _ _ => .inl ⟨1, p1.cnt, by simp [keyP, g1], rfl⟩) D
    have n1 := g1
    have ne : ∀ e ∈ ([p0, p1].map keyP), e.1 ≠ L.thg := by
      intro e he; simp only [List.map_cons, List.map_nil, List.mem_cons, List.not_mem_nil, or_false] at he; rcases he with rfl | rfl <;> simp only [keyP] <;> assumption
    have m0 := Int.le_refl p0.cnt
    by_cases c1 : p1.cnt < p0.cnt
    · skip
      have m0 := Int.le_trans (Int.le_of_lt c1) m0
      have m1 := Int.le_refl p1.cnt
      exact take_use X (fun w b1 b2 pa p N t ω => (tkG2b L hd p0 p1 w b1 b2 cd bl pa p N t ω)) (by decide) (ac (⟨by decide, rfl, fun m hm => match m, hm with | 0, _ => by intro q; simp only [List.getElem?_cons_zero, List.getElem?_cons_succ, Option.some.injEq] at q; omega | m + 1, hm => absurd hm (by omega)⟩) (ac (c1) (ac (n1) (ac (n0) an)))) (fun _ _ _ => .inr ⟨ne, 1, p1.who, p1.cnt, rfl, ac (m0) (ac (m1) an), rfl⟩) D
    · skip
      have m1 := Int.not_lt.mp c1
      exact take_use X (fun w b1 b2 pa p N t ω => (tkG2a L hd p0 p1 w b1 b2 cd bl pa p N t ω).2.2) (by decide) (ac (⟨by decide, rfl, fun m hm => match m, hm with  | m + 0, hm => absurd hm (by omega)⟩) (ac (c1) (ac (n1) (ac (n0) an)))) (fun _ _ _ => .inr ⟨ne, 0, p0.who, p0.cnt, rfl, ac (m0) (ac (m1) an), rfl⟩) D
  | [p0, p1, p2], hl, hl2, D =>
    by_cases g0 : p0.who = L.thg
    · skip
      exact take_use X (fun w b1 b2 pa p N t ω => (tkG3a L hd p0 p1 p2 w b1 b2 cd bl pa p N t ω).1) (by decide) (ac (g0) an) (fun _ _ _ => .inl ⟨0, p0.cnt, by simp [keyP, g0], rfl⟩) D
    have n0 := g0
    by_cases g1 : p1.who = L.thg
    · skip
      exact take_use X (fun w b1 b2 pa p N t ω => (tkG3a L hd p0 p1 p2 w b1 b2 cd bl pa p N t ω).2.1) (by decide) (ac (g1) (ac (n0) an)) (fun _ _ _ => .inl ⟨1, p1.cnt, by simp [keyP, g1], rfl⟩) D
    have n1 := g1
    by_cases g2 : p2.who = L.thg
    · skip
      exact take_use X (fun w b1 b2 pa p N t ω => (tkG3a L hd p0 p1 p2 w b1 b2 cd bl pa p N t ω).2.2) (by decide) (ac (g2) (ac (n1) (ac (n0) an))) (fun _ _ _ => .inl ⟨2, p2.cnt, by simp [keyP, g2], rfl⟩) D
    have n2 := g2
    have ne : ∀ e ∈ ([p0, p1, p2].map keyP), e.1 ≠ L.thg := by
      intro e he; simp only [List.map_cons, List.map_nil, List.mem_cons, List.not_mem_nil, or_false] at he; rcases he with rfl | rfl | rfl <;> simp only [keyP] <;> assumption
    have m0 := Int.le_refl p0.cnt
    by_cases c1 : p1.cnt < p0.cnt
    · skip
      have m0 := Int.le_trans (Int.le_of_lt c1) m0
      have m1 := Int.le_refl p1.cnt
      by_cases c2 : p2.cnt < p1.cnt
      · skip
        have m0 := Int.le_trans (Int.le_of_lt c2) m0
        have m1 := Int.le_trans (Int.le_of_lt c2) m1
        have m2 := Int.le_refl p2.cnt
        exact take_use X (fun w b1 b2 pa p N t ω => (tkG3c L hd p0 p1 p2 w b1 b2 cd bl pa p N t ω).2) (by decide) (ac (⟨by decide, rfl, fun m hm => match m, hm with | 0, _ => by intro q; simp only [List.getElem?_cons_zero, List.getElem?_cons_succ, Option.some.injEq] at q; omega | 1, _ => by intro q; simp only [List.getElem?_cons_zero, List.getElem?_cons_succ, Option.some.injEq] at q; omega | m + 2, hm => absurd hm (by omega)⟩) (ac (c2) (ac (c1) (ac (n2) (ac (n1) (ac (n0) an)))))) (fun _ _ _ => .inr ⟨ne, 2, p2.who, p2.cnt, rfl, ac (m0) (ac (m1) (ac (m2) an)), rfl⟩) D
      · skip
        have m2 := Int.not_lt.mp c2
        exact take_use X (fun w b1 b2 pa p N t ω => (tkG3c L hd p0 p1 p2 w b1 b2 cd bl pa p N t ω).1) (by decide) (ac (⟨by decide, rfl, fun m hm => match m, hm with | 0, _ => by intro q; simp only [List.getElem?_cons_zero, List.getElem?_cons_succ, Option.some.injEq] at q; omega | m + 1, hm => absurd hm (by omega)⟩) (ac (c2) (ac (c1) (ac (n2) (ac (n1) (ac (n0) an)))))) (fun _ _ _ => .inr ⟨ne, 1, p1.who, p1.cnt, rfl, ac (m0) (ac (m1) (ac (m2) an)), rfl⟩) D
    · skip
      have m1 := Int.not_lt.mp c1
      by_cases c2 : p2.cnt < p0.cnt
      · skip
        have m0 := Int.le_trans (Int.le_of_lt c2) m0
        have m1 := Int.le_trans (Int.le_of_lt c2) m1
        have m2 := Int.le_refl p2.cnt
        exact take_use X (fun w b1 b2 pa p N t ω => (tkG3b L hd p0 p1 p2 w b1 b2 cd bl pa p N t ω).2) (by decide) (ac (⟨by decide, rfl, fun m hm => match m, hm with | 0, _ => by intro q; simp only [List.getElem?_cons_zero, List.getElem?_cons_succ, Option.some.injEq] at q; omega | 1, _ => by intro q; simp only [List.getElem?_cons_zero, List.getElem?_cons_succ, Option.some.injEq] at q; omega | m + 2, hm => absurd hm (by omega)⟩) (ac (c2) (ac (c1) (ac (n2) (ac (n1) (ac (n0) an)))))) (fun _ _ _ => .inr ⟨ne, 2, p2.who, p2.cnt, rfl, ac (m0) (ac (m1) (ac (m2) an)), rfl⟩) D
      · skip
        have m2 := Int.not_lt.mp c2
        exact take_use X (fun w b1 b2 pa p N t ω => (tkG3b L hd p0 p1 p2 w b1 b2 cd bl pa p N t ω).1) (by decide) (ac (⟨by decide, rfl, fun m hm => match m, hm with  | m + 0, hm => absurd hm (by omega)⟩) (ac (c2) (ac (c1) (ac (n2) (ac (n1) (ac (n0) an)))))) (fun _ _ _ => .inr ⟨ne, 0, p0.who, p0.cnt, rfl, ac (m0) (ac (m1) (ac (m2) an)), rfl⟩) D
  | [p0, p1, p2, p3], hl, hl2, D =>
    by_cases g0 : p0.who = L.thg
    · skip
      exact take_use X (fun w b1 b2 pa p N t ω => (tkG4a L hd p0 p1 p2 p3 w b1 b2 cd bl pa p N t ω).1) (by decide) (ac (g0) an) (fun _ _ _ => .inl ⟨0, p0.cnt, by simp [keyP, g0], rfl⟩) D
    have n0 := g0
    by_cases g1 : p1.who = L.thg
    · skip
      exact take_use X (fun w b1 b2 pa p N t ω => (tkG4a L hd p0 p1 p2 p3 w b1 b2 cd bl pa p N t ω).2.1) (by decide) (ac (g1) (ac (n0) an)) (fun _ _ _ => .inl ⟨1, p1.cnt, by simp [keyP, g1], rfl⟩) D
    have n1 := g1
    by_cases g2 : p2.who = L.thg
    · skip
      exact take_use X (fun w b1 b2 pa p N t ω => (tkG4a L hd p0 p1 p2 p3 w b1 b2 cd bl pa p N t ω).2.2) (by decide) (ac (g2) (ac (n1) (ac (n0) an))) (fun _ _ _ => .inl ⟨2, p2.cnt, by simp [keyP, g2], rfl⟩) D
    have n2 := g2
    by_cases g3 : p3.who = L.thg
    · skip
      exact take_use X (fun w b1 b2 pa p N t ω => (tkG4b L hd p0 p1 p2 p3 w b1 b2 cd bl pa p N t ω).1) (by decide) (ac (g3) (ac (n2) (ac (n1) (ac (n0) an)))) (fun _ _ _ => .inl ⟨3, p3.cnt, by simp [keyP, g3], rfl⟩) D
    have n3 := g3
    have ne : ∀ e ∈ ([p0, p1, p2, p3].map keyP), e.1 ≠ L.thg := by
      intro e he; simp only [List.map_cons, List.map_nil, List.mem_cons, List.not_mem_nil, or_false] at he; rcases he with rfl | rfl | rfl | rfl <;> simp only [keyP] <;> assumption
    have m0 := Int.le_refl p0.cnt
    by_cases c1 : p1.cnt < p0.cnt
    · skip
      have m0 := Int.le_trans (Int.le_of_lt c1) m0
      have m1 := Int.le_refl p1.cnt
      by_cases c2 : p2.cnt < p1.cnt
      · skip
        have m0 := Int.le_trans (Int.le_of_lt c2) m0
        have m1 := Int.le_trans (Int.le_of_lt c2) m1
        have m2 := Int.le_refl p2.cnt
        by_cases c3 : p3.cnt < p2.cnt
        · skip
          have m0 := Int.le_trans (Int.le_of_lt c3) m0
          have m1 := Int.le_trans (Int.le_of_lt c3) m1
          have m2 := Int.le_trans (Int.le_of_lt c3) m2
          have m3 := Int.le_refl p3.cnt
          exact take_use X (fun w b1 b2 pa p N t ω => (tkG4f L hd p0 p1 p2 p3 w b1 b2 cd bl pa p N t ω)) (by decide) (ac (⟨by decide, rfl, fun m hm => match m, hm with | 0, _ => by intro q; simp only [List.getElem?_cons_zero, List.getElem?_cons_succ, Option.some.injEq] at q; omega | 1, _ => by intro q; simp only [List.getElem?_cons_zero, List.getElem?_cons_succ, Option.some.injEq] at q; omega | 2, _ => by intro q; simp only [List.getElem?_cons_zero, List.getElem?_cons_succ, Option.some.injEq] at q; omega | m + 3, hm => absurd hm (by omega)⟩) (ac (c3) (ac (c2) (ac (c1) (ac (n3) (ac (n2) (ac (n1) (ac (n0) an)))))))) (fun _ _ _ => .inr ⟨ne, 3, p3.who, p3.cnt, rfl, ac (m0) (ac (m1) (ac (m2) (ac (m3) an))), rfl⟩) D
        · skip
          have m3 := Int.not_lt.mp c3
          exact take_use X (fun w b1 b2 pa p N t ω => (tkG4e L hd p0 p1 p2 p3 w b1 b2 cd bl pa p N t ω).2) (by decide) (ac (⟨by decide, rfl, fun m hm => match m, hm with | 0, _ => by intro q; simp only [List.getElem?_cons_zero, List.getElem?_cons_succ, Option.some.injEq] at q; omega | 1, _ => by intro q; simp only [List.getElem?_cons_zero, List.getElem?_cons_succ, Option.some.injEq] at q; omega | m + 2, hm => absurd hm (by omega)⟩) (ac (c3) (ac (c2) (ac (c1) (ac (n3) (ac (n2) (ac (n1) (ac (n0) an)))))))) (fun _ _ _ => .inr ⟨ne, 2, p2.who, p2.cnt, rfl, ac (m0) (ac (m1) (ac (m2) (ac (m3) an))), rfl⟩) D
      · skip
        have m2 := Int.not_lt.mp c2
        by_cases c3 : p3.cnt < p1.cnt
        · skip
          have m0 := Int.le_trans (Int.le_of_lt c3) m0
          have m1 := Int.le_trans (Int.le_of_lt c3) m1
          have m2 := Int.le_trans (Int.le_of_lt c3) m2
          have m3 := Int.le_refl p3.cnt
          exact take_use X (fun w b1 b2 pa p N t ω => (tkG4e L hd p0 p1 p2 p3 w b1 b2 cd bl pa p N t ω).1) (by decide) (ac (⟨by decide, rfl, fun m hm => match m, hm with | 0, _ => by intro q; simp only [List.getElem?_cons_zero, List.getElem?_cons_succ, Option.some.injEq] at q; omega | 1, _ => by intro q; simp only [List.getElem?_cons_zero, List.getElem?_cons_succ, Option.some.injEq] at q; omega | 2, _ => by intro q; simp only [List.getElem?_cons_zero, List.getElem?_cons_succ, Option.some.injEq] at q; omega | m + 3, hm => absurd hm (by omega)⟩) (ac (c3) (ac (c2) (ac (c1) (ac (n3) (ac (n2) (ac (n1) (ac (n0) an)))))))) (fun _ _ _ => .inr ⟨ne, 3, p3.who, p3.cnt, rfl, ac (m0) (ac (m1) (ac (m2) (ac (m3) an))), rfl⟩) D
        · skip
          have m3 := Int.not_lt.mp c3
          exact take_use X (fun w b1 b2 pa p N t ω => (tkG4d L hd p0 p1 p2 p3 w b1 b2 cd bl pa p N t ω).2) (by decide) (ac (⟨by decide, rfl, fun m hm => match m, hm with | 0, _ => by intro q; simp only [List.getElem?_cons_zero, List.getElem?_cons_succ, Option.some.injEq] at q; omega | m + 1, hm => absurd hm (by omega)⟩) (ac (c3) (ac (c2) (ac (c1) (ac (n3) (ac (n2) (ac (n1) (ac (n0) an)))))))) (fun _ _ _ => .inr ⟨ne, 1, p1.who, p1.cnt, rfl, ac (m0) (ac (m1) (ac (m2) (ac (m3) an))), rfl⟩) D
    · skip
      have m1 := Int.not_lt.mp c1
      by_cases c2 : p2.cnt < p0.cnt
      · skip
        have m0 := Int.le_trans (Int.le_of_lt c2) m0
        have m1 := Int.le_trans (Int.le_of_lt c2) m1
        have m2 := Int.le_refl p2.cnt
        by_cases c3 : p3.cnt < p2.cnt
        · skip
          have m0 := Int.le_trans (Int.le_of_lt c3) m0
          have m1 := Int.le_trans (Int.le_of_lt c3) m1
          have m2 := Int.le_trans (Int.le_of_lt c3) m2
          have m3 := Int.le_refl p3.cnt
          exact take_use X (fun w b1 b2 pa p N t ω => (tkG4d L hd p0 p1 p2 p3 w b1 b2 cd bl pa p N t ω).1) (by decide) (ac (⟨by decide, rfl, fun m hm => match m, hm with | 0, _ => by intro q; simp only [List.getElem?_cons_zero, List.getElem?_cons_succ, Option.some.injEq] at q; omega | 1, _ => by intro q; simp only [List.getElem?_cons_zero, List.getElem?_cons_succ, Option.some.injEq] at q; omega | 2, _ => by intro q; simp only [List.getElem?_cons_zero, List.getElem?_cons_succ, Option.some.injEq] at q; omega | m + 3, hm => absurd hm (by omega)⟩) (ac (c3) (ac (c2) (ac (c1) (ac (n3) (ac (n2) (ac (n1) (ac (n0) an)))))))) (fun _ _ _ => .inr ⟨ne, 3, p3.who, p3.cnt, rfl, ac (m0) (ac (m1) (ac (m2) (ac (m3) an))), rfl⟩) D
        · skip
          have m3 := Int.not_lt.mp c3
          exact take_use X (fun w b1 b2 pa p N t ω => (tkG4c L hd p0 p1 p2 p3 w b1 b2 cd bl pa p N t ω).2) (by decide) (ac (⟨by decide, rfl, fun m hm => match m, hm with | 0, _ => by intro q; simp only [List.getElem?_cons_zero, List.getElem?_cons_succ, Option.some.injEq] at q; omega | 1, _ => by intro q; simp only [List.getElem?_cons_zero, List.getElem?_cons_succ, Option.some.injEq] at q; omega | m + 2, hm => absurd hm (by omega)⟩) (ac (c3) (ac (c2) (ac (c1) (ac (n3) (ac (n2) (ac (n1) (ac (n0) an)))))))) (fun _ _ _ => .inr ⟨ne, 2, p2.who, p2.cnt, rfl, ac (m0) (ac (m1) (ac (m2) (ac (m3) an))), rfl⟩) D
      · skip
        have m2 := Int.not_lt.mp c2
        by_cases c3 : p3.cnt < p0.cnt
        · skip
          have m0 := Int.le_trans (Int.le_of_lt c3) m0
          have m1 := Int.le_trans (Int.le_of_lt c3) m1
          have m2 := Int.le_trans (Int.le_of_lt c3) m2
          have m3 := Int.le_refl p3.cnt
          exact take_use X (fun w b1 b2 pa p N t ω => (tkG4c L hd p0 p1 p2 p3 w b1 b2 cd bl pa p N t ω).1) (by decide) (ac (⟨by decide, rfl, fun m hm => match m, hm with | 0, _ => by intro q; simp only [List.getElem?_cons_zero, List.getElem?_cons_succ, Option.some.injEq] at q; omega | 1, _ => by intro q; simp only [List.getElem?_cons_zero, List.getElem?_cons_succ, Option.some.injEq] at q; omega | 2, _ => by intro q; simp only [List.getElem?_cons_zero, List.getElem?_cons_succ, Option.some.injEq] at q; omega | m + 3, hm => absurd hm (by omega)⟩) (ac (c3) (ac (c2) (ac (c1) (ac (n3) (ac (n2) (ac (n1) (ac (n0) an)))))))) (fun _ _ _ => .inr ⟨ne, 3, p3.who, p3.cnt, rfl, ac (m0) (ac (m1) (ac (m2) (ac (m3) an))), rfl⟩) D
        · skip
          have m3 := Int.not_lt.mp c3
          exact take_use X (fun w b1 b2 pa p N t ω => (tkG4b L hd p0 p1 p2 p3 w b1 b2 cd bl pa p N t ω).2) (by decide) (ac (⟨by decide, rfl, fun m hm => match m, hm with  | m + 0, hm => absurd hm (by omega)⟩) (ac (c3) (ac (c2) (ac (c1) (ac (n3) (ac (n2) (ac (n1) (ac (n0) an)))))))) (fun _ _ _ => .inr ⟨ne, 0, p0.who, p0.cnt, rfl, ac (m0) (ac (m1) (ac (m2) (ac (m3) an))), rfl⟩) D
  | [], hl, _, _ => simp at hl
  | [_], hl, _, _ => simp at hl
  | _ :: _ :: _ :: _ :: _ :: _, _, hl2, _ => simp at hl2
theorem least_ok (X : Cx w b1 b2 E cd bl pa) {L : Loc} {hd : List HE} {pl : List PE} (hl : 2 ≤ pl.length) (hl2 : pl.length ≤ 4) (D : HS w b1 b2 E L hd pl s) :
    Wn E ⟨cd, none, none, bl, pa⟩ (sgT 7 (pp w b1 b2)) (fun s' => ∃ v u, HS w b1 b2 E { L with least := v, lt := u } hd pl s' ∧ (∃ q ∈ pl, q.cnt = v) ∧ ∀ q ∈ pl, v ≤ q.cnt) s := by
  match pl, hl, hl2, D with
  | [p0, p1], hl, hl2, D =>
    have m0 := Int.le_refl p0.cnt
    by_cases c1 : p1.cnt < p0.cnt
    · skip
      have m0 := Int.le_trans (Int.le_of_lt c1) m0
      have m1 := Int.le_refl p1.cnt
      exact least_use X (fun w b1 b2 pa p N t ω => (lsG2 L hd p0 p1 w b1 b2 cd bl pa p N t ω).2) (by decide) (ac (c1) an) (fun _ _ _ => ⟨⟨p1, .tail _ (.head _), rfl⟩, ac (m0) (ac (m1) an)⟩) D
    · skip
      have m1 := Int.not_lt.mp c1
      exact least_use X (fun w b1 b2 pa p N t ω => (lsG2 L hd p0 p1 w b1 b2 cd bl pa p N t ω).1) (by decide) (ac (c1) an) (fun _ _ _ => ⟨⟨p0, .head _, rfl⟩, ac (m0) (ac (m1) an)⟩) D
  | [p0, p1, p2], hl, hl2, D =>
    have m0 := Int.le_refl p0.cnt
    by_cases c1 : p1.cnt < p0.cnt
    · skip
      have m0 := Int.le_trans (Int.le_of_lt c1) m0
      have m1 := Int.le_refl p1.cnt
      by_cases c2 : p2.cnt < p1.cnt
      · skip
        have m0 := Int.le_trans (Int.le_of_lt c2) m0
        have m1 := Int.le_trans (Int.le_of_lt c2) m1
        have m2 := Int.le_refl p2.cnt
        exact least_use X (fun w b1 b2 pa p N t ω => (lsG3 L hd p0 p1 p2 w b1 b2 cd bl pa p N t ω).2.2.2) (by decide) (ac (c2) (ac (c1) an)) (fun _ _ _ => ⟨⟨p2, .tail _ (.tail _ (.head _)), rfl⟩, ac (m0) (ac (m1) (ac (m2) an))⟩) D
      · skip
        have m2 := Int.not_lt.mp c2
        exact least_use X (fun w b1 b2 pa p N t ω => (lsG3 L hd p0 p1 p2 w b1 b2 cd bl pa p N t ω).2.2.1) (by decide) (ac (c2) (ac (c1) an)) (fun _ _ _ => ⟨⟨p1, .tail _ (.head _), rfl⟩, ac (m0) (ac (m1) (ac (m2) an))⟩) D
    · skip
      have m1 := Int.not_lt.mp c1
      by_cases c2 : p2.cnt < p0.cnt
      · skip
        have m0 := Int.le_trans (Int.le_of_lt c2) m0
        have m1 := Int.le_trans (Int.le_of_lt c2) m1
        have m2 := Int.le_refl p2.cnt
        exact least_use X (fun w b1 b2 pa p N t ω => (lsG3 L hd p0 p1 p2 w b1 b2 cd bl pa p N t ω).2.1) (by decide) (ac (c2) (ac (c1) an)) (fun _ _ _ => ⟨⟨p2, .tail _ (.tail _ (.head _)), rfl⟩, ac (m0) (ac (m1) (ac (m2) an))⟩) D
      · skip
        have m2 := Int.not_lt.mp c2
        exact least_use X (fun w b1 b2 pa p N t ω => (lsG3 L hd p0 p1 p2 w b1 b2 cd bl pa p N t ω).1) (by decide) (ac (c2) (ac (c1) an)) (fun _ _ _ => ⟨⟨p0, .head _, rfl⟩, ac (m0) (ac (m1) (ac (m2) an))⟩) D
  | [p0, p1, p2, p3], hl, hl2, D =>
    have m0 := Int.le_refl p0.cnt
    by_cases c1 : p1.cnt < p0.cnt
    · skip
      have m0 := Int.le_trans (Int.le_of_lt c1) m0
      have m1 := Int.le_refl p1.cnt
      by_cases c2 : p2.cnt < p1.cnt
      · skip
        have m0 := Int.le_trans (Int.le_of_lt c2) m0
        have m1 := Int.le_trans (Int.le_of_lt c2) m1
        have m2 := Int.le_refl p2.cnt
        by_cases c3 : p3.cnt < p2.cnt
        · skip
          have m0 := Int.le_trans (Int.le_of_lt c3) m0
          have m1 := Int.le_trans (Int.le_of_lt c3) m1
          have m2 := Int.le_trans (Int.le_of_lt c3) m2
          have m3 := Int.le_refl p3.cnt
          exact least_use X (fun w b1 b2 pa p N t ω => (lsG4c L hd p0 p1 p2 p3 w b1 b2 cd bl pa p N t ω).2) (by decide) (ac (c3) (ac (c2) (ac (c1) an))) (fun _ _ _ => ⟨⟨p3, .tail _ (.tail _ (.tail _ (.head _))), rfl⟩, ac (m0) (ac (m1) (ac (m2) (ac (m3) an)))⟩) D
        · skip
          have m3 := Int.not_lt.mp c3
          exact least_use X (fun w b1 b2 pa p N t ω => (lsG4c L hd p0 p1 p2 p3 w b1 b2 cd bl pa p N t ω).1) (by decide) (ac (c3) (ac (c2) (ac (c1) an))) (fun _ _ _ => ⟨⟨p2, .tail _ (.tail _ (.head _)), rfl⟩, ac (m0) (ac (m1) (ac (m2) (ac (m3) an)))⟩) D
      · skip
        have m2 := Int.not_lt.mp c2
        by_cases c3 : p3.cnt < p1.cnt
        · skip
          have m0 := Int.le_trans (Int.le_of_lt c3) m0
          have m1 := Int.le_trans (Int.le_of_lt c3) m1
          have m2 := Int.le_trans (Int.le_of_lt c3) m2
          have m3 := Int.le_refl p3.cnt
          exact least_use X (fun w b1 b2 pa p N t ω => (lsG4b L hd p0 p1 p2 p3 w b1 b2 cd bl pa p N t ω).2.2) (by decide) (ac (c3) (ac (c2) (ac (c1) an))) (fun _ _ _ => ⟨⟨p3, .tail _ (.tail _ (.tail _ (.head _))), rfl⟩, ac (m0) (ac (m1) (ac (m2) (ac (m3) an)))⟩) D
        · skip
          have m3 := Int.not_lt.mp c3
          exact least_use X (fun w b1 b2 pa p N t ω => (lsG4b L hd p0 p1 p2 p3 w b1 b2 cd bl pa p N t ω).2.1) (by decide) (ac (c3) (ac (c2) (ac (c1) an))) (fun _ _ _ => ⟨⟨p1, .tail _ (.head _), rfl⟩, ac (m0) (ac (m1) (ac (m2) (ac (m3) an)))⟩) D
    · skip
      have m1 := Int.not_lt.mp c1
      by_cases c2 : p2.cnt < p0.cnt
      · skip
        have m0 := Int.le_trans (Int.le_of_lt c2) m0
        have m1 := Int.le_trans (Int.le_of_lt c2) m1
        have m2 := Int.le_refl p2.cnt
        by_cases c3 : p3.cnt < p2.cnt
        · skip
          have m0 := Int.le_trans (Int.le_of_lt c3) m0
          have m1 := Int.le_trans (Int.le_of_lt c3) m1
          have m2 := Int.le_trans (Int.le_of_lt c3) m2
          have m3 := Int.le_refl p3.cnt
          exact least_use X (fun w b1 b2 pa p N t ω => (lsG4b L hd p0 p1 p2 p3 w b1 b2 cd bl pa p N t ω).1) (by decide) (ac (c3) (ac (c2) (ac (c1) an))) (fun _ _ _ => ⟨⟨p3, .tail _ (.tail _ (.tail _ (.head _))), rfl⟩, ac (m0) (ac (m1) (ac (m2) (ac (m3) an)))⟩) D
        · skip
          have m3 := Int.not_lt.mp c3
          exact least_use X (fun w b1 b2 pa p N t ω => (lsG4a L hd p0 p1 p2 p3 w b1 b2 cd bl pa p N t ω).2.2) (by decide) (ac (c3) (ac (c2) (ac (c1) an))) (fun _ _ _ => ⟨⟨p2, .tail _ (.tail _ (.head _)), rfl⟩, ac (m0) (ac (m1) (ac (m2) (ac (m3) an)))⟩) D
      · skip
        have m2 := Int.not_lt.mp c2
        by_cases c3 : p3.cnt < p0.cnt
        · skip
          have m0 := Int.le_trans (Int.le_of_lt c3) m0
          have m1 := Int.le_trans (Int.le_of_lt c3) m1
          have m2 := Int.le_trans (Int.le_of_lt c3) m2
          have m3 := Int.le_refl p3.cnt
          exact least_use X (fun w b1 b2 pa p N t ω => (lsG4a L hd p0 p1 p2 p3 w b1 b2 cd bl pa p N t ω).2.1) (by decide) (ac (c3) (ac (c2) (ac (c1) an))) (fun _ _ _ => ⟨⟨p3, .tail _ (.tail _ (.tail _ (.head _))), rfl⟩, ac (m0) (ac (m1) (ac (m2) (ac (m3) an)))⟩) D
        · skip
          have m3 := Int.not_lt.mp c3
          exact least_use X (fun w b1 b2 pa p N t ω => (lsG4a L hd p0 p1 p2 p3 w b1 b2 cd bl pa p N t ω).1) (by decide) (ac (c3) (ac (c2) (ac (c1) an))) (fun _ _ _ => ⟨⟨p0, .head _, rfl⟩, ac (m0) (ac (m1) (ac (m2) (ac (m3) an)))⟩) D
  | [], hl, _, _ => simp at hl
  | [_], hl, _, _ => simp at hl
  | _ :: _ :: _ :: _ :: _ :: _, _, hl2, _ => simp at hl2
noncomputable def things' : List Int := [5, 8, 85, 88, 1368, 11]
theorem things_int {i : Int} (h : ∃ x ∈ things, i = Int.ofNat x) : i ∈ things' := by
  obtain ⟨x, hx, rfl⟩ := h
  revert x
  decide
theorem so0m : (([] : List Int), ([] : List Nat)) ∈ soT := by decide
theorem so1m : ∀ a ∈ things', (([a] : List Int), ([0] : List Nat)) ∈ soT := by decide +kernel
theorem so2m : ∀ a ∈ things', ∀ b ∈ things', a ≠ b → (([a, b] : List Int), ([0, 1] : List Nat)) ∈ soT ∨ (([a, b] : List Int), ([1, 0] : List Nat)) ∈ soT := by decide +kernel
theorem so3m : ∀ a ∈ things', ∀ b ∈ things', ∀ c ∈ things', a ≠ b → a ≠ c → b ≠ c → (([a, b, c] : List Int), ([0, 1, 2] : List Nat)) ∈ soT ∨ (([a, b, c] : List Int), ([0, 2, 1] : List Nat)) ∈ soT ∨ (([a, b, c] : List Int), ([1, 0, 2] : List Nat)) ∈ soT ∨
    (([a, b, c] : List Int), ([1, 2, 0] : List Nat)) ∈ soT ∨ (([a, b, c] : List Int), ([2, 0, 1] : List Nat)) ∈ soT ∨ (([a, b, c] : List Int), ([2, 1, 0] : List Nat)) ∈ soT := by decide +kernel
theorem so_sorted : ∀ e ∈ soT, (e.2.map fun i => e.1.getD i 0).Pairwise (· < ·) := by decide +kernel
section
variable {α : Type} {a b c : α}
theorem p01 : [a, b].Perm [a, b] := .refl _
theorem p10 : [b, a].Perm [a, b] := .swap ..
theorem p012 : [a, b, c].Perm [a, b, c] := .refl _
theorem p021 : [a, c, b].Perm [a, b, c] := .cons _ (.swap ..)
theorem p102 : [b, a, c].Perm [a, b, c] := .swap ..
theorem p120 : [b, c, a].Perm [a, b, c] := (List.Perm.cons b (.swap a c [])).trans (.swap ..)
theorem p201 : [c, a, b].Perm [a, b, c] := (List.Perm.swap a c [b]).trans (.cons a (.swap b c []))
theorem p210 : [c, b, a].Perm [a, b, c] := (List.Perm.cons c (.swap a b [])).trans p201
end
theorem sorted_eq {l m : List (Int × Int)} (hp : l.Perm m) (hl : l.Pairwise fun a b => a.1 < b.1) (hm : m.Pairwise fun a b => a.1 < b.1) : l = m :=
  hp.eq_of_pairwise (fun x y _ _ h1 h2 => absurd h1 (by omega)) hl hm
theorem sorted2 {a b : Int × Int} (ha : a.1 ∈ things') (hb : b.1 ∈ things') (h : a.1 ≠ b.1) : ∃ y0 y1, (([a.1, b.1] : List Int), [y0, y1]) ∈ soT ∧ (∀ i ∈ [y0, y1], i < [a, b].length) ∧ ([y0, y1].map fun i => [a, b].getD i (0, 0)).Perm [a, b] ∧ ([y0, y1].map fun i => [a, b].getD i (0, 0)).Pairwise fun a b => a.1 < b.1 := by
  rcases so2m _ ha _ hb h with hm | hm
  · have srt := so_sorted _ hm
    simp at srt
    exact ⟨_, _, hm, ac (show (0 : Nat) < 2 by decide) (ac (show (1 : Nat) < 2 by decide) an), p01, by simpa using srt⟩
  · have srt := so_sorted _ hm
    simp at srt
    exact ⟨_, _, hm, ac (show (1 : Nat) < 2 by decide) (ac (show (0 : Nat) < 2 by decide) an), p10, by simpa using srt⟩
theorem sorted3 {a b c : Int × Int} (ha : a.1 ∈ things') (hb : b.1 ∈ things') (hc : c.1 ∈ things') (h1 : a.1 ≠ b.1) (h2 : a.1 ≠ c.1) (h3 : b.1 ≠ c.1) : ∃ y0 y1 y2, (([a.1, b.1, c.1] : List Int), [y0, y1, y2]) ∈ soT ∧ (∀ i ∈ [y0, y1, y2], i < [a, b, c].length) ∧ ([y0, y1, y2].map fun i => [a, b, c].getD i (0, 0)).Perm [a, b, c] ∧ ([y0, y1, y2].map fun i => [a, b, c].getD i (0, 0)).Pairwise fun a b => a.1 < b.1 := by
  rcases so3m _ ha _ hb _ hc h1 h2 h3 with hm | hm | hm | hm | hm | hm
  · have srt := so_sorted _ hm
    simp at srt
    exact ⟨_, _, _, hm, ac (show (0 : Nat) < 3 by decide) (ac (show (1 : Nat) < 3 by decide) (ac (show (2 : Nat) < 3 by decide) an)), p012, by simpa using srt⟩
  · have srt := so_sorted _ hm
    simp at srt
    exact ⟨_, _, _, hm, ac (show (0 : Nat) < 3 by decide) (ac (show (2 : Nat) < 3 by decide) (ac (show (1 : Nat) < 3 by decide) an)), p021, by simpa using srt⟩
  · have srt := so_sorted _ hm
    simp at srt
    exact ⟨_, _, _, hm, ac (show (1 : Nat) < 3 by decide) (ac (show (0 : Nat) < 3 by decide) (ac (show (2 : Nat) < 3 by decide) an)), p102, by simpa using srt⟩
  · have srt := so_sorted _ hm
    simp at srt
    exact ⟨_, _, _, hm, ac (show (1 : Nat) < 3 by decide) (ac (show (2 : Nat) < 3 by decide) (ac (show (0 : Nat) < 3 by decide) an)), p120, by simpa using srt⟩
  · have srt := so_sorted _ hm
    simp at srt
    exact ⟨_, _, _, hm, ac (show (2 : Nat) < 3 by decide) (ac (show (0 : Nat) < 3 by decide) (ac (show (1 : Nat) < 3 by decide) an)), p201, by simpa using srt⟩
  · have srt := so_sorted _ hm
    simp at srt
    exact ⟨_, _, _, hm, ac (show (2 : Nat) < 3 by decide) (ac (show (1 : Nat) < 3 by decide) (ac (show (0 : Nat) < 3 by decide) an)), p210, by simpa using srt⟩
theorem due_ok (X : Cx w b1 b2 E cd bl pa) {L : Loc} {hd : List HE} {pl : List PE} (hl : 2 ≤ pl.length) (hl2 : pl.length ≤ 4) (hlow : ∃ q ∈ pl, q.cnt = L.least) (hth : ∀ q ∈ pl, q.cnt > L.least → q.who ∈ things') (hdis : pl.Pairwise fun a b => a.cnt > L.least → b.cnt > L.least → a.who ≠ b.who) (D : HS w b1 b2 E L hd pl s) :
    Wn E ⟨cd, none, none, bl, pa⟩ (sgT 8 (pp w b1 b2)) (fun s' => ∃ a e dl, 300 < a ∧ HD w b1 b2 E { L with due := a } hd pl dl e s' ∧ (dl.map keyP).Perm ((pl.filter fun q => decide (q.cnt > L.least)).map fun q => (q.who, q.cnt - L.least)) ∧ (dl.map keyP).Pairwise fun a b => a.1 < b.1) s := by
  match pl, hl, hl2, hlow, hth, hdis, D with
  | [p0, p1], hl, hl2, hlow, hth, hdis, D =>
    simp only [List.pairwise_cons, List.mem_cons, List.not_mem_nil, or_false, forall_eq_or_imp, forall_eq, List.Pairwise.nil, and_true, false_implies, implies_true] at hdis
    have e01 := hdis
    by_cases c0 : p0.cnt > L.least
    · skip
      by_cases c1 : p1.cnt > L.least
      · skip
        obtain ⟨q, hq, e⟩ := hlow
        simp only [List.mem_cons, List.not_mem_nil, or_false] at hq
        rcases hq with rfl | rfl <;> omega
      · skip
        have hm := so1m _ (hth p0 (.head _) c0)
        refine Wn.mono (fun s' h' => ?_) (due_use X (l := [(p0.who, p0.cnt - L.least)]) (π := [0]) (fun w b1 b2 pa p N t ω => (duG2 L hd p0 p1 0 0 0 w b1 b2 cd bl pa p N t ω).2.2) (by decide) (ac (hm) (ac (c1) (ac (c0) an))) (fun N t ω => by show 300 < N + 301 + _; omega) (fun _ _ _ => rfl) (ac (show (0 : Nat) < 1 by decide) an) D)
        obtain ⟨a, e, dl, ha, D1, hs⟩ := h'
        refine ⟨a, e, dl, ha, D1, ?_, ?_⟩
        · rw [hs]; simp only [List.filter, c0, c1, decide_true, decide_false, List.map]; exact List.Perm.refl _
        · rw [hs]; exact List.pairwise_singleton _ _
    · skip
      by_cases c1 : p1.cnt > L.least
      · skip
        have hm := so1m _ (hth p1 (.tail _ (.head _)) c1)
        refine Wn.mono (fun s' h' => ?_) (due_use X (l := [(p1.who, p1.cnt - L.least)]) (π := [0]) (fun w b1 b2 pa p N t ω => (duG2 L hd p0 p1 0 0 0 w b1 b2 cd bl pa p N t ω).2.1) (by decide) (ac (hm) (ac (c1) (ac (c0) an))) (fun N t ω => by show 300 < N + 301 + _; omega) (fun _ _ _ => rfl) (ac (show (0 : Nat) < 1 by decide) an) D)
        obtain ⟨a, e, dl, ha, D1, hs⟩ := h'
        refine ⟨a, e, dl, ha, D1, ?_, ?_⟩
        · rw [hs]; simp only [List.filter, c0, c1, decide_true, decide_false, List.map]; exact List.Perm.refl _
        · rw [hs]; exact List.pairwise_singleton _ _
      · skip
        have hm := so0m
        refine Wn.mono (fun s' h' => ?_) (due_use X (l := []) (π := ([] : List Nat)) (fun w b1 b2 pa p N t ω => (duG2 L hd p0 p1 0 0 0 w b1 b2 cd bl pa p N t ω).1) (by decide) (ac (hm) (ac (c1) (ac (c0) an))) (fun N t ω => by show 300 < N + 301 + _; omega) (fun _ _ _ => rfl) (an) D)
        obtain ⟨a, e, dl, ha, D1, hs⟩ := h'
        refine ⟨a, e, dl, ha, D1, ?_, ?_⟩
        · rw [hs]; simp only [List.filter, c0, c1, decide_true, decide_false, List.map]; exact List.Perm.refl _
        · rw [hs]; exact List.Pairwise.nil
  | [p0, p1, p2], hl, hl2, hlow, hth, hdis, D =>
    simp only [List.pairwise_cons, List.mem_cons, List.not_mem_nil, or_false, forall_eq_or_imp, forall_eq, List.Pairwise.nil, and_true, false_implies, implies_true] at hdis
    obtain ⟨⟨e01, e02⟩, e12⟩ := hdis
    by_cases c0 : p0.cnt > L.least
    · skip
      by_cases c1 : p1.cnt > L.least
      · skip
        by_cases c2 : p2.cnt > L.least
        · skip
          obtain ⟨q, hq, e⟩ := hlow
          simp only [List.mem_cons, List.not_mem_nil, or_false] at hq
          rcases hq with rfl | rfl | rfl <;> omega
        · skip
          obtain ⟨y0, y1, hm, lt, pr, st⟩ := sorted2 (a := (p0.who, p0.cnt - L.least)) (b := (p1.who, p1.cnt - L.least)) (hth p0 (.head _) c0) (hth p1 (.tail _ (.head _)) c1) (e01 c0 c1)
          refine Wn.mono (fun s' h' => ?_) (due_use X (l := [(p0.who, p0.cnt - L.least), (p1.who, p1.cnt - L.least)]) (π := [y0, y1]) (fun w b1 b2 pa p N t ω => (duG3b L hd p0 p1 p2 y0 y1 0 w b1 b2 cd bl pa p N t ω).2) (by decide) (ac (hm) (ac (c2) (ac (c1) (ac (c0) an)))) (fun N t ω => by show 300 < N + 301 + _; omega) (fun _ _ _ => rfl) (lt) D)
          obtain ⟨a, e, dl, ha, D1, hs⟩ := h'
          refine ⟨a, e, dl, ha, D1, ?_, ?_⟩
          · rw [hs]; simp only [List.filter, c0, c1, c2, decide_true, decide_false, List.map]; exact pr
          · rw [hs]; exact st
      · skip
        by_cases c2 : p2.cnt > L.least
        · skip
          obtain ⟨y0, y1, hm, lt, pr, st⟩ := sorted2 (a := (p0.who, p0.cnt - L.least)) (b := (p2.who, p2.cnt - L.least)) (hth p0 (.head _) c0) (hth p2 (.tail _ (.tail _ (.head _))) c2) (e02 c0 c2)
          refine Wn.mono (fun s' h' => ?_) (due_use X (l := [(p0.who, p0.cnt - L.least), (p2.who, p2.cnt - L.least)]) (π := [y0, y1]) (fun w b1 b2 pa p N t ω => (duG3b L hd p0 p1 p2 y0 y1 0 w b1 b2 cd bl pa p N t ω).1) (by decide) (ac (hm) (ac (c2) (ac (c1) (ac (c0) an)))) (fun N t ω => by show 300 < N + 301 + _; omega) (fun _ _ _ => rfl) (lt) D)
          obtain ⟨a, e, dl, ha, D1, hs⟩ := h'
          refine ⟨a, e, dl, ha, D1, ?_, ?_⟩
          · rw [hs]; simp only [List.filter, c0, c1, c2, decide_true, decide_false, List.map]; exact pr
          · rw [hs]; exact st
        · skip
          have hm := so1m _ (hth p0 (.head _) c0)
          refine Wn.mono (fun s' h' => ?_) (due_use X (l := [(p0.who, p0.cnt - L.least)]) (π := [0]) (fun w b1 b2 pa p N t ω => (duG3a L hd p0 p1 p2 0 0 0 w b1 b2 cd bl pa p N t ω).2.2.2.2) (by decide) (ac (hm) (ac (c2) (ac (c1) (ac (c0) an)))) (fun N t ω => by show 300 < N + 301 + _; omega) (fun _ _ _ => rfl) (ac (show (0 : Nat) < 1 by decide) an) D)
          obtain ⟨a, e, dl, ha, D1, hs⟩ := h'
          refine ⟨a, e, dl, ha, D1, ?_, ?_⟩
          · rw [hs]; simp only [List.filter, c0, c1, c2, decide_true, decide_false, List.map]; exact List.Perm.refl _
          · rw [hs]; exact List.pairwise_singleton _ _
    · skip
      by_cases c1 : p1.cnt > L.least
      · skip
        by_cases c2 : p2.cnt > L.least
        · skip
          obtain ⟨y0, y1, hm, lt, pr, st⟩ := sorted2 (a := (p1.who, p1.cnt - L.least)) (b := (p2.who, p2.cnt - L.least)) (hth p1 (.tail _ (.head _)) c1) (hth p2 (.tail _ (.tail _ (.head _))) c2) (e12 c1 c2)
          refine Wn.mono (fun s' h' => ?_) (due_use X (l := [(p1.who, p1.cnt - L.least), (p2.who, p2.cnt - L.least)]) (π := [y0, y1]) (fun w b1 b2 pa p N t ω => (duG3a L hd p0 p1 p2 y0 y1 0 w b1 b2 cd bl pa p N t ω).2.2.2.1) (by decide) (ac (hm) (ac (c2) (ac (c1) (ac (c0) an)))) (fun N t ω => by show 300 < N + 301 + _; omega) (fun _ _ _ => rfl) (lt) D)
          obtain ⟨a, e, dl, ha, D1, hs⟩ := h'
          refine ⟨a, e, dl, ha, D1, ?_, ?_⟩
          · rw [hs]; simp only [List.filter, c0, c1, c2, decide_true, decide_false, List.map]; exact pr
          · rw [hs]; exact st
        · skip
          have hm := so1m _ (hth p1 (.tail _ (.head _)) c1)
          refine Wn.mono (fun s' h' => ?_) (due_use X (l := [(p1.who, p1.cnt - L.least)]) (π := [0]) (fun w b1 b2 pa p N t ω => (duG3a L hd p0 p1 p2 0 0 0 w b1 b2 cd bl pa p N t ω).2.2.1) (by decide) (ac (hm) (ac (c2) (ac (c1) (ac (c0) an)))) (fun N t ω => by show 300 < N + 301 + _; omega) (fun _ _ _ => rfl) (ac (show (0 : Nat) < 1 by decide) an) D)
          obtain ⟨a, e, dl, ha, D1, hs⟩ := h'
          refine ⟨a, e, dl, ha, D1, ?_, ?_⟩
          · rw [hs]; simp only [List.filter, c0, c1, c2, decide_true, decide_false, List.map]; exact List.Perm.refl _
          · rw [hs]; exact List.pairwise_singleton _ _
      · skip
        by_cases c2 : p2.cnt > L.least
        · skip
          have hm := so1m _ (hth p2 (.tail _ (.tail _ (.head _))) c2)
          refine Wn.mono (fun s' h' => ?_) (due_use X (l := [(p2.who, p2.cnt - L.least)]) (π := [0]) (fun w b1 b2 pa p N t ω => (duG3a L hd p0 p1 p2 0 0 0 w b1 b2 cd bl pa p N t ω).2.1) (by decide) (ac (hm) (ac (c2) (ac (c1) (ac (c0) an)))) (fun N t ω => by show 300 < N + 301 + _; omega) (fun _ _ _ => rfl) (ac (show (0 : Nat) < 1 by decide) an) D)
          obtain ⟨a, e, dl, ha, D1, hs⟩ := h'
          refine ⟨a, e, dl, ha, D1, ?_, ?_⟩
          · rw [hs]; simp only [List.filter, c0, c1, c2, decide_true, decide_false, List.map]; exact List.Perm.refl _
          · rw [hs]; exact List.pairwise_singleton _ _
        · skip
          have hm := so0m
          refine Wn.mono (fun s' h' => ?_) (due_use X (l := []) (π := ([] : List Nat)) (fun w b1 b2 pa p N t ω => (duG3a L hd p0 p1 p2 0 0 0 w b1 b2 cd bl pa p N t ω).1) (by decide) (ac (hm) (ac (c2) (ac (c1) (ac (c0) an)))) (fun N t ω => by show 300 < N + 301 + _; omega) (fun _ _ _ => rfl) (an) D)
          obtain ⟨a, e, dl, ha, D1, hs⟩ := h'
          refine ⟨a, e, dl, ha, D1, ?_, ?_⟩
          · rw [hs]; simp only [List.filter, c0, c1, c2, decide_true, decide_false, List.map]; exact List.Perm.refl _
          · rw [hs]; exact List.Pairwise.nil
  | [p0, p1, p2, p3], hl, hl2, hlow, hth, hdis, D =>
    simp only [List.pairwise_cons, List.mem_cons, List.not_mem_nil, or_false, forall_eq_or_imp, forall_eq, List.Pairwise.nil, and_true, false_implies, implies_true] at hdis
    obtain ⟨⟨e01, e02, e03⟩, ⟨e12, e13⟩, e23⟩ := hdis
    by_cases c0 : p0.cnt > L.least
    · skip
      by_cases c1 : p1.cnt > L.least
      · skip
        by_cases c2 : p2.cnt > L.least
        · skip
          by_cases c3 : p3.cnt > L.least
          · skip
            obtain ⟨q, hq, e⟩ := hlow
            simp only [List.mem_cons, List.not_mem_nil, or_false] at hq
            rcases hq with rfl | rfl | rfl | rfl <;> omega
          · skip
            obtain ⟨y0, y1, y2, hm, lt, pr, st⟩ := sorted3 (a := (p0.who, p0.cnt - L.least)) (b := (p1.who, p1.cnt - L.least)) (c := (p2.who, p2.cnt - L.least)) (hth p0 (.head _) c0) (hth p1 (.tail _ (.head _)) c1) (hth p2 (.tail _ (.tail _ (.head _))) c2) (e01 c0 c1) (e02 c0 c2) (e12 c1 c2)
            refine Wn.mono (fun s' h' => ?_) (due_use X (l := [(p0.who, p0.cnt - L.least), (p1.who, p1.cnt - L.least), (p2.who, p2.cnt - L.least)]) (π := [y0, y1, y2]) (fun w b1 b2 pa p N t ω => (duG4d L hd p0 p1 p2 p3 y0 y1 y2 w b1 b2 cd bl pa p N t ω).2.2) (by decide) (ac (hm) (ac (c3) (ac (c2) (ac (c1) (ac (c0) an))))) (fun N t ω => by show 300 < N + 301 + _; omega) (fun _ _ _ => rfl) (lt) D)
            obtain ⟨a, e, dl, ha, D1, hs⟩ := h'
            refine ⟨a, e, dl, ha, D1, ?_, ?_⟩
            · rw [hs]; simp only [List.filter, c0, c1, c2, c3, decide_true, decide_false, List.map]; exact pr
            · rw [hs]; exact st
        · skip
          by_cases c3 : p3.cnt > L.least
          · skip
            obtain ⟨y0, y1, y2, hm, lt, pr, st⟩ := sorted3 (a := (p0.who, p0.cnt - L.least)) (b := (p1.who, p1.cnt - L.least)) (c := (p3.who, p3.cnt - L.least)) (hth p0 (.head _) c0) (hth p1 (.tail _ (.head _)) c1) (hth p3 (.tail _ (.tail _ (.tail _ (.head _)))) c3) (e01 c0 c1) (e03 c0 c3) (e13 c1 c3)
            refine Wn.mono (fun s' h' => ?_) (due_use X (l := [(p0.who, p0.cnt - L.least), (p1.who, p1.cnt - L.least), (p3.who, p3.cnt - L.least)]) (π := [y0, y1, y2]) (fun w b1 b2 pa p N t ω => (duG4d L hd p0 p1 p2 p3 y0 y1 y2 w b1 b2 cd bl pa p N t ω).2.1) (by decide) (ac (hm) (ac (c3) (ac (c2) (ac (c1) (ac (c0) an))))) (fun N t ω => by show 300 < N + 301 + _; omega) (fun _ _ _ => rfl) (lt) D)
            obtain ⟨a, e, dl, ha, D1, hs⟩ := h'
            refine ⟨a, e, dl, ha, D1, ?_, ?_⟩
            · rw [hs]; simp only [List.filter, c0, c1, c2, c3, decide_true, decide_false, List.map]; exact pr
            · rw [hs]; exact st
          · skip
            obtain ⟨y0, y1, hm, lt, pr, st⟩ := sorted2 (a := (p0.who, p0.cnt - L.least)) (b := (p1.who, p1.cnt - L.least)) (hth p0 (.head _) c0) (hth p1 (.tail _ (.head _)) c1) (e01 c0 c1)
            refine Wn.mono (fun s' h' => ?_) (due_use X (l := [(p0.who, p0.cnt - L.least), (p1.who, p1.cnt - L.least)]) (π := [y0, y1]) (fun w b1 b2 pa p N t ω => (duG4d L hd p0 p1 p2 p3 y0 y1 0 w b1 b2 cd bl pa p N t ω).1) (by decide) (ac (hm) (ac (c3) (ac (c2) (ac (c1) (ac (c0) an))))) (fun N t ω => by show 300 < N + 301 + _; omega) (fun _ _ _ => rfl) (lt) D)
            obtain ⟨a, e, dl, ha, D1, hs⟩ := h'
            refine ⟨a, e, dl, ha, D1, ?_, ?_⟩
            · rw [hs]; simp only [List.filter, c0, c1, c2, c3, decide_true, decide_false, List.map]; exact pr
            · rw [hs]; exact st
      · skip
        by_cases c2 : p2.cnt > L.least
        · skip
          by_cases c3 : p3.cnt > L.least
          · skip
            obtain ⟨y0, y1, y2, hm, lt, pr, st⟩ := sorted3 (a := (p0.who, p0.cnt - L.least)) (b := (p2.who, p2.cnt - L.least)) (c := (p3.who, p3.cnt - L.least)) (hth p0 (.head _) c0) (hth p2 (.tail _ (.tail _ (.head _))) c2) (hth p3 (.tail _ (.tail _ (.tail _ (.head _)))) c3) (e02 c0 c2) (e03 c0 c3) (e23 c2 c3)
            refine Wn.mono (fun s' h' => ?_) (due_use X (l := [(p0.who, p0.cnt - L.least), (p2.who, p2.cnt - L.least), (p3.who, p3.cnt - L.least)]) (π := [y0, y1, y2]) (fun w b1 b2 pa p N t ω => (duG4c L hd p0 p1 p2 p3 y0 y1 y2 w b1 b2 cd bl pa p N t ω).2.2.2) (by decide) (ac (hm) (ac (c3) (ac (c2) (ac (c1) (ac (c0) an))))) (fun N t ω => by show 300 < N + 301 + _; omega) (fun _ _ _ => rfl) (lt) D)
            obtain ⟨a, e, dl, ha, D1, hs⟩ := h'
            refine ⟨a, e, dl, ha, D1, ?_, ?_⟩
            · rw [hs]; simp only [List.filter, c0, c1, c2, c3, decide_true, decide_false, List.map]; exact pr
            · rw [hs]; exact st
          · skip
            obtain ⟨y0, y1, hm, lt, pr, st⟩ := sorted2 (a := (p0.who, p0.cnt - L.least)) (b := (p2.who, p2.cnt - L.least)) (hth p0 (.head _) c0) (hth p2 (.tail _ (.tail _ (.head _))) c2) (e02 c0 c2)
            refine Wn.mono (fun s' h' => ?_) (due_use X (l := [(p0.who, p0.cnt - L.least), (p2.who, p2.cnt - L.least)]) (π := [y0, y1]) (fun w b1 b2 pa p N t ω => (duG4c L hd p0 p1 p2 p3 y0 y1 0 w b1 b2 cd bl pa p N t ω).2.2.1) (by decide) (ac (hm) (ac (c3) (ac (c2) (ac (c1) (ac (c0) an))))) (fun N t ω => by show 300 < N + 301 + _; omega) (fun _ _ _ => rfl) (lt) D)
            obtain ⟨a, e, dl, ha, D1, hs⟩ := h'
            refine ⟨a, e, dl, ha, D1, ?_, ?_⟩
            · rw [hs]; simp only [List.filter, c0, c1, c2, c3, decide_true, decide_false, List.map]; exact pr
            · rw [hs]; exact st
        · skip
          by_cases c3 : p3.cnt > L.least
          · skip
            obtain ⟨y0, y1, hm, lt, pr, st⟩ := sorted2 (a := (p0.who, p0.cnt - L.least)) (b := (p3.who, p3.cnt - L.least)) (hth p0 (.head _) c0) (hth p3 (.tail _ (.tail _ (.tail _ (.head _)))) c3) (e03 c0 c3)
            refine Wn.mono (fun s' h' => ?_) (due_use X (l := [(p0.who, p0.cnt - L.least), (p3.who, p3.cnt - L.least)]) (π := [y0, y1]) (fun w b1 b2 pa p N t ω => (duG4c L hd p0 p1 p2 p3 y0 y1 0 w b1 b2 cd bl pa p N t ω).2.1) (by decide) (ac (hm) (ac (c3) (ac (c2) (ac (c1) (ac (c0) an))))) (fun N t ω => by show 300 < N + 301 + _; omega) (fun _ _ _ => rfl) (lt) D)
            obtain ⟨a, e, dl, ha, D1, hs⟩ := h'
            refine ⟨a, e, dl, ha, D1, ?_, ?_⟩
            · rw [hs]; simp only [List.filter, c0, c1, c2, c3, decide_true, decide_false, List.map]; exact pr
            · rw [hs]; exact st
          · skip
            have hm := so1m _ (hth p0 (.head _) c0)
            refine Wn.mono (fun s' h' => ?_) (due_use X (l := [(p0.who, p0.cnt - L.least)]) (π := [0]) (fun w b1 b2 pa p N t ω => (duG4c L hd p0 p1 p2 p3 0 0 0 w b1 b2 cd bl pa p N t ω).1) (by decide) (ac (hm) (ac (c3) (ac (c2) (ac (c1) (ac (c0) an))))) (fun N t ω => by show 300 < N + 301 + _; omega) (fun _ _ _ => rfl) (ac (show (0 : Nat) < 1 by decide) an) D)
            obtain ⟨a, e, dl, ha, D1, hs⟩ := h'
            refine ⟨a, e, dl, ha, D1, ?_, ?_⟩
            · rw [hs]; simp only [List.filter, c0, c1, c2, c3, decide_true, decide_false, List.map]; exact List.Perm.refl _
            · rw [hs]; exact List.pairwise_singleton _ _
    · skip
      by_cases c1 : p1.cnt > L.least
      · skip
        by_cases c2 : p2.cnt > L.least
        · skip
          by_cases c3 : p3.cnt > L.least
          · skip
            obtain ⟨y0, y1, y2, hm, lt, pr, st⟩ := sorted3 (a := (p1.who, p1.cnt - L.least)) (b := (p2.who, p2.cnt - L.least)) (c := (p3.who, p3.cnt - L.least)) (hth p1 (.tail _ (.head _)) c1) (hth p2 (.tail _ (.tail _ (.head _))) c2) (hth p3 (.tail _ (.tail _ (.tail _ (.head _)))) c3) (e12 c1 c2) (e13 c1 c3) (e23 c2 c3)
            refine Wn.mono (fun s' h' => ?_) (due_use X (l := [(p1.who, p1.cnt - L.least), (p2.who, p2.cnt - L.least), (p3.who, p3.cnt - L.least)]) (π := [y0, y1, y2]) (fun w b1 b2 pa p N t ω => (duG4b L hd p0 p1 p2 p3 y0 y1 y2 w b1 b2 cd bl pa p N t ω).2.2.2) (by decide) (ac (hm) (ac (c3) (ac (c2) (ac (c1) (ac (c0) an))))) (fun N t ω => by show 300 < N + 301 + _; omega) (fun _ _ _ => rfl) (lt) D)
            obtain ⟨a, e, dl, ha, D1, hs⟩ := h'
            refine ⟨a, e, dl, ha, D1, ?_, ?_⟩
            · rw [hs]; simp only [List.filter, c0, c1, c2, c3, decide_true, decide_false, List.map]; exact pr
            · rw [hs]; exact st
          · skip
            obtain ⟨y0, y1, hm, lt, pr, st⟩ := sorted2 (a := (p1.who, p1.cnt - L.least)) (b := (p2.who, p2.cnt - L.least)) (hth p1 (.tail _ (.head _)) c1) (hth p2 (.tail _ (.tail _ (.head _))) c2) (e12 c1 c2)
            refine Wn.mono (fun s' h' => ?_) (due_use X (l := [(p1.who, p1.cnt - L.least), (p2.who, p2.cnt - L.least)]) (π := [y0, y1]) (fun w b1 b2 pa p N t ω => (duG4b L hd p0 p1 p2 p3 y0 y1 0 w b1 b2 cd bl pa p N t ω).2.2.1) (by decide) (ac (hm) (ac (c3) (ac (c2) (ac (c1) (ac (c0) an))))) (fun N t ω => by show 300 < N + 301 + _; omega) (fun _ _ _ => rfl) (lt) D)
            obtain ⟨a, e, dl, ha, D1, hs⟩ := h'
            refine ⟨a, e, dl, ha, D1, ?_, ?_⟩
            · rw [hs]; simp only [List.filter, c0, c1, c2, c3, decide_true, decide_false, List.map]; exact pr
            · rw [hs]; exact st
        · skip
          by_cases c3 : p3.cnt > L.least
          · skip
            obtain ⟨y0, y1, hm, lt, pr, st⟩ := sorted2 (a := (p1.who, p1.cnt - L.least)) (b := (p3.who, p3.cnt - L.least)) (hth p1 (.tail _ (.head _)) c1) (hth p3 (.tail _ (.tail _ (.tail _ (.head _)))) c3) (e13 c1 c3)
            refine Wn.mono (fun s' h' => ?_) (due_use X (l := [(p1.who, p1.cnt - L.least), (p3.who, p3.cnt - L.least)]) (π := [y0, y1]) (fun w b1 b2 pa p N t ω => (duG4b L hd p0 p1 p2 p3 y0 y1 0 w b1 b2 cd bl pa p N t ω).2.1) (by decide) (ac (hm) (ac (c3) (ac (c2) (ac (c1) (ac (c0) an))))) (fun N t ω => by show 300 < N + 301 + _; omega) (fun _ _ _ => rfl) (lt) D)
            obtain ⟨a, e, dl, ha, D1, hs⟩ := h'
            refine ⟨a, e, dl, ha, D1, ?_, ?_⟩
            · rw [hs]; simp only [List.filter, c0, c1, c2, c3, decide_true, decide_false, List.map]; exact pr
            · rw [hs]; exact st
          · skip
            have hm := so1m _ (hth p1 (.tail _ (.head _)) c1)
            refine Wn.mono (fun s' h' => ?_) (due_use X (l := [(p1.who, p1.cnt - L.least)]) (π := [0]) (fun w b1 b2 pa p N t ω => (duG4b L hd p0 p1 p2 p3 0 0 0 w b1 b2 cd bl pa p N t ω).1) (by decide) (ac (hm) (ac (c3) (ac (c2) (ac (c1) (ac (c0) an))))) (fun N t ω => by show 300 < N + 301 + _; omega) (fun _ _ _ => rfl) (ac (show (0 : Nat) < 1 by decide) an) D)
            obtain ⟨a, e, dl, ha, D1, hs⟩ := h'
            refine ⟨a, e, dl, ha, D1, ?_, ?_⟩
            · rw [hs]; simp only [List.filter, c0, c1, c2, c3, decide_true, decide_false, List.map]; exact List.Perm.refl _
            · rw [hs]; exact List.pairwise_singleton _ _
      · skip
        by_cases c2 : p2.cnt > L.least
        · skip
          by_cases c3 : p3.cnt > L.least
          · skip
            obtain ⟨y0, y1, hm, lt, pr, st⟩ := sorted2 (a := (p2.who, p2.cnt - L.least)) (b := (p3.who, p3.cnt - L.least)) (hth p2 (.tail _ (.tail _ (.head _))) c2) (hth p3 (.tail _ (.tail _ (.tail _ (.head _)))) c3) (e23 c2 c3)
            refine Wn.mono (fun s' h' => ?_) (due_use X (l := [(p2.who, p2.cnt - L.least), (p3.who, p3.cnt - L.least)]) (π := [y0, y1]) (fun w b1 b2 pa p N t ω => (duG4a L hd p0 p1 p2 p3 y0 y1 0 w b1 b2 cd bl pa p N t ω).2.2.2) (by decide) (ac (hm) (ac (c3) (ac (c2) (ac (c1) (ac (c0) an))))) (fun N t ω => by show 300 < N + 301 + _; omega) (fun _ _ _ => rfl) (lt) D)
            obtain ⟨a, e, dl, ha, D1, hs⟩ := h'
            refine ⟨a, e, dl, ha, D1, ?_, ?_⟩
            · rw [hs]; simp only [List.filter, c0, c1, c2, c3, decide_true, decide_false, List.map]; exact pr
            · rw [hs]; exact st
          · skip
            have hm := so1m _ (hth p2 (.tail _ (.tail _ (.head _))) c2)
            refine Wn.mono (fun s' h' => ?_) (due_use X (l := [(p2.who, p2.cnt - L.least)]) (π := [0]) (fun w b1 b2 pa p N t ω => (duG4a L hd p0 p1 p2 p3 0 0 0 w b1 b2 cd bl pa p N t ω).2.2.1) (by decide) (ac (hm) (ac (c3) (ac (c2) (ac (c1) (ac (c0) an))))) (fun N t ω => by show 300 < N + 301 + _; omega) (fun _ _ _ => rfl) (ac (show (0 : Nat) < 1 by decide) an) D)
            obtain ⟨a, e, dl, ha, D1, hs⟩ := h'
            refine ⟨a, e, dl, ha, D1, ?_, ?_⟩
            · rw [hs]; simp only [List.filter, c0, c1, c2, c3, decide_true, decide_false, List.map]; exact List.Perm.refl _
            · rw [hs]; exact List.pairwise_singleton _ _
        · skip
          by_cases c3 : p3.cnt > L.least
          · skip
            have hm := so1m _ (hth p3 (.tail _ (.tail _ (.tail _ (.head _)))) c3)
            refine Wn.mono (fun s' h' => ?_) (due_use X (l := [(p3.who, p3.cnt - L.least)]) (π := [0]) (fun w b1 b2 pa p N t ω => (duG4a L hd p0 p1 p2 p3 0 0 0 w b1 b2 cd bl pa p N t ω).2.1) (by decide) (ac (hm) (ac (c3) (ac (c2) (ac (c1) (ac (c0) an))))) (fun N t ω => by show 300 < N + 301 + _; omega) (fun _ _ _ => rfl) (ac (show (0 : Nat) < 1 by decide) an) D)
            obtain ⟨a, e, dl, ha, D1, hs⟩ := h'
            refine ⟨a, e, dl, ha, D1, ?_, ?_⟩
            · rw [hs]; simp only [List.filter, c0, c1, c2, c3, decide_true, decide_false, List.map]; exact List.Perm.refl _
            · rw [hs]; exact List.pairwise_singleton _ _
          · skip
            have hm := so0m
            refine Wn.mono (fun s' h' => ?_) (due_use X (l := []) (π := ([] : List Nat)) (fun w b1 b2 pa p N t ω => (duG4a L hd p0 p1 p2 p3 0 0 0 w b1 b2 cd bl pa p N t ω).1) (by decide) (ac (hm) (ac (c3) (ac (c2) (ac (c1) (ac (c0) an))))) (fun N t ω => by show 300 < N + 301 + _; omega) (fun _ _ _ => rfl) (an) D)
            obtain ⟨a, e, dl, ha, D1, hs⟩ := h'
            refine ⟨a, e, dl, ha, D1, ?_, ?_⟩
            · rw [hs]; simp only [List.filter, c0, c1, c2, c3, decide_true, decide_false, List.map]; exact List.Perm.refl _
            · rw [hs]; exact List.Pairwise.nil
  | [], hl, _, _, _, _, _ => simp at hl
  | [_], hl, _, _, _, _, _ => simp at hl
  | _ :: _ :: _ :: _ :: _ :: _, _, hl2, _, _, _, _ => simp at hl2
theorem check_ok {q1 q2 : Pos} (X : Cx w b1 b2 E (cd1 (pp w b1 b2)) (bl1 (pp w b1 b2) q1 q2) pa) {L : Loc} {pl dl : List PE} {k e5 : Nat} (hk : k ≤ 20) {hd : List HE} (H : AllOk k hd) (hl : hd.length ≤ 3) (hn : (hd.map fun h => h.x).Nodup) (hp : (dl.map keyP).Perm (hd.map fun h => (Int.ofNat h.x, Int.ofNat h.y))) (hs : (dl.map keyP).Pairwise fun a b => a.1 < b.1) (D : HD w b1 b2 E L hd pl dl e5 s) :
    Wn E ⟨cd1 (pp w b1 b2), none, none, bl1 (pp w b1 b2) q1 q2, pa⟩ (sgT 9 (pp w b1 b2)) (fun s' => HS w b1 b2 E L hd pl s') s := by
  have hlen : dl.length = hd.length := by have := hp.length_eq; simpa using this
  match hd, dl, H, hl, hn, hp, hs, hlen, D with
  | [], [], H, hl, hn, hp, hs, hlen, D =>
    have hm := so0m
    have he : ([] : List (Int × Int)) = [] := rfl
    exact ck_use X (fun w b1 b2 pa p N t ω => (ckG0 L pl e5   w b1 b2 q1 q2 pa p N t ω)) (by decide) (ac (he) (ac (hm) an)) D
  | [h0], [d0], H, hl, hn, hp, hs, hlen, D =>
    have w0 : Int.ofNat h0.x ∈ things' := things_int ⟨_, (H h0 (.head _)).1, rfl⟩
    have hm := so1m _ w0
    have he := hp.symm.eq_of_pairwise (le := fun a b => a.1 < b.1) (fun x y _ _ h1 h2 => absurd h1 (by omega)) (by simp) hs
    exact ck_use X (fun w b1 b2 pa p N t ω => (ckG1 L pl e5 h0 d0 w b1 b2 q1 q2 pa p N t ω)) (by decide) (ac (he) (ac (hm) (ac (nuC (H h0 (.head _)) hk) (ac (nuN (H h0 (.head _))) an)))) D
  | [h0, h1], [d0, d1], H, hl, hn, hp, hs, hlen, D =>
    have w0 : Int.ofNat h0.x ∈ things' := things_int ⟨_, (H h0 (.head _)).1, rfl⟩
    have w1 : Int.ofNat h1.x ∈ things' := things_int ⟨_, (H h1 (.tail _ (.head _))).1, rfl⟩
    simp only [List.map_cons, List.map_nil, List.nodup_cons, List.mem_cons, List.not_mem_nil, or_false, not_or, List.nodup_nil, and_true, not_false_eq_true] at hn
    rcases so2m _ w0 _ w1 (fun q => hn (Int.ofNat.inj q)) with hm | hm
    · have srt := so_sorted _ hm
      simp at srt
      have hs2 : ([(Int.ofNat h0.x, Int.ofNat h0.y), (Int.ofNat h1.x, Int.ofNat h1.y)] : List (Int × Int)).Pairwise fun a b => a.1 < b.1 := by simp; omega
      have he : ([(Int.ofNat h0.x, Int.ofNat h0.y), (Int.ofNat h1.x, Int.ofNat h1.y)] : List (Int × Int)) = _ := sorted_eq ((p01).trans hp.symm) hs2 hs
      exact ck_use X (fun w b1 b2 pa p N t ω => (ckG2 L pl e5 h0 h1 d0 d1 w b1 b2 q1 q2 pa p N t ω).1) (by decide) (ac (he) (ac (hm) (ac (nuC (H h1 (.tail _ (.head _))) hk) (ac (nuN (H h1 (.tail _ (.head _)))) (ac (nuC (H h0 (.head _)) hk) (ac (nuN (H h0 (.head _))) an)))))) D
    · have srt := so_sorted _ hm
      simp at srt
      have hs2 : ([(Int.ofNat h1.x, Int.ofNat h1.y), (Int.ofNat h0.x, Int.ofNat h0.y)] : List (Int × Int)).Pairwise fun a b => a.1 < b.1 := by simp; omega
      have he : ([(Int.ofNat h1.x, Int.ofNat h1.y), (Int.ofNat h0.x, Int.ofNat h0.y)] : List (Int × Int)) = _ := sorted_eq ((p10).trans hp.symm) hs2 hs
      exact ck_use X (fun w b1 b2 pa p N t ω => (ckG2 L pl e5 h0 h1 d0 d1 w b1 b2 q1 q2 pa p N t ω).2) (by decide) (ac (he) (ac (hm) (ac (nuC (H h1 (.tail _ (.head _))) hk) (ac (nuN (H h1 (.tail _ (.head _)))) (ac (nuC (H h0 (.head _)) hk) (ac (nuN (H h0 (.head _))) an)))))) D
  | [h0, h1, h2], [d0, d1, d2], H, hl, hn, hp, hs, hlen, D =>
    have w0 : Int.ofNat h0.x ∈ things' := things_int ⟨_, (H h0 (.head _)).1, rfl⟩
    have w1 : Int.ofNat h1.x ∈ things' := things_int ⟨_, (H h1 (.tail _ (.head _))).1, rfl⟩
    have w2 : Int.ofNat h2.x ∈ things' := things_int ⟨_, (H h2 (.tail _ (.tail _ (.head _)))).1, rfl⟩
    simp only [List.map_cons, List.map_nil, List.nodup_cons, List.mem_cons, List.not_mem_nil, or_false, not_or, List.nodup_nil, and_true, not_false_eq_true] at hn
    rcases so3m _ w0 _ w1 _ w2 (fun q => hn.1.1 (Int.ofNat.inj q)) (fun q => hn.1.2 (Int.ofNat.inj q)) (fun q => hn.2 (Int.ofNat.inj q)) with hm | hm | hm | hm | hm | hm
    · have srt := so_sorted _ hm
      simp at srt
      have hs2 : ([(Int.ofNat h0.x, Int.ofNat h0.y), (Int.ofNat h1.x, Int.ofNat h1.y), (Int.ofNat h2.x, Int.ofNat h2.y)] : List (Int × Int)).Pairwise fun a b => a.1 < b.1 := by simp; omega
      have he : ([(Int.ofNat h0.x, Int.ofNat h0.y), (Int.ofNat h1.x, Int.ofNat h1.y), (Int.ofNat h2.x, Int.ofNat h2.y)] : List (Int × Int)) = _ := sorted_eq ((p012).trans hp.symm) hs2 hs
      exact ck_use X (fun w b1 b2 pa p N t ω => (ckG3a L pl e5 h0 h1 h2 d0 d1 d2 w b1 b2 q1 q2 pa p N t ω).1) (by decide) (ac (he) (ac (hm) (ac (nuC (H h2 (.tail _ (.tail _ (.head _)))) hk) (ac (nuN (H h2 (.tail _ (.tail _ (.head _))))) (ac (nuC (H h1 (.tail _ (.head _))) hk) (ac (nuN (H h1 (.tail _ (.head _)))) (ac (nuC (H h0 (.head _)) hk) (ac (nuN (H h0 (.head _))) an)))))))) D
    · have srt := so_sorted _ hm
      simp at srt
      have hs2 : ([(Int.ofNat h0.x, Int.ofNat h0.y), (Int.ofNat h2.x, Int.ofNat h2.y), (Int.ofNat h1.x, Int.ofNat h1.y)] : List (Int × Int)).Pairwise fun a b => a.1 < b.1 := by simp; omega
      have he : ([(Int.ofNat h0.x, Int.ofNat h0.y), (Int.ofNat h2.x, Int.ofNat h2.y), (Int.ofNat h1.x, Int.ofNat h1.y)] : List (Int × Int)) = _ := sorted_eq ((p021).trans hp.symm) hs2 hs
      exact ck_use X (fun w b1 b2 pa p N t ω => (ckG3a L pl e5 h0 h1 h2 d0 d1 d2 w b1 b2 q1 q2 pa p N t ω).2.1) (by decide) (ac (he) (ac (hm) (ac (nuC (H h2 (.tail _ (.tail _ (.head _)))) hk) (ac (nuN (H h2 (.tail _ (.tail _ (.head _))))) (ac (nuC (H h1 (.tail _ (.head _))) hk) (ac (nuN (H h1 (.tail _ (.head _)))) (ac (nuC (H h0 (.head _)) hk) (ac (nuN (H h0 (.head _))) an)))))))) D
    · have srt := so_sorted _ hm
      simp at srt
      have hs2 : ([(Int.ofNat h1.x, Int.ofNat h1.y), (Int.ofNat h0.x, Int.ofNat h0.y), (Int.ofNat h2.x, Int.ofNat h2.y)] : List (Int × Int)).Pairwise fun a b => a.1 < b.1 := by simp; omega
      have he : ([(Int.ofNat h1.x, Int.ofNat h1.y), (Int.ofNat h0.x, Int.ofNat h0.y), (Int.ofNat h2.x, Int.ofNat h2.y)] : List (Int × Int)) = _ := sorted_eq ((p102).trans hp.symm) hs2 hs
      exact ck_use X (fun w b1 b2 pa p N t ω => (ckG3a L pl e5 h0 h1 h2 d0 d1 d2 w b1 b2 q1 q2 pa p N t ω).2.2.1) (by decide) (ac (he) (ac (hm) (ac (nuC (H h2 (.tail _ (.tail _ (.head _)))) hk) (ac (nuN (H h2 (.tail _ (.tail _ (.head _))))) (ac (nuC (H h1 (.tail _ (.head _))) hk) (ac (nuN (H h1 (.tail _ (.head _)))) (ac (nuC (H h0 (.head _)) hk) (ac (nuN (H h0 (.head _))) an)))))))) D
    · have srt := so_sorted _ hm
      simp at srt
      have hs2 : ([(Int.ofNat h1.x, Int.ofNat h1.y), (Int.ofNat h2.x, Int.ofNat h2.y), (Int.ofNat h0.x, Int.ofNat h0.y)] : List (Int × Int)).Pairwise fun a b => a.1 < b.1 := by simp; omega
      have he : ([(Int.ofNat h1.x, Int.ofNat h1.y), (Int.ofNat h2.x, Int.ofNat h2.y), (Int.ofNat h0.x, Int.ofNat h0.y)] : List (Int × Int)) = _ := sorted_eq ((p120).trans hp.symm) hs2 hs
      exact ck_use X (fun w b1 b2 pa p N t ω => (ckG3a L pl e5 h0 h1 h2 d0 d1 d2 w b1 b2 q1 q2 pa p N t ω).2.2.2) (by decide) (ac (he) (ac (hm) (ac (nuC (H h2 (.tail _ (.tail _ (.head _)))) hk) (ac (nuN (H h2 (.tail _ (.tail _ (.head _))))) (ac (nuC (H h1 (.tail _ (.head _))) hk) (ac (nuN (H h1 (.tail _ (.head _)))) (ac (nuC (H h0 (.head _)) hk) (ac (nuN (H h0 (.head _))) an)))))))) D
    · have srt := so_sorted _ hm
      simp at srt
      have hs2 : ([(Int.ofNat h2.x, Int.ofNat h2.y), (Int.ofNat h0.x, Int.ofNat h0.y), (Int.ofNat h1.x, Int.ofNat h1.y)] : List (Int × Int)).Pairwise fun a b => a.1 < b.1 := by simp; omega
      have he : ([(Int.ofNat h2.x, Int.ofNat h2.y), (Int.ofNat h0.x, Int.ofNat h0.y), (Int.ofNat h1.x, Int.ofNat h1.y)] : List (Int × Int)) = _ := sorted_eq ((p201).trans hp.symm) hs2 hs
      exact ck_use X (fun w b1 b2 pa p N t ω => (ckG3b L pl e5 h0 h1 h2 d0 d1 d2 w b1 b2 q1 q2 pa p N t ω).1) (by decide) (ac (he) (ac (hm) (ac (nuC (H h2 (.tail _ (.tail _ (.head _)))) hk) (ac (nuN (H h2 (.tail _ (.tail _ (.head _))))) (ac (nuC (H h1 (.tail _ (.head _))) hk) (ac (nuN (H h1 (.tail _ (.head _)))) (ac (nuC (H h0 (.head _)) hk) (ac (nuN (H h0 (.head _))) an)))))))) D
    · have srt := so_sorted _ hm
      simp at srt
      have hs2 : ([(Int.ofNat h2.x, Int.ofNat h2.y), (Int.ofNat h1.x, Int.ofNat h1.y), (Int.ofNat h0.x, Int.ofNat h0.y)] : List (Int × Int)).Pairwise fun a b => a.1 < b.1 := by simp; omega
      have he : ([(Int.ofNat h2.x, Int.ofNat h2.y), (Int.ofNat h1.x, Int.ofNat h1.y), (Int.ofNat h0.x, Int.ofNat h0.y)] : List (Int × Int)) = _ := sorted_eq ((p210).trans hp.symm) hs2 hs
      exact ck_use X (fun w b1 b2 pa p N t ω => (ckG3b L pl e5 h0 h1 h2 d0 d1 d2 w b1 b2 q1 q2 pa p N t ω).2) (by decide) (ac (he) (ac (hm) (ac (nuC (H h2 (.tail _ (.tail _ (.head _)))) hk) (ac (nuN (H h2 (.tail _ (.tail _ (.head _))))) (ac (nuC (H h1 (.tail _ (.head _))) hk) (ac (nuN (H h1 (.tail _ (.head _)))) (ac (nuC (H h0 (.head _)) hk) (ac (nuN (H h0 (.head _))) an)))))))) D
  | _ :: _ :: _ :: _ :: _, _, _, hl, _, _, _, _, _ => simp at hl
  | [], _ :: _, _, _, _, _, _, hlen, _ => simp at hlen
  | [_], [], _, _, _, _, _, hlen, _ => simp at hlen
  | [_], _ :: _ :: _, _, _, _, _, _, hlen, _ => simp at hlen
  | [_, _], [], _, _, _, _, _, hlen, _ => simp at hlen
  | [_, _], [_], _, _, _, _, _, hlen, _ => simp at hlen
  | [_, _], _ :: _ :: _ :: _, _, _, _, _, _, hlen, _ => simp at hlen
  | [_, _, _], [], _, _, _, _, _, hlen, _ => simp at hlen
  | [_, _, _], [_], _, _, _, _, _, hlen, _ => simp at hlen
  | [_, _, _], [_, _], _, _, _, _, _, hlen, _ => simp at hlen
  | [_, _, _], _ :: _ :: _ :: _ :: _, _, _, _, _, _, hlen, _ => simp at hlen
theorem prOk {nu sp r : Nat} (g0 : SpOk (Int.ofNat nu) sp) (g1 : Int.fmod (Int.ofNat nu) 6 = Int.ofNat r) : PrOk (spS sp) (thing r) := by
  refine ⟨sp, g0.1, rfl, ?_⟩
  have h := g0.2.1
  rw [g1] at h
  injection h with h
  rw [h]
theorem nn_mem : ∀ n < 96, n ∈ nn96 := by decide
theorem spFacts (nu : Nat) : SpOk (Int.ofNat nu) (nu % 96) := by
  refine ⟨nn_mem _ (Nat.mod_lt _ (by decide)), ?_, ?_, ?_⟩
  · rw [Int.fmod_eq_emod_of_nonneg _ (by decide)]
    show (nu : Int) % 6 = ((nu % 96 % 6 : Nat) : Int)
    omega
  · rw [Int.fdiv_eq_ediv_of_nonneg _ (by decide), Int.fmod_eq_emod_of_nonneg _ (by decide)]
    show (nu : Int) / 6 % 4 = ((nu % 96 / 6 % 4 : Nat) : Int)
    omega
  · rw [Int.fdiv_eq_ediv_of_nonneg _ (by decide), Int.fmod_eq_emod_of_nonneg _ (by decide)]
    show (nu : Int) / 24 % 4 = ((nu % 96 / 24 : Nat) : Int)
    omega
theorem mod6 (nu : Nat) : Int.fmod (Int.ofNat nu) 6 = Int.ofNat (nu % 6) := by
  rw [Int.fmod_eq_emod_of_nonneg _ (by decide)]; rfl
theorem mod4096 (v : Int) : ∃ nu : Nat, Int.fmod v 4096 = Int.ofNat nu := by
  have h : 0 ≤ Int.fmod v 4096 := Int.fmod_nonneg_of_pos _ (by decide)
  exact ⟨(Int.fmod v 4096).toNat, (Int.toNat_of_nonneg h).symm⟩
theorem first_ok (X : Cx w b1 b2 E cd bl pa) {L : Loc} {hd : List HE} {pl : List PE} {v : Int} {vt : Nat} (D : HS w b1 b2 E L hd pl s) :
    Wn E ⟨cd, none, none, bl, pa⟩ (fiT v vt (pp w b1 b2)) (fun s' => ∃ x ∈ things, ∃ nu τ, HS w b1 b2 E (Lf L v nu x τ) hd pl s') s := by
  obtain ⟨nu, g2⟩ := mod4096 v
  have g0 := spFacts nu
  have g1 := mod6 nu
  have hr : nu % 6 < 6 := Nat.mod_lt _ (by decide)
  generalize nu % 96 = sp at g0
  generalize nu % 6 = r at g1 hr
  match r, g1, hr with
  | 0, g1, _ => exact Wn.mono (fun s' ⟨τ, h⟩ => ⟨5, by decide, nu, τ, h⟩) (fi_use X (fun w b1 b2 pa p N t ω => (fiG L hd pl v vt nu sp w b1 b2 cd bl pa p N t ω).1) (by decide) (ac (rfl) (ac (lwAp (x := 5) (by decide)) (ac (dcTh (x := 5) (by decide)) (ac (apTh (x := 5) (by decide)) (ac (prOk g0 g1) (ac (g0) (ac (⟨rfl, g1⟩) (ac (⟨rfl, g2⟩) an)))))))) D)
  | 1, g1, _ => exact Wn.mono (fun s' ⟨τ, h⟩ => ⟨8, by decide, nu, τ, h⟩) (fi_use X (fun w b1 b2 pa p N t ω => (fiG L hd pl v vt nu sp w b1 b2 cd bl pa p N t ω).2.1) (by decide) (ac (rfl) (ac (lwAp (x := 8) (by decide)) (ac (dcTh (x := 8) (by decide)) (ac (apTh (x := 8) (by decide)) (ac (prOk g0 g1) (ac (g0) (ac (⟨rfl, g1⟩) (ac (⟨rfl, g2⟩) an)))))))) D)
  | 2, g1, _ => exact Wn.mono (fun s' ⟨τ, h⟩ => ⟨85, by decide, nu, τ, h⟩) (fi_use X (fun w b1 b2 pa p N t ω => (fiG L hd pl v vt nu sp w b1 b2 cd bl pa p N t ω).2.2.1) (by decide) (ac (rfl) (ac (lwAp (x := 85) (by decide)) (ac (dcTh (x := 85) (by decide)) (ac (apTh (x := 85) (by decide)) (ac (prOk g0 g1) (ac (g0) (ac (⟨rfl, g1⟩) (ac (⟨rfl, g2⟩) an)))))))) D)
  | 3, g1, _ => exact Wn.mono (fun s' ⟨τ, h⟩ => ⟨88, by decide, nu, τ, h⟩) (fi_use X (fun w b1 b2 pa p N t ω => (fiG L hd pl v vt nu sp w b1 b2 cd bl pa p N t ω).2.2.2.1) (by decide) (ac (rfl) (ac (lwAp (x := 88) (by decide)) (ac (dcTh (x := 88) (by decide)) (ac (apTh (x := 88) (by decide)) (ac (prOk g0 g1) (ac (g0) (ac (⟨rfl, g1⟩) (ac (⟨rfl, g2⟩) an)))))))) D)
  | 4, g1, _ => exact Wn.mono (fun s' ⟨τ, h⟩ => ⟨1368, by decide, nu, τ, h⟩) (fi_use X (fun w b1 b2 pa p N t ω => (fiG L hd pl v vt nu sp w b1 b2 cd bl pa p N t ω).2.2.2.2.1) (by decide) (ac (rfl) (ac (lwAp (x := 1368) (by decide)) (ac (dcTh (x := 1368) (by decide)) (ac (apTh (x := 1368) (by decide)) (ac (prOk g0 g1) (ac (g0) (ac (⟨rfl, g1⟩) (ac (⟨rfl, g2⟩) an)))))))) D)
  | 5, g1, _ => exact Wn.mono (fun s' ⟨τ, h⟩ => ⟨11, by decide, nu, τ, h⟩) (fi_use X (fun w b1 b2 pa p N t ω => (fiG L hd pl v vt nu sp w b1 b2 cd bl pa p N t ω).2.2.2.2.2) (by decide) (ac (rfl) (ac (lwAp (x := 11) (by decide)) (ac (dcTh (x := 11) (by decide)) (ac (apTh (x := 11) (by decide)) (ac (prOk g0 g1) (ac (g0) (ac (⟨rfl, g1⟩) (ac (⟨rfl, g2⟩) an)))))))) D)
  | n + 6, _, hr => exact absurd hr (by omega)
end Mine.B
end
section
namespace Mine.B
open PySem PySem.W PySem.W.X
theorem wp_execs_app {M : Model} {Γ : Ctx} {env : Env} {b : List Stmt} {Q : Pos → Shared → Prop} {R : Flow → Pos → Shared → Prop} {Er : Value → Pos → Shared → Prop} : ∀ (a : List Stmt) {p : Pos} {s : Shared}, Sem.wp M Γ (execs a env) (fun f p s => f = .next ∧ Q p s) Er p s → (∀ p s, Q p s → Sem.wp M Γ (execs b env) R Er p s) → Sem.wp M Γ (execs (a ++ b) env) R Er p s
  | [], p, s, h, k => by
    have h : Sem.wp M Γ (Sem.pure Flow.next) _ _ p s := h
    rw [Sem.wp_pure] at h
    exact k _ _ h.2
  | st :: a, p, s, h, k => by
    have e1 : execs (st :: a) env = (exec st env >>= fun f => match f with | .next => execs a env | f => pure f) := rfl
    have e2 : execs (st :: a ++ b) env = (exec st env >>= fun f => match f with | .next => execs (a ++ b) env | f => pure f) := rfl
    rw [e1, Sem.wp_bind'] at h
    rw [e2, Sem.wp_bind']
    refine Sem.wp_mono _ _ _ (fun f p' s' h' => ?_) (fun _ _ _ h => h) _ _ h
    cases f with
    | next => exact wp_execs_app a h' k
    | brk => have h' : Sem.wp M Γ (Sem.pure Flow.brk) _ _ p' s' := h'; rw [Sem.wp_pure] at h'; cases h'.1
    | cont => have h' : Sem.wp M Γ (Sem.pure Flow.cont) _ _ p' s' := h'; rw [Sem.wp_pure] at h'; cases h'.1
    | ret v => have h' : Sem.wp M Γ (Sem.pure (Flow.ret v)) _ _ p' s' := h'; rw [Sem.wp_pure] at h'; cases h'.1
noncomputable def XIs (X : Array Value) (S : List Int) : Prop := ∃ vs : List (Int × Nat), X = (vs.map fun p => Value.int p.1 p.2).toArray ∧ S = vs.map (·.1)
theorem over_lt {L : Int} {P : List (Int × Int)} (h : ∃ e ∈ P, e.2 = L) : (over L P).length < P.length := by
  have h1 := over_len (L := L) (P := P)
  obtain ⟨e, he, hl⟩ := h
  have : 0 < (P.filter fun e => !decide (e.2 > L)).length := List.length_pos_of_mem (a := e) (List.mem_filter.mpr ⟨he, by simp [hl]⟩)
  omega
theorem body1_is (P : Params) : body1 P = (body1 P).take 4 ++ ([(body1 P).getD 4 passS] ++ ([(body1 P).getD 5 passS] ++ ([(body1 P).getD 6 passS] ++ ([(body1 P).getD 7 passS] ++ ([(body1 P).getD 8 passS] ++ [(body1 P).getD 9 passS]))))) := by kernel_rfl
variable {w : World} {b1 b2 : Bool} {E : R.World0} {pa : Option Value} {s : Shared} {cd : Code} {bl : List (Code × Pos)} {q1 q2 : Pos}
structure St (w : World) (b1 b2 : Bool) (E : R.World0) (L : Loc) (hd : List HE) (pl : List PE) (S : List Int) (r k : Nat) (Lc : Int) (s : Shared) : Prop where
  hold : HS w b1 b2 E L hd pl s
  ok : AllOk k hd
  inv : PInv (hd.map keyH) (pl.map keyP) S r k Lc
  room : L.room = (r : Int)
  x : XIs L.X S
  slen : S.length = k
theorem nd_of {F : List HE} {P : List (Int × Int)} {S : List Int} {r k : Nat} {L : Int} (I : PInv (F.map keyH) P S r k L) : (F.map fun h => h.x).Nodup := by have := I.nd; rw [List.map_map] at this; exact this
theorem lenF {F : List HE} {P : List (Int × Int)} {S : List Int} {r k : Nat} {L : Int} (hr3 : r ≤ 3) (I : PInv (F.map keyH) P S r k L) : F.length ≤ 3 := by
  have h1 := I.perm.length_eq
  have h2 := over_lt I.low
  have h3 := I.len
  simp only [List.length_map] at h1 h2 h3
  omega
theorem apnd_ok (X : Cx w b1 b2 E cd bl pa) {L : Loc} {hd : List HE} {pl : List PE} (hc : L.X.size < 1000) (D : HS w b1 b2 E L hd pl s) : Wn E ⟨cd, none, none, bl, pa⟩ (sgT 6 (pp w b1 b2)) (fun s' => HS w b1 b2 E (Lp L) hd pl s') s := ap_use X (fun w b1 b2 pa p N t ω => (apG L hd pl w b1 b2 cd bl pa p N t ω)) (by decide) (ac hc an) D
theorem turn_ok (X : Cx w b1 b2 E (cd1 (pp w b1 b2)) (bl1 (pp w b1 b2) q1 q2) pa) {L : Loc} {hd : List HE} {pl : List PE} {S : List Int} {r k : Nat} {Lc : Int} {v : Int} {vt : Nat} (hk : k ≤ 18) (hr1 : 1 ≤ r) (hr3 : r ≤ 3) (D : St w b1 b2 E L hd pl S r k Lc s) (p : Pos) :
    Sem.wp E.M ⟨cd1 (pp w b1 b2), none, none, bl1 (pp w b1 b2) q1 q2, pa⟩ (assign (for1 (pp w b1 b2)).1 (envL (pp w b1 b2)) (.int v vt) >>= fun _ => execs (body1 (pp w b1 b2)) (envL (pp w b1 b2)))
      (fun f _ s' => f = .next ∧ ∃ L' hd' pl' S' Lc', St w b1 b2 E L' hd' pl' S' r (k + 1) Lc' s' ∧ L'.least = Lc' ∧ L'.o1 = L.o1 ∧ L'.o2 = L.o2 ∧ L'.o3 = L.o3) (fun _ _ _ => False) p s := by
  obtain ⟨D0, hok, I, hroom, ⟨vs, hX, hS⟩, hsl⟩ := D
  have z1 := first_ok X (v := v) (vt := vt) D0 p
  unfold fiT at z1
  rw [Sem.wp_bind] at z1
  rw [Sem.wp_bind', body1_is]
  refine Sem.wp_mono _ _ _ (fun _ p1 s1 h1 => ?_) (fun _ _ _ h => h) _ _ z1
  refine wp_execs_app _ h1 ?_
  clear z1 h1 D0
  rintro p1 s1 ⟨x, hx, nn, τ', D⟩
  have z := hear_ok X hk hx hok (lenF hr3 I) (nd_of I) (L := { L with told := v, num := Int.ofNat nn, thg := Int.ofNat x, τ := τ' }) hroom hr1 hr3 D p1
  unfold sgT at z
  refine wp_execs_app _ z ?_
  clear z D
  rintro p2 s2 ⟨e, hd', D, hH, hok'⟩
  have hpl : 2 ≤ pl.length ∧ pl.length ≤ 4 := by have := I.len; simp only [List.length_map] at this; omega
  have z := take_ok X hpl.1 hpl.2 D p2
  unfold sgT at z
  refine wp_execs_app _ z ?_
  clear z D
  rintro p3 s3 ⟨e', pl', D, hT⟩
  obtain ⟨Lc', I'⟩ := step I hx hH hT
  have hpl' : 2 ≤ pl'.length ∧ pl'.length ≤ 4 := by have := I'.len; simp only [List.length_map] at this; omega
  have z := apnd_ok X (by show L.X.size < 1000; rw [hX]; simp; rw [hS] at hsl; simp at hsl; omega) D p3
  unfold sgT at z
  refine wp_execs_app _ z ?_
  clear z D
  rintro p4 s4 D
  have z := least_ok X hpl'.1 hpl'.2 D p4
  unfold sgT at z
  refine wp_execs_app _ z ?_
  clear z D
  rintro p5 s5 ⟨lv, lu, D, ⟨q0, hq0, hql⟩, hqm⟩
  have hlv : lv = Lc' := by
    obtain ⟨e0, he0, hl0⟩ := I'.low
    obtain ⟨q', hq', rfl⟩ := List.mem_map.mp he0
    have h1 := hqm q' hq'
    have h2 := I'.min (keyP q0) (List.mem_map_of_mem hq0)
    have h3 : (keyP q').2 = q'.cnt := rfl
    have h4 : (keyP q0).2 = q0.cnt := rfl
    omega
  subst hlv
  have hth : ∀ q ∈ pl', q.cnt > lv → q.who ∈ things' := by
    intro q hq hc
    rcases I'.placed (keyP q) (List.mem_map_of_mem hq) with h | ⟨_, h⟩
    · exact h
    · have h : q.cnt = 0 := h
      have := I'.l0
      omega
  have hdis : pl'.Pairwise fun a b => a.cnt > lv → b.cnt > lv → a.who ≠ b.who := by
    have := I'.pd
    rw [List.pairwise_map] at this
    refine List.Pairwise.imp_of_mem (fun {a b} ha hb h h1 _ => h (hth a ha h1)) this
  have z := due_ok X hpl'.1 hpl'.2 ⟨q0, hq0, hql⟩ hth hdis D p5
  unfold sgT at z
  refine wp_execs_app _ z ?_
  clear z D
  rintro p6 s6 ⟨a, e5, dl, ha, D, hdp, hds⟩
  have hpm : (dl.map keyP).Perm (hd'.map fun h => (Int.ofNat h.x, Int.ofNat h.y)) := by
    refine hdp.trans ?_
    have h1 := I'.perm.symm
    rw [List.map_map] at h1
    refine List.Perm.trans (List.Perm.of_eq ?_) h1
    unfold over
    rw [List.filter_map, List.map_map]
    rfl
  have z := check_ok X (show k + 1 ≤ 20 by omega) hok' (lenF hr3 I') (nd_of I') hpm hds D p6
  unfold sgT at z
  refine Sem.wp_mono _ _ _ (fun f p' s' h' => ?_) (fun _ _ _ h => h) _ _ z
  obtain ⟨hf, D⟩ := h'
  refine ⟨hf, _, hd', pl', S ++ [Int.ofNat x], lv, ⟨D, hok', I', hroom, ?_, by simp [hsl]⟩, rfl, rfl, rfl, rfl⟩
  refine ⟨vs ++ [(Int.ofNat x, τ' 11)], ?_, by rw [hS]; simp⟩
  show L.X.push (.int (Int.ofNat x) (τ' 11)) = _
  rw [hX]
  simp
theorem cnt_of {X : Array Value} {S : List Int} (h : XIs X S) (x : Int) : R.CountL X x (S.count x) := by
  obtain ⟨vs, h1, h2⟩ := h
  exact ⟨vs, h1, by rw [h2]⟩
theorem keptIn {F : List (Nat × Nat)} {P : List (Int × Int)} {S : List Int} {r k : Nat} {L : Int} (I : PInv F P S r k L) {x y : Nat} (h : (x, y) ∈ F) :
    Int.ofNat y ≤ Int.ofNat (S.count (Int.ofNat x)) ∧ Int.ofNat (S.count (Int.ofNat x)) ≤ Int.ofNat y + L := by
  have h1 : (Int.ofNat x, Int.ofNat y) ∈ over L P := I.perm.mem_iff.mp (List.mem_map_of_mem (f := up) h)
  obtain ⟨c, h2, h3, h4⟩ := mem_over.mp h1
  have h5 := I.c1 _ h2 (nat_mem (I.names _ h).1)
  dsimp only at h5
  have h6 : ((S.count (Int.ofNat x) : Nat) : Int) = Int.ofNat (S.count (Int.ofNat x)) := rfl
  rw [h6] at h5
  omega
theorem keptOut {F : List (Nat × Nat)} {P : List (Int × Int)} {S : List Int} {r k : Nat} {L : Int} (I : PInv F P S r k L) {x : Nat} (hx : x ∈ things) (h : ∀ e ∈ F, e.1 ≠ x) :
    (0 : Int) ≤ Int.ofNat (S.count (Int.ofNat x)) ∧ Int.ofNat (S.count (Int.ofNat x)) ≤ (0 : Int) + L := by
  refine ⟨Int.natCast_nonneg _, ?_⟩
  have hxI := nat_mem hx
  have h6 : ((S.count (Int.ofNat x) : Nat) : Int) = Int.ofNat (S.count (Int.ofNat x)) := rfl
  rw [← h6, Int.zero_add]
  by_cases hp : ∃ e ∈ P, e.1 = Int.ofNat x
  · obtain ⟨⟨a, c⟩, he, rfl⟩ := hp
    have h1 := I.min _ he
    have h2 := I.c1 _ he hxI
    dsimp only at h1 h2
    by_cases hc : c > L
    · exfalso
      have h3 : (Int.ofNat x, c - L) ∈ over L P := mem_over.mpr ⟨c, he, hc, rfl⟩
      obtain ⟨e, h4, h5⟩ := List.mem_map.mp (I.perm.mem_iff.mpr h3)
      exact h e h4 (Int.ofNat.inj (congrArg Prod.fst h5))
    · omega
  · exact I.c2 _ hxI fun e he q => hp ⟨e, he, q⟩
theorem nu0 : NuOk (⟨#[]⟩ : Str) 0 := .inl ⟨by decide, by decide⟩
theorem fin_turn (X : Cx w b1 b2 E cd bl pa) {L : Loc} {Xc : Cells} {k x0 vt r : Nat} {kept : Int} {P : List (Int × Int)} {S : List Int} (hk : k ≤ 20) (hx : x0 ∈ things) {b : Bool} (hnd : ([282, 283, 285, 286, 288, 295, 281] ++ Xc.map (fun (x : Nat × Obj) => x.1)).Nodup) : ∀ {hd : List HE}, hd.length ≤ 3 → AllOk k hd → PInv (hd.map keyH) P S r k L.least → XIs L.X S → HF w b1 b2 E b L kept hd Xc s →
    Wn E ⟨cd, none, none, bl, pa⟩ (fnT (Int.ofNat x0) vt (pp w b1 b2)) (fun s' => ∃ τ kept', HF w b1 b2 E true { L with thg := Int.ofNat x0, τ := τ } kept' hd Xc s') s := by
  intro hd hl hok I hX D
  have cc := cnt_of hX (Int.ofNat x0)
  match hd, hl, hok, I, D with
  | [], _, hok, I, D =>
    obtain ⟨l1, l2⟩ := keptOut I hx (fun _ h => nomatch h)
    cases b
    · exact fn_use X (fun w b1 b2 pa p N t ω => (fnG0 L kept Xc x0 vt (S.count (Int.ofNat x0))  w b1 b2 cd bl pa p N t ω).1) (by decide) (ac (l2) (ac (l1) (ac (cc) (ac (nu0) (ac (cvLo hx) (ac (lwAp hx) (ac (dcTh hx) (ac (apTh hx) an)))))))) hnd D
    · exact fn_use X (fun w b1 b2 pa p N t ω => (fnG0 L kept Xc x0 vt (S.count (Int.ofNat x0))  w b1 b2 cd bl pa p N t ω).2) (by decide) (ac (l2) (ac (l1) (ac (cc) (ac (nu0) (ac (cvLo hx) (ac (lwAp hx) (ac (dcTh hx) (ac (apTh hx) an)))))))) hnd D
  | [h0], _, hok, I, D =>
    have H0 := hok h0 (.head _)
    by_cases n0 : h0.x = x0
    · obtain ⟨l1, l2⟩ := keptIn I (x := x0) (y := h0.y) (by simp [keyH, n0])
      cases b
      · exact fn_use X (fun w b1 b2 pa p N t ω => (fnG1 L kept Xc x0 vt (S.count (Int.ofNat x0)) h0 w b1 b2 cd bl pa p N t ω).1) (by decide) (ac (l2) (ac (l1) (ac (cc) (ac (nuC H0 hk) (ac (congrArg lo n0) (ac (lwOk H0) (ac (cvLo hx) (ac (lwAp hx) (ac (dcTh hx) (ac (apTh hx) an)))))))))) hnd D
      · exact fn_use X (fun w b1 b2 pa p N t ω => (fnG1 L kept Xc x0 vt (S.count (Int.ofNat x0)) h0 w b1 b2 cd bl pa p N t ω).2.2.1) (by decide) (ac (l2) (ac (l1) (ac (cc) (ac (nuC H0 hk) (ac (congrArg lo n0) (ac (lwOk H0) (ac (cvLo hx) (ac (lwAp hx) (ac (dcTh hx) (ac (apTh hx) an)))))))))) hnd D
    · skip
      obtain ⟨l1, l2⟩ := keptOut I hx (by simp [keyH, n0])
      cases b
      · exact fn_use X (fun w b1 b2 pa p N t ω => (fnG1 L kept Xc x0 vt (S.count (Int.ofNat x0)) h0 w b1 b2 cd bl pa p N t ω).2.1) (by decide) (ac (l2) (ac (l1) (ac (cc) (ac (nu0) (ac (fun q => n0 (lo_inj _ H0.1 _ hx q)) (ac (lwOk H0) (ac (cvLo hx) (ac (lwAp hx) (ac (dcTh hx) (ac (apTh hx) an)))))))))) hnd D
      · exact fn_use X (fun w b1 b2 pa p N t ω => (fnG1 L kept Xc x0 vt (S.count (Int.ofNat x0)) h0 w b1 b2 cd bl pa p N t ω).2.2.2) (by decide) (ac (l2) (ac (l1) (ac (cc) (ac (nu0) (ac (fun q => n0 (lo_inj _ H0.1 _ hx q)) (ac (lwOk H0) (ac (cvLo hx) (ac (lwAp hx) (ac (dcTh hx) (ac (apTh hx) an)))))))))) hnd D
  | [h0, h1], _, hok, I, D =>
    have H0 := hok h0 (.head _)
    have H1 := hok h1 (.tail _ (.head _))
    by_cases n0 : h0.x = x0
    · obtain ⟨l1, l2⟩ := keptIn I (x := x0) (y := h0.y) (by simp [keyH, n0])
      cases b
      · exact fn_use X (fun w b1 b2 pa p N t ω => (fnG2a L kept Xc x0 vt (S.count (Int.ofNat x0)) h0 h1 w b1 b2 cd bl pa p N t ω).1) (by decide) (ac (l2) (ac (l1) (ac (cc) (ac (nuC H0 hk) (ac (congrArg lo n0) (ac (lwOk H0) (ac (cvLo hx) (ac (lwAp hx) (ac (dcTh hx) (ac (apTh hx) an)))))))))) hnd D
      · exact fn_use X (fun w b1 b2 pa p N t ω => (fnG2a L kept Xc x0 vt (S.count (Int.ofNat x0)) h0 h1 w b1 b2 cd bl pa p N t ω).2.2.2.1) (by decide) (ac (l2) (ac (l1) (ac (cc) (ac (nuC H0 hk) (ac (congrArg lo n0) (ac (lwOk H0) (ac (cvLo hx) (ac (lwAp hx) (ac (dcTh hx) (ac (apTh hx) an)))))))))) hnd D
    · skip
      by_cases n1 : h1.x = x0
      · obtain ⟨l1, l2⟩ := keptIn I (x := x0) (y := h1.y) (by simp [keyH, n1])
        cases b
        · exact fn_use X (fun w b1 b2 pa p N t ω => (fnG2a L kept Xc x0 vt (S.count (Int.ofNat x0)) h0 h1 w b1 b2 cd bl pa p N t ω).2.1) (by decide) (ac (l2) (ac (l1) (ac (cc) (ac (nuC H1 hk) (ac (congrArg lo n1) (ac (lwOk H1) (ac (fun q => n0 (lo_inj _ H0.1 _ hx q)) (ac (lwOk H0) (ac (cvLo hx) (ac (lwAp hx) (ac (dcTh hx) (ac (apTh hx) an)))))))))))) hnd D
        · exact fn_use X (fun w b1 b2 pa p N t ω => (fnG2a L kept Xc x0 vt (S.count (Int.ofNat x0)) h0 h1 w b1 b2 cd bl pa p N t ω).2.2.2.2) (by decide) (ac (l2) (ac (l1) (ac (cc) (ac (nuC H1 hk) (ac (congrArg lo n1) (ac (lwOk H1) (ac (fun q => n0 (lo_inj _ H0.1 _ hx q)) (ac (lwOk H0) (ac (cvLo hx) (ac (lwAp hx) (ac (dcTh hx) (ac (apTh hx) an)))))))))))) hnd D
      · skip
        obtain ⟨l1, l2⟩ := keptOut I hx (by simp [keyH, n0, n1])
        cases b
        · exact fn_use X (fun w b1 b2 pa p N t ω => (fnG2a L kept Xc x0 vt (S.count (Int.ofNat x0)) h0 h1 w b1 b2 cd bl pa p N t ω).2.2.1) (by decide) (ac (l2) (ac (l1) (ac (cc) (ac (nu0) (ac (fun q => n1 (lo_inj _ H1.1 _ hx q)) (ac (lwOk H1) (ac (fun q => n0 (lo_inj _ H0.1 _ hx q)) (ac (lwOk H0) (ac (cvLo hx) (ac (lwAp hx) (ac (dcTh hx) (ac (apTh hx) an)))))))))))) hnd D
        · exact fn_use X (fun w b1 b2 pa p N t ω => (fnG2b L kept Xc x0 vt (S.count (Int.ofNat x0)) h0 h1 w b1 b2 cd bl pa p N t ω)) (by decide) (ac (l2) (ac (l1) (ac (cc) (ac (nu0) (ac (fun q => n1 (lo_inj _ H1.1 _ hx q)) (ac (lwOk H1) (ac (fun q => n0 (lo_inj _ H0.1 _ hx q)) (ac (lwOk H0) (ac (cvLo hx) (ac (lwAp hx) (ac (dcTh hx) (ac (apTh hx) an)))))))))))) hnd D
  | [h0, h1, h2], _, hok, I, D =>
    have H0 := hok h0 (.head _)
    have H1 := hok h1 (.tail _ (.head _))
    have H2 := hok h2 (.tail _ (.tail _ (.head _)))
    by_cases n0 : h0.x = x0
    · obtain ⟨l1, l2⟩ := keptIn I (x := x0) (y := h0.y) (by simp [keyH, n0])
      cases b
      · exact fn_use X (fun w b1 b2 pa p N t ω => (fnG3a L kept Xc x0 vt (S.count (Int.ofNat x0)) h0 h1 h2 w b1 b2 cd bl pa p N t ω).1) (by decide) (ac (l2) (ac (l1) (ac (cc) (ac (nuC H0 hk) (ac (congrArg lo n0) (ac (lwOk H0) (ac (cvLo hx) (ac (lwAp hx) (ac (dcTh hx) (ac (apTh hx) an)))))))))) hnd D
      · exact fn_use X (fun w b1 b2 pa p N t ω => (fnG3a L kept Xc x0 vt (S.count (Int.ofNat x0)) h0 h1 h2 w b1 b2 cd bl pa p N t ω).2.2.2.2) (by decide) (ac (l2) (ac (l1) (ac (cc) (ac (nuC H0 hk) (ac (congrArg lo n0) (ac (lwOk H0) (ac (cvLo hx) (ac (lwAp hx) (ac (dcTh hx) (ac (apTh hx) an)))))))))) hnd D
    · skip
      by_cases n1 : h1.x = x0
      · obtain ⟨l1, l2⟩ := keptIn I (x := x0) (y := h1.y) (by simp [keyH, n1])
        cases b
        · exact fn_use X (fun w b1 b2 pa p N t ω => (fnG3a L kept Xc x0 vt (S.count (Int.ofNat x0)) h0 h1 h2 w b1 b2 cd bl pa p N t ω).2.1) (by decide) (ac (l2) (ac (l1) (ac (cc) (ac (nuC H1 hk) (ac (congrArg lo n1) (ac (lwOk H1) (ac (fun q => n0 (lo_inj _ H0.1 _ hx q)) (ac (lwOk H0) (ac (cvLo hx) (ac (lwAp hx) (ac (dcTh hx) (ac (apTh hx) an)))))))))))) hnd D
        · exact fn_use X (fun w b1 b2 pa p N t ω => (fnG3b L kept Xc x0 vt (S.count (Int.ofNat x0)) h0 h1 h2 w b1 b2 cd bl pa p N t ω).1) (by decide) (ac (l2) (ac (l1) (ac (cc) (ac (nuC H1 hk) (ac (congrArg lo n1) (ac (lwOk H1) (ac (fun q => n0 (lo_inj _ H0.1 _ hx q)) (ac (lwOk H0) (ac (cvLo hx) (ac (lwAp hx) (ac (dcTh hx) (ac (apTh hx) an)))))))))))) hnd D
      · skip
        by_cases n2 : h2.x = x0
        · obtain ⟨l1, l2⟩ := keptIn I (x := x0) (y := h2.y) (by simp [keyH, n2])
          cases b
          · exact fn_use X (fun w b1 b2 pa p N t ω => (fnG3a L kept Xc x0 vt (S.count (Int.ofNat x0)) h0 h1 h2 w b1 b2 cd bl pa p N t ω).2.2.1) (by decide) (ac (l2) (ac (l1) (ac (cc) (ac (nuC H2 hk) (ac (congrArg lo n2) (ac (lwOk H2) (ac (fun q => n1 (lo_inj _ H1.1 _ hx q)) (ac (lwOk H1) (ac (fun q => n0 (lo_inj _ H0.1 _ hx q)) (ac (lwOk H0) (ac (cvLo hx) (ac (lwAp hx) (ac (dcTh hx) (ac (apTh hx) an)))))))))))))) hnd D
          · exact fn_use X (fun w b1 b2 pa p N t ω => (fnG3b L kept Xc x0 vt (S.count (Int.ofNat x0)) h0 h1 h2 w b1 b2 cd bl pa p N t ω).2.1) (by decide) (ac (l2) (ac (l1) (ac (cc) (ac (nuC H2 hk) (ac (congrArg lo n2) (ac (lwOk H2) (ac (fun q => n1 (lo_inj _ H1.1 _ hx q)) (ac (lwOk H1) (ac (fun q => n0 (lo_inj _ H0.1 _ hx q)) (ac (lwOk H0) (ac (cvLo hx) (ac (lwAp hx) (ac (dcTh hx) (ac (apTh hx) an)))))))))))))) hnd D
        · skip
          obtain ⟨l1, l2⟩ := keptOut I hx (by simp [keyH, n0, n1, n2])
          cases b
          · exact fn_use X (fun w b1 b2 pa p N t ω => (fnG3a L kept Xc x0 vt (S.count (Int.ofNat x0)) h0 h1 h2 w b1 b2 cd bl pa p N t ω).2.2.2.1) (by decide) (ac (l2) (ac (l1) (ac (cc) (ac (nu0) (ac (fun q => n2 (lo_inj _ H2.1 _ hx q)) (ac (lwOk H2) (ac (fun q => n1 (lo_inj _ H1.1 _ hx q)) (ac (lwOk H1) (ac (fun q => n0 (lo_inj _ H0.1 _ hx q)) (ac (lwOk H0) (ac (cvLo hx) (ac (lwAp hx) (ac (dcTh hx) (ac (apTh hx) an)))))))))))))) hnd D
          · exact fn_use X (fun w b1 b2 pa p N t ω => (fnG3b L kept Xc x0 vt (S.count (Int.ofNat x0)) h0 h1 h2 w b1 b2 cd bl pa p N t ω).2.2) (by decide) (ac (l2) (ac (l1) (ac (cc) (ac (nu0) (ac (fun q => n2 (lo_inj _ H2.1 _ hx q)) (ac (lwOk H2) (ac (fun q => n1 (lo_inj _ H1.1 _ hx q)) (ac (lwOk H1) (ac (fun q => n0 (lo_inj _ H0.1 _ hx q)) (ac (lwOk H0) (ac (cvLo hx) (ac (lwAp hx) (ac (dcTh hx) (ac (apTh hx) an)))))))))))))) hnd D
  | _ :: _ :: _ :: _ :: _, hl, _, _, _ => simp at hl
theorem turn1_2u (X : Cx w b1 b2 E (cd1 (pp w b1 b2)) (bl1 (pp w b1 b2) q1 q2) pa) {τ0 : Nat → Nat} {vt dt e0 e1 e2 u0 u1 N t : Nat} {o1 o2 o3 : Obj} (D : Hold E (T1 (pp w b1 b2) τ0 1 dt 2 e0 e1 e2 o1 o2 o3) [(292, R.tupO 0 u0 0 u1)] N t s) :
    Wn E ⟨cd1 (pp w b1 b2), none, none, bl1 (pp w b1 b2) q1 q2, pa⟩ (ftT vt (pp w b1 b2)) (fun s' => ∃ L hd pl u, HS w b1 b2 E L hd pl s' ∧ L.room = 1 ∧ L.least = 0 ∧ hd.map keyH = [(88, 1)] ∧ pl.map keyP = (88, 1) :: List.replicate 1 (0, 0) ∧ AllOk 1 hd ∧ L.X = #[.int 88 u] ∧ L.o1 = o1 ∧ L.o2 = o2 ∧ L.o3 = o3) s :=
  Wn.mono (fun s' ⟨N', t', ω, h⟩ => ⟨_, _, _, _, h, rfl, rfl, rfl, rfl, ac ⟨show 88 ∈ things by decide, .inl rfl, rfl, Nat.le_refl 1, Nat.le_refl 1⟩ an, rfl, rfl, rfl, rfl⟩) (ft_use X (fun w b1 b2 pa p N t ω => (ftGa τ0 dt e0 e1 e2 u0 u1 vt o1 o2 o3 w b1 b2 q1 q2 pa p N t ω)) (by decide) (ac (rfl) (ac (so1m _ (by decide)) (ac (.inl ⟨by decide, by decide⟩) (ac (.inl ⟨by decide, by decide⟩) (ac (so1m _ (by decide)) (ac (by decide) (ac (⟨by decide, rfl, fun m h => absurd h (Nat.not_lt_zero m)⟩) (ac (.inr ⟨rfl, 1, by decide, by decide⟩) (ac (.inl ⟨rfl, 88, by decide, .inl (by decide)⟩) (ac (.inl ⟨rfl, 88, by decide, .inr (by decide)⟩) (ac (⟨by decide, .inl (by decide)⟩) (ac (⟨rfl, by decide⟩) (ac (⟨rfl, by decide⟩) (ac (.inr ⟨by decide, by decide⟩) (ac (.inl ⟨rfl, 88, by decide, .inr (by decide)⟩) (ac (⟨by decide, .inr (by decide)⟩) (ac (rfl) (ac (⟨by decide, .inl (by decide)⟩) (ac (⟨rfl, by decide⟩) (ac (⟨rfl, by decide⟩) (ac (⟨21, by decide, rfl, rfl⟩) (ac (spFacts 21) an)))))))))))))))))))))) D (fun _ _ _ => rfl))
theorem turn1_3u (X : Cx w b1 b2 E (cd1 (pp w b1 b2)) (bl1 (pp w b1 b2) q1 q2) pa) {τ0 : Nat → Nat} {vt dt e0 e1 e2 u0 u1 N t : Nat} {o1 o2 o3 : Obj} (D : Hold E (T1 (pp w b1 b2) τ0 2 dt 3 e0 e1 e2 o1 o2 o3) [(292, R.tupO 0 u0 0 u1)] N t s) :
    Wn E ⟨cd1 (pp w b1 b2), none, none, bl1 (pp w b1 b2) q1 q2, pa⟩ (ftT vt (pp w b1 b2)) (fun s' => ∃ L hd pl u, HS w b1 b2 E L hd pl s' ∧ L.room = 2 ∧ L.least = 0 ∧ hd.map keyH = [(88, 1)] ∧ pl.map keyP = (88, 1) :: List.replicate 2 (0, 0) ∧ AllOk 1 hd ∧ L.X = #[.int 88 u] ∧ L.o1 = o1 ∧ L.o2 = o2 ∧ L.o3 = o3) s :=
  Wn.mono (fun s' ⟨N', t', ω, h⟩ => ⟨_, _, _, _, h, rfl, rfl, rfl, rfl, ac ⟨show 88 ∈ things by decide, .inl rfl, rfl, Nat.le_refl 1, Nat.le_refl 1⟩ an, rfl, rfl, rfl, rfl⟩) (ft_use X (fun w b1 b2 pa p N t ω => (ftGb τ0 dt e0 e1 e2 u0 u1 vt o1 o2 o3 w b1 b2 q1 q2 pa p N t ω)) (by decide) (ac (rfl) (ac (so1m _ (by decide)) (ac (.inl ⟨by decide, by decide⟩) (ac (.inl ⟨by decide, by decide⟩) (ac (so1m _ (by decide)) (ac (by decide) (ac (⟨by decide, rfl, fun m h => absurd h (Nat.not_lt_zero m)⟩) (ac (.inr ⟨rfl, 1, by decide, by decide⟩) (ac (.inl ⟨rfl, 88, by decide, .inl (by decide)⟩) (ac (.inl ⟨rfl, 88, by decide, .inr (by decide)⟩) (ac (⟨by decide, .inl (by decide)⟩) (ac (⟨rfl, by decide⟩) (ac (⟨rfl, by decide⟩) (ac (.inr ⟨by decide, by decide⟩) (ac (.inl ⟨rfl, 88, by decide, .inr (by decide)⟩) (ac (⟨by decide, .inr (by decide)⟩) (ac (rfl) (ac (⟨by decide, .inl (by decide)⟩) (ac (⟨rfl, by decide⟩) (ac (⟨rfl, by decide⟩) (ac (⟨21, by decide, rfl, rfl⟩) (ac (spFacts 21) an)))))))))))))))))))))) D (fun _ _ _ => rfl))
theorem turn1_4u (X : Cx w b1 b2 E (cd1 (pp w b1 b2)) (bl1 (pp w b1 b2) q1 q2) pa) {τ0 : Nat → Nat} {vt dt e0 e1 e2 u0 u1 N t : Nat} {o1 o2 o3 : Obj} (D : Hold E (T1 (pp w b1 b2) τ0 3 dt 4 e0 e1 e2 o1 o2 o3) [(292, R.tupO 0 u0 0 u1)] N t s) :
    Wn E ⟨cd1 (pp w b1 b2), none, none, bl1 (pp w b1 b2) q1 q2, pa⟩ (ftT vt (pp w b1 b2)) (fun s' => ∃ L hd pl u, HS w b1 b2 E L hd pl s' ∧ L.room = 3 ∧ L.least = 0 ∧ hd.map keyH = [(88, 1)] ∧ pl.map keyP = (88, 1) :: List.replicate 3 (0, 0) ∧ AllOk 1 hd ∧ L.X = #[.int 88 u] ∧ L.o1 = o1 ∧ L.o2 = o2 ∧ L.o3 = o3) s :=
  Wn.mono (fun s' ⟨N', t', ω, h⟩ => ⟨_, _, _, _, h, rfl, rfl, rfl, rfl, ac ⟨show 88 ∈ things by decide, .inl rfl, rfl, Nat.le_refl 1, Nat.le_refl 1⟩ an, rfl, rfl, rfl, rfl⟩) (ft_use X (fun w b1 b2 pa p N t ω => (ftGc τ0 dt e0 e1 e2 u0 u1 vt o1 o2 o3 w b1 b2 q1 q2 pa p N t ω)) (by decide) (ac (rfl) (ac (so1m _ (by decide)) (ac (.inl ⟨by decide, by decide⟩) (ac (.inl ⟨by decide, by decide⟩) (ac (so1m _ (by decide)) (ac (by decide) (ac (⟨by decide, rfl, fun m h => absurd h (Nat.not_lt_zero m)⟩) (ac (.inr ⟨rfl, 1, by decide, by decide⟩) (ac (.inl ⟨rfl, 88, by decide, .inl (by decide)⟩) (ac (.inl ⟨rfl, 88, by decide, .inr (by decide)⟩) (ac (⟨by decide, .inl (by decide)⟩) (ac (⟨rfl, by decide⟩) (ac (⟨rfl, by decide⟩) (ac (.inr ⟨by decide, by decide⟩) (ac (.inl ⟨rfl, 88, by decide, .inr (by decide)⟩) (ac (⟨by decide, .inr (by decide)⟩) (ac (rfl) (ac (⟨by decide, .inl (by decide)⟩) (ac (⟨rfl, by decide⟩) (ac (⟨rfl, by decide⟩) (ac (⟨21, by decide, rfl, rfl⟩) (ac (spFacts 21) an)))))))))))))))))))))) D (fun _ _ _ => rfl))
end Mine.B
end
section
namespace Mine.B
open PySem PySem.W PySem.W.X
noncomputable abbrev evP (w : World) (b1 b2 : Bool) (cd : Code) (bl : List (Code × Pos)) (pa : Option Value) (p : Pos) (b t : Nat) (ω : Nat → Nat) (kl : Cells) (tree : Sem Fin) (T : Cells) (hs : List Nat) : Option Out :=
  R.ev (FW (wb w b1 b2) kl (Rb kl)) 1000000 20 ⟨cd, none, none, bl, pa⟩ p tree [] ⟨T, b, 0, t + 2595, 0⟩ hs ω [] []
noncomputable def forIter (P : Params) : Expr := (for1 P).2.1
noncomputable def scrV (f : Nat → Int) (g : Nat → Nat) (k : Nat) : List Value := (List.range k).map fun i => .int (f i) (g i)
noncomputable def itHs : List Nat := [2,4,4,4,0,4,0,1,1,1,1,1,4,3,1,3,0,3,0,1,3,1,1,1,0,1,0,1]
noncomputable def preV (t : Nat) : List Value := [.int 21 t, .int 33 (t + 1), .int 70 (t + 2), .int 84 (t + 3), .int 4 (t + 4), .int 47 (t + 5), .int 15 (t + 6)]
noncomputable def itO (l : Nat) : Obj := { cls := .type "list_iterator", data := .fields #[.ref l, .int 0 0] }
@[irreducible] noncomputable def itTree (P : Params) (e : Expr) : Sem Value := (eval e (envL P) >>= fun v => foldedSetIterable e (envL P) v) >>= fun x => standAt e.pos >>= fun _ => holding [x] (pyIter x)
noncomputable def ItOk (k : Nat) : Prop := ∀ (w : World) (b1 b2 : Bool) (bl : List (Code × Pos)) (pa : Option Value) (p : Pos) (t : Nat) (ω : Nat → Nat) (x : Nat → Int) (y τ : Nat → Nat) (r : Int),
  Checks (evP w b1 b2 (.func (lawStmts (pp w b1 b2)) (envL (pp w b1 b2))) bl pa p 296 t ω [] ((itTree (pp w b1 b2) (forIter (pp w b1 b2))).bind fun a => .pure (.done (.ret a))) [(282, fr5 (pp w b1 b2) τ r), (281, listV (scrV x y k).toArray 0)] itHs) [5, 6, 1, 0] (.ok (.ret (.ref 300))) [(282, fr5 (pp w b1 b2) τ r), (281, listV (scrV x y k).toArray 0), (299, listV (preV (t + 2595) ++ (scrV x y k).take 12).toArray 0), (300, itO 299)] 301 (t + 2595 + 8) []
theorem itg0 : ItOk 0 ∧ ItOk 1 ∧ ItOk 2 ∧ ItOk 3 ∧ ItOk 4 ∧ ItOk 5 ∧ ItOk 6 ∧ ItOk 7 ∧ ItOk 8 ∧ ItOk 9 ∧ ItOk 10 ∧ ItOk 11 ∧ ItOk 12 ∧ ItOk 13 ∧ ItOk 14 ∧ ItOk 15 := ⟨fun w b1 b2 bl pa p t ω x y τ r => by cases b1 <;> kernel_rfl, fun w b1 b2 bl pa p t ω x y τ r => by cases b1 <;> kernel_rfl, fun w b1 b2 bl pa p t ω x y τ r => by cases b1 <;> kernel_rfl, fun w b1 b2 bl pa p t ω x y τ r => by cases b1 <;> kernel_rfl, fun w b1 b2 bl pa p t ω x y τ r => by cases b1 <;> kernel_rfl, fun w b1 b2 bl pa p t ω x y τ r => by cases b1 <;> kernel_rfl, fun w b1 b2 bl pa p t ω x y τ r => by cases b1 <;> kernel_rfl, fun w b1 b2 bl pa p t ω x y τ r => by cases b1 <;> kernel_rfl, fun w b1 b2 bl pa p t ω x y τ r => by cases b1 <;> kernel_rfl, fun w b1 b2 bl pa p t ω x y τ r => by cases b1 <;> kernel_rfl, fun w b1 b2 bl pa p t ω x y τ r => by cases b1 <;> kernel_rfl, fun w b1 b2 bl pa p t ω x y τ r => by cases b1 <;> kernel_rfl, fun w b1 b2 bl pa p t ω x y τ r => by cases b1 <;> kernel_rfl, fun w b1 b2 bl pa p t ω x y τ r => by cases b1 <;> kernel_rfl, fun w b1 b2 bl pa p t ω x y τ r => by cases b1 <;> kernel_rfl, fun w b1 b2 bl pa p t ω x y τ r => by cases b1 <;> kernel_rfl⟩
theorem itg1 : ItOk 16 ∧ ItOk 17 ∧ ItOk 18 ∧ ItOk 19 ∧ ItOk 20 ∧ ItOk 21 ∧ ItOk 22 ∧ ItOk 23 ∧ ItOk 24 ∧ ItOk 25 ∧ ItOk 26 ∧ ItOk 27 ∧ ItOk 28 ∧ ItOk 29 ∧ ItOk 30 ∧ ItOk 31 := ⟨fun w b1 b2 bl pa p t ω x y τ r => by cases b1 <;> kernel_rfl, fun w b1 b2 bl pa p t ω x y τ r => by cases b1 <;> kernel_rfl, fun w b1 b2 bl pa p t ω x y τ r => by cases b1 <;> kernel_rfl, fun w b1 b2 bl pa p t ω x y τ r => by cases b1 <;> kernel_rfl, fun w b1 b2 bl pa p t ω x y τ r => by cases b1 <;> kernel_rfl, fun w b1 b2 bl pa p t ω x y τ r => by cases b1 <;> kernel_rfl, fun w b1 b2 bl pa p t ω x y τ r => by cases b1 <;> kernel_rfl, fun w b1 b2 bl pa p t ω x y τ r => by cases b1 <;> kernel_rfl, fun w b1 b2 bl pa p t ω x y τ r => by cases b1 <;> kernel_rfl, fun w b1 b2 bl pa p t ω x y τ r => by cases b1 <;> kernel_rfl, fun w b1 b2 bl pa p t ω x y τ r => by cases b1 <;> kernel_rfl, fun w b1 b2 bl pa p t ω x y τ r => by cases b1 <;> kernel_rfl, fun w b1 b2 bl pa p t ω x y τ r => by cases b1 <;> kernel_rfl, fun w b1 b2 bl pa p t ω x y τ r => by cases b1 <;> kernel_rfl, fun w b1 b2 bl pa p t ω x y τ r => by cases b1 <;> kernel_rfl, fun w b1 b2 bl pa p t ω x y τ r => by cases b1 <;> kernel_rfl⟩
theorem itg2 : ItOk 32 ∧ ItOk 33 ∧ ItOk 34 ∧ ItOk 35 ∧ ItOk 36 ∧ ItOk 37 ∧ ItOk 38 ∧ ItOk 39 ∧ ItOk 40 ∧ ItOk 41 ∧ ItOk 42 ∧ ItOk 43 ∧ ItOk 44 ∧ ItOk 45 ∧ ItOk 46 ∧ ItOk 47 := ⟨fun w b1 b2 bl pa p t ω x y τ r => by cases b1 <;> kernel_rfl, fun w b1 b2 bl pa p t ω x y τ r => by cases b1 <;> kernel_rfl, fun w b1 b2 bl pa p t ω x y τ r => by cases b1 <;> kernel_rfl, fun w b1 b2 bl pa p t ω x y τ r => by cases b1 <;> kernel_rfl, fun w b1 b2 bl pa p t ω x y τ r => by cases b1 <;> kernel_rfl, fun w b1 b2 bl pa p t ω x y τ r => by cases b1 <;> kernel_rfl, fun w b1 b2 bl pa p t ω x y τ r => by cases b1 <;> kernel_rfl, fun w b1 b2 bl pa p t ω x y τ r => by cases b1 <;> kernel_rfl, fun w b1 b2 bl pa p t ω x y τ r => by cases b1 <;> kernel_rfl, fun w b1 b2 bl pa p t ω x y τ r => by cases b1 <;> kernel_rfl, fun w b1 b2 bl pa p t ω x y τ r => by cases b1 <;> kernel_rfl, fun w b1 b2 bl pa p t ω x y τ r => by cases b1 <;> kernel_rfl, fun w b1 b2 bl pa p t ω x y τ r => by cases b1 <;> kernel_rfl, fun w b1 b2 bl pa p t ω x y τ r => by cases b1 <;> kernel_rfl, fun w b1 b2 bl pa p t ω x y τ r => by cases b1 <;> kernel_rfl, fun w b1 b2 bl pa p t ω x y τ r => by cases b1 <;> kernel_rfl⟩
theorem itg3 : ItOk 48 ∧ ItOk 49 ∧ ItOk 50 ∧ ItOk 51 ∧ ItOk 52 ∧ ItOk 53 ∧ ItOk 54 ∧ ItOk 55 ∧ ItOk 56 ∧ ItOk 57 ∧ ItOk 58 ∧ ItOk 59 ∧ ItOk 60 ∧ ItOk 61 ∧ ItOk 62 ∧ ItOk 63 := ⟨fun w b1 b2 bl pa p t ω x y τ r => by cases b1 <;> kernel_rfl, fun w b1 b2 bl pa p t ω x y τ r => by cases b1 <;> kernel_rfl, fun w b1 b2 bl pa p t ω x y τ r => by cases b1 <;> kernel_rfl, fun w b1 b2 bl pa p t ω x y τ r => by cases b1 <;> kernel_rfl, fun w b1 b2 bl pa p t ω x y τ r => by cases b1 <;> kernel_rfl, fun w b1 b2 bl pa p t ω x y τ r => by cases b1 <;> kernel_rfl, fun w b1 b2 bl pa p t ω x y τ r => by cases b1 <;> kernel_rfl, fun w b1 b2 bl pa p t ω x y τ r => by cases b1 <;> kernel_rfl, fun w b1 b2 bl pa p t ω x y τ r => by cases b1 <;> kernel_rfl, fun w b1 b2 bl pa p t ω x y τ r => by cases b1 <;> kernel_rfl, fun w b1 b2 bl pa p t ω x y τ r => by cases b1 <;> kernel_rfl, fun w b1 b2 bl pa p t ω x y τ r => by cases b1 <;> kernel_rfl, fun w b1 b2 bl pa p t ω x y τ r => by cases b1 <;> kernel_rfl, fun w b1 b2 bl pa p t ω x y τ r => by cases b1 <;> kernel_rfl, fun w b1 b2 bl pa p t ω x y τ r => by cases b1 <;> kernel_rfl, fun w b1 b2 bl pa p t ω x y τ r => by cases b1 <;> kernel_rfl⟩
theorem it_all : ∀ k < 64, ItOk k
  | 0, _ => itg0.1
  | 1, _ => itg0.2.1
  | 2, _ => itg0.2.2.1
  | 3, _ => itg0.2.2.2.1
  | 4, _ => itg0.2.2.2.2.1
  | 5, _ => itg0.2.2.2.2.2.1
  | 6, _ => itg0.2.2.2.2.2.2.1
  | 7, _ => itg0.2.2.2.2.2.2.2.1
  | 8, _ => itg0.2.2.2.2.2.2.2.2.1
  | 9, _ => itg0.2.2.2.2.2.2.2.2.2.1
  | 10, _ => itg0.2.2.2.2.2.2.2.2.2.2.1
  | 11, _ => itg0.2.2.2.2.2.2.2.2.2.2.2.1
  | 12, _ => itg0.2.2.2.2.2.2.2.2.2.2.2.2.1
  | 13, _ => itg0.2.2.2.2.2.2.2.2.2.2.2.2.2.1
  | 14, _ => itg0.2.2.2.2.2.2.2.2.2.2.2.2.2.2.1
  | 15, _ => itg0.2.2.2.2.2.2.2.2.2.2.2.2.2.2.2
  | 16, _ => itg1.1
  | 17, _ => itg1.2.1
  | 18, _ => itg1.2.2.1
  | 19, _ => itg1.2.2.2.1
  | 20, _ => itg1.2.2.2.2.1
  | 21, _ => itg1.2.2.2.2.2.1
  | 22, _ => itg1.2.2.2.2.2.2.1
  | 23, _ => itg1.2.2.2.2.2.2.2.1
  | 24, _ => itg1.2.2.2.2.2.2.2.2.1
  | 25, _ => itg1.2.2.2.2.2.2.2.2.2.1
  | 26, _ => itg1.2.2.2.2.2.2.2.2.2.2.1
  | 27, _ => itg1.2.2.2.2.2.2.2.2.2.2.2.1
  | 28, _ => itg1.2.2.2.2.2.2.2.2.2.2.2.2.1
  | 29, _ => itg1.2.2.2.2.2.2.2.2.2.2.2.2.2.1
  | 30, _ => itg1.2.2.2.2.2.2.2.2.2.2.2.2.2.2.1
  | 31, _ => itg1.2.2.2.2.2.2.2.2.2.2.2.2.2.2.2
  | 32, _ => itg2.1
  | 33, _ => itg2.2.1
  | 34, _ => itg2.2.2.1
  | 35, _ => itg2.2.2.2.1
  | 36, _ => itg2.2.2.2.2.1
  | 37, _ => itg2.2.2.2.2.2.1
  | 38, _ => itg2.2.2.2.2.2.2.1
  | 39, _ => itg2.2.2.2.2.2.2.2.1
  | 40, _ => itg2.2.2.2.2.2.2.2.2.1
  | 41, _ => itg2.2.2.2.2.2.2.2.2.2.1
  | 42, _ => itg2.2.2.2.2.2.2.2.2.2.2.1
  | 43, _ => itg2.2.2.2.2.2.2.2.2.2.2.2.1
  | 44, _ => itg2.2.2.2.2.2.2.2.2.2.2.2.2.1
  | 45, _ => itg2.2.2.2.2.2.2.2.2.2.2.2.2.2.1
  | 46, _ => itg2.2.2.2.2.2.2.2.2.2.2.2.2.2.2.1
  | 47, _ => itg2.2.2.2.2.2.2.2.2.2.2.2.2.2.2.2
  | 48, _ => itg3.1
  | 49, _ => itg3.2.1
  | 50, _ => itg3.2.2.1
  | 51, _ => itg3.2.2.2.1
  | 52, _ => itg3.2.2.2.2.1
  | 53, _ => itg3.2.2.2.2.2.1
  | 54, _ => itg3.2.2.2.2.2.2.1
  | 55, _ => itg3.2.2.2.2.2.2.2.1
  | 56, _ => itg3.2.2.2.2.2.2.2.2.1
  | 57, _ => itg3.2.2.2.2.2.2.2.2.2.1
  | 58, _ => itg3.2.2.2.2.2.2.2.2.2.2.1
  | 59, _ => itg3.2.2.2.2.2.2.2.2.2.2.2.1
  | 60, _ => itg3.2.2.2.2.2.2.2.2.2.2.2.2.1
  | 61, _ => itg3.2.2.2.2.2.2.2.2.2.2.2.2.2.1
  | 62, _ => itg3.2.2.2.2.2.2.2.2.2.2.2.2.2.2.1
  | 63, _ => itg3.2.2.2.2.2.2.2.2.2.2.2.2.2.2.2
  | k + 64, h => absurd h (by omega)
noncomputable def forIter2 (P : Params) : Expr := (for2 P).2.1
noncomputable def preV2 (t : Nat) : List Value := [.int 5 t, .int 8 (t + 1), .int 85 (t + 2), .int 88 (t + 3), .int 1368 (t + 4), .int 11 (t + 5)]
noncomputable def It2Ok : Prop := ∀ (w : World) (b1 b2 : Bool) (bl : List (Code × Pos)) (pa : Option Value) (p : Pos) (N t : Nat) (ω : Nat → Nat),
  Checks (evP w b1 b2 (.func (lawStmts (pp w b1 b2)) (envL (pp w b1 b2))) bl pa p (N + 300) t ω [] ((itTree (pp w b1 b2) (forIter2 (pp w b1 b2))).bind fun a => .pure (.done (.ret a))) [] [1,1,0,1,0,1]) [1, 0] (.ok (.ret (.ref (N + 300 + 1)))) [(N + 300, listV (preV2 (t + 2595)).toArray 0), (N + 300 + 1, itO (N + 300))] (N + 300 + 2) (t + 2595 + 6) []
theorem it2 : It2Ok := fun w b1 b2 bl pa p N t ω => by cases b1 <;> kernel_rfl
noncomputable def RetOk : Prop := ∀ (w : World) (b1 b2 : Bool) (bl : List (Code × Pos)) (pa : Option Value) (p : Pos) (b t : Nat) (ω : Nat → Nat),
  Checks (evP w b1 b2 (.func (lawStmts (pp w b1 b2)) (envL (pp w b1 b2))) bl pa p b t ω [] ((execs ((lawStmts (pp w b1 b2)).drop 7) (envL (pp w b1 b2))).bind fun f => .pure (.done f)) [] []) [] (.ok (.ret (.bool true))) [] b (t + 2595) []
theorem retOk : RetOk := fun w b1 b2 bl pa p b t ω => by cases b1 <;> kernel_rfl
section
variable (w : World) (b1 b2 : Bool) (cd : Code) (bl : List (Code × Pos)) (pa : Option Value) (p : Pos) (N t : Nat) (ω : Nat → Nat) (x : Nat → Int) (y τ α ε : Nat → Nat) (σ : Nat → Str) (X : Array Value) (q1 q2 : Pos)
include w b1 b2 cd bl pa p N t ω x y τ α ε σ X q1 q2
noncomputable def pro0_0hx0 (y : Nat → Nat) : List Nat := [1,1,1,4,1,4,0,4,0,1,4,1,0,4,1,4,1,0,0,0,0,0,0,0,0,0,0,0,0,0,0,0,0,0,0,0,0,0,0,0,0,0,0,0,0,0,0,1,0,1,0,0,0,0,0,0,0,0,1,1,1,1,0,0,1,2,2,0,0,2,0,0,1,0,0,2,2,3,0,0,0,0,3,0,0,3,0,3,0,0,0,3,0,4,4,4,2,1,1,0,1,0,1,0,1,0,1,0,1,1,2,1,1,1,0,9,9,11,0,0,1,0,0,1,1,0,1,0,1,12,12,13,13]
noncomputable def pro0_0h (y : Nat → Nat) : List Nat := pro0_0hx0 y
theorem pro0_0 : Checks (evP w b1 b2 (.func (lawStmts (pp w b1 b2)) (envL (pp w b1 b2))) [(.builtin "claim.caller" {}, q2)] pa p 284 t ω [] ((execs ((lawStmts (pp w b1 b2)).take 5) (envL (pp w b1 b2))).bind fun f => .pure (.done f)) [(282, frM (pp w b1 b2) (frKeys.take 1) τ [.ref 281]), (283, cell0), (281, listV #[] 0)] (pro0_0h y)) [12, 13, 14, 9, 1, 0, 10, 3, 7] (.ok .next) [(282, ⟨(.type "frame"), none, (.dict ⟨[⟨PyData.keyHash (pp w b1 b2) (⟨#[115, 99, 114, 105, 112, 116]⟩ : Str), (.str (⟨#[115, 99, 114, 105, 112, 116]⟩ : Str) (τ 0)), (.ref 281)⟩, ⟨PyData.keyHash (pp w b1 b2) (⟨#[114, 111, 111, 109]⟩ : Str), (.str (⟨#[114, 111, 111, 109]⟩ : Str) (t + 2595 + 1)), (.int (2) (t + 2595))⟩, ⟨PyData.keyHash (pp w b1 b2) (⟨#[102, 101, 119]⟩ : Str), (.str (⟨#[102, 101, 119]⟩ : Str) (t + 2595 + 7)), (.ref 286)⟩, ⟨PyData.keyHash (pp w b1 b2) (⟨#[112, 108, 97, 99, 101, 115]⟩ : Str), (.str (⟨#[112, 108, 97, 99, 101, 115]⟩ : Str) (t + 2595 + 12)), (.ref 294)⟩, ⟨PyData.keyHash (pp w b1 b2) (⟨#[115, 97, 105, 100]⟩ : Str), (.str (⟨#[115, 97, 105, 100]⟩ : Str) (t + 2595 + 13)), (.ref 295)⟩]⟩ 5), ⟨[]⟩⟩), (283, ⟨(.type "cell"), none, (.cell none), ⟨[]⟩⟩), (281, listV #[] 0), (286, ⟨(.ref 171), (some 285), .plain, ⟨[]⟩⟩), (294, ⟨(.type "list"), none, (.seq ⟨[(.ref 292), (.ref 292), (.ref 292)]⟩ 0), ⟨[]⟩⟩), (295, ⟨(.type "list"), none, (.seq ⟨[]⟩ 0), ⟨[]⟩⟩), (285, ⟨(.type "dict"), none, (.dict ⟨[⟨PyData.keyHash (pp w b1 b2) (⟨#[95, 104, 101, 97, 100, 101, 114, 115]⟩ : Str), (.str (⟨#[95, 104, 101, 97, 100, 101, 114, 115]⟩ : Str) (t + 2595 + 6)), (.ref 288)⟩]⟩ 1), ⟨[]⟩⟩), (292, ⟨(.type "tuple"), none, (.seq ⟨[(.int (0) (t + 2595 + 8)), (.int (0) (t + 2595 + 9))]⟩ 0), ⟨[]⟩⟩), (288, ⟨(.type "list"), none, (.seq ⟨[]⟩ 0), ⟨[]⟩⟩)] 296 (t + 2595 + 14) [] := by
  cases b1 <;> kernel_rfl
noncomputable def pro1_0hx0 (y : Nat → Nat) : List Nat := [1,1,1,4,1,4,0,4,0,1,4,1,2,4,4,4,0,4,0,4,0,9,0,0,0,2,2,0,0,0,0,0,0,0,0,0,0,0,0,0,0,0,0,0,0,0,0,0,0,0,0,0,0,0,0,0,0,1,0,1,0,0,0,0,0,0,0,0,1,1,1,1,0,0,1,2,2,0,0,2,0,0,1,0,0,2,2,3,0,0,0,0,3,0,0,3,0,3,0,0,0,3,0,4,4,4,2,1,1,0,1,0,1,0,1,0,1,0,1,1,2,1,1,1,0,9,9,11,0,0,1,0,0,1,1,0,1,0,1,12,12,13,13]
noncomputable def pro1_0h (y : Nat → Nat) : List Nat := pro1_0hx0 y
theorem pro1_0 : Checks (evP w b1 b2 (.func (lawStmts (pp w b1 b2)) (envL (pp w b1 b2))) [(.builtin "claim.caller" {}, q2)] pa p 284 t ω [] ((execs ((lawStmts (pp w b1 b2)).take 5) (envL (pp w b1 b2))).bind fun f => .pure (.done f)) [(282, frM (pp w b1 b2) (frKeys.take 1) τ [.ref 281]), (283, cell0), (281, listV ⟨(.int (x 24) (τ 50)) :: X.toList⟩ 0)] (pro1_0h y)) [12, 13, 14, 9, 1, 0, 10, 3, 7] (.ok .next) [(282, ⟨(.type "frame"), none, (.dict ⟨[⟨PyData.keyHash (pp w b1 b2) (⟨#[115, 99, 114, 105, 112, 116]⟩ : Str), (.str (⟨#[115, 99, 114, 105, 112, 116]⟩ : Str) (τ 0)), (.ref 281)⟩, ⟨PyData.keyHash (pp w b1 b2) (⟨#[114, 111, 111, 109]⟩ : Str), (.str (⟨#[114, 111, 111, 109]⟩ : Str) (t + 2595 + 1)), (.int (1) (t + 2595 + 6))⟩, ⟨PyData.keyHash (pp w b1 b2) (⟨#[102, 101, 119]⟩ : Str), (.str (⟨#[102, 101, 119]⟩ : Str) (t + 2595 + 13)), (.ref 286)⟩, ⟨PyData.keyHash (pp w b1 b2) (⟨#[112, 108, 97, 99, 101, 115]⟩ : Str), (.str (⟨#[112, 108, 97, 99, 101, 115]⟩ : Str) (t + 2595 + 18)), (.ref 294)⟩, ⟨PyData.keyHash (pp w b1 b2) (⟨#[115, 97, 105, 100]⟩ : Str), (.str (⟨#[115, 97, 105, 100]⟩ : Str) (t + 2595 + 19)), (.ref 295)⟩]⟩ 5), ⟨[]⟩⟩), (283, ⟨(.type "cell"), none, (.cell none), ⟨[]⟩⟩), (281, listV ⟨(.int (x 24) (τ 50)) :: X.toList⟩ 0), (286, ⟨(.ref 171), (some 285), .plain, ⟨[]⟩⟩), (294, ⟨(.type "list"), none, (.seq ⟨[(.ref 292), (.ref 292)]⟩ 0), ⟨[]⟩⟩), (295, ⟨(.type "list"), none, (.seq ⟨[]⟩ 0), ⟨[]⟩⟩), (285, ⟨(.type "dict"), none, (.dict ⟨[⟨PyData.keyHash (pp w b1 b2) (⟨#[95, 104, 101, 97, 100, 101, 114, 115]⟩ : Str), (.str (⟨#[95, 104, 101, 97, 100, 101, 114, 115]⟩ : Str) (t + 2595 + 12)), (.ref 288)⟩]⟩ 1), ⟨[]⟩⟩), (292, ⟨(.type "tuple"), none, (.seq ⟨[(.int (0) (t + 2595 + 14)), (.int (0) (t + 2595 + 15))]⟩ 0), ⟨[]⟩⟩), (288, ⟨(.type "list"), none, (.seq ⟨[]⟩ 0), ⟨[]⟩⟩)] 296 (t + 2595 + 20) [(((3 : Int) == 0) = false ∧ Int.fmod (x 24) 3 = Int.ofNat 0)] := by
  cases b1 <;> kernel_rfl
noncomputable def pro1_1hx0 (y : Nat → Nat) : List Nat := [1,1,1,4,1,4,0,4,0,1,4,1,2,4,4,4,0,4,0,4,0,9,1,0,0,2,2,0,0,0,0,0,0,0,0,0,0,0,0,0,0,0,0,0,0,0,0,0,0,0,0,0,0,0,0,0,0,1,0,1,0,0,0,0,0,0,0,0,1,1,1,1,0,0,1,2,2,0,0,2,0,0,1,0,0,2,2,3,0,0,0,0,3,0,0,3,0,3,0,0,0,3,0,4,4,4,2,1,1,0,1,0,1,0,1,0,1,0,1,1,2,1,1,1,0,9,9,11,0,0,1,0,0,1,1,0,1,0,1,12,12,13,13]
noncomputable def pro1_1h (y : Nat → Nat) : List Nat := pro1_1hx0 y
theorem pro1_1 : Checks (evP w b1 b2 (.func (lawStmts (pp w b1 b2)) (envL (pp w b1 b2))) [(.builtin "claim.caller" {}, q2)] pa p 284 t ω [] ((execs ((lawStmts (pp w b1 b2)).take 5) (envL (pp w b1 b2))).bind fun f => .pure (.done f)) [(282, frM (pp w b1 b2) (frKeys.take 1) τ [.ref 281]), (283, cell0), (281, listV ⟨(.int (x 24) (τ 50)) :: X.toList⟩ 0)] (pro1_1h y)) [12, 13, 14, 9, 1, 0, 10, 3, 7] (.ok .next) [(282, ⟨(.type "frame"), none, (.dict ⟨[⟨PyData.keyHash (pp w b1 b2) (⟨#[115, 99, 114, 105, 112, 116]⟩ : Str), (.str (⟨#[115, 99, 114, 105, 112, 116]⟩ : Str) (τ 0)), (.ref 281)⟩, ⟨PyData.keyHash (pp w b1 b2) (⟨#[114, 111, 111, 109]⟩ : Str), (.str (⟨#[114, 111, 111, 109]⟩ : Str) (t + 2595 + 1)), (.int (2) (t + 2595 + 6))⟩, ⟨PyData.keyHash (pp w b1 b2) (⟨#[102, 101, 119]⟩ : Str), (.str (⟨#[102, 101, 119]⟩ : Str) (t + 2595 + 13)), (.ref 286)⟩, ⟨PyData.keyHash (pp w b1 b2) (⟨#[112, 108, 97, 99, 101, 115]⟩ : Str), (.str (⟨#[112, 108, 97, 99, 101, 115]⟩ : Str) (t + 2595 + 18)), (.ref 294)⟩, ⟨PyData.keyHash (pp w b1 b2) (⟨#[115, 97, 105, 100]⟩ : Str), (.str (⟨#[115, 97, 105, 100]⟩ : Str) (t + 2595 + 19)), (.ref 295)⟩]⟩ 5), ⟨[]⟩⟩), (283, ⟨(.type "cell"), none, (.cell none), ⟨[]⟩⟩), (281, listV ⟨(.int (x 24) (τ 50)) :: X.toList⟩ 0), (286, ⟨(.ref 171), (some 285), .plain, ⟨[]⟩⟩), (294, ⟨(.type "list"), none, (.seq ⟨[(.ref 292), (.ref 292), (.ref 292)]⟩ 0), ⟨[]⟩⟩), (295, ⟨(.type "list"), none, (.seq ⟨[]⟩ 0), ⟨[]⟩⟩), (285, ⟨(.type "dict"), none, (.dict ⟨[⟨PyData.keyHash (pp w b1 b2) (⟨#[95, 104, 101, 97, 100, 101, 114, 115]⟩ : Str), (.str (⟨#[95, 104, 101, 97, 100, 101, 114, 115]⟩ : Str) (t + 2595 + 12)), (.ref 288)⟩]⟩ 1), ⟨[]⟩⟩), (292, ⟨(.type "tuple"), none, (.seq ⟨[(.int (0) (t + 2595 + 14)), (.int (0) (t + 2595 + 15))]⟩ 0), ⟨[]⟩⟩), (288, ⟨(.type "list"), none, (.seq ⟨[]⟩ 0), ⟨[]⟩⟩)] 296 (t + 2595 + 20) [(((3 : Int) == 0) = false ∧ Int.fmod (x 24) 3 = Int.ofNat 1)] := by
  cases b1 <;> kernel_rfl
noncomputable def pro1_2hx0 (y : Nat → Nat) : List Nat := [1,1,1,4,1,4,0,4,0,1,4,1,2,4,4,4,0,4,0,4,0,9,2,0,0,2,2,0,0,0,0,0,0,0,0,0,0,0,0,0,0,0,0,0,0,0,0,0,0,0,0,0,0,0,0,0,0,1,0,1,0,0,0,0,0,0,0,0,1,1,1,1,0,0,1,2,2,0,0,2,0,0,1,0,0,2,2,3,0,0,0,0,3,0,0,3,0,3,0,0,0,3,0,4,4,4,2,1,1,0,1,0,1,0,1,0,1,0,1,1,2,1,1,1,0,9,9,11,0,0,1,0,0,1,1,0,1,0,1,12,12,13,13]
noncomputable def pro1_2h (y : Nat → Nat) : List Nat := pro1_2hx0 y
theorem pro1_2 : Checks (evP w b1 b2 (.func (lawStmts (pp w b1 b2)) (envL (pp w b1 b2))) [(.builtin "claim.caller" {}, q2)] pa p 284 t ω [] ((execs ((lawStmts (pp w b1 b2)).take 5) (envL (pp w b1 b2))).bind fun f => .pure (.done f)) [(282, frM (pp w b1 b2) (frKeys.take 1) τ [.ref 281]), (283, cell0), (281, listV ⟨(.int (x 24) (τ 50)) :: X.toList⟩ 0)] (pro1_2h y)) [12, 13, 14, 9, 1, 0, 10, 3, 7] (.ok .next) [(282, ⟨(.type "frame"), none, (.dict ⟨[⟨PyData.keyHash (pp w b1 b2) (⟨#[115, 99, 114, 105, 112, 116]⟩ : Str), (.str (⟨#[115, 99, 114, 105, 112, 116]⟩ : Str) (τ 0)), (.ref 281)⟩, ⟨PyData.keyHash (pp w b1 b2) (⟨#[114, 111, 111, 109]⟩ : Str), (.str (⟨#[114, 111, 111, 109]⟩ : Str) (t + 2595 + 1)), (.int (3) (t + 2595 + 6))⟩, ⟨PyData.keyHash (pp w b1 b2) (⟨#[102, 101, 119]⟩ : Str), (.str (⟨#[102, 101, 119]⟩ : Str) (t + 2595 + 13)), (.ref 286)⟩, ⟨PyData.keyHash (pp w b1 b2) (⟨#[112, 108, 97, 99, 101, 115]⟩ : Str), (.str (⟨#[112, 108, 97, 99, 101, 115]⟩ : Str) (t + 2595 + 18)), (.ref 294)⟩, ⟨PyData.keyHash (pp w b1 b2) (⟨#[115, 97, 105, 100]⟩ : Str), (.str (⟨#[115, 97, 105, 100]⟩ : Str) (t + 2595 + 19)), (.ref 295)⟩]⟩ 5), ⟨[]⟩⟩), (283, ⟨(.type "cell"), none, (.cell none), ⟨[]⟩⟩), (281, listV ⟨(.int (x 24) (τ 50)) :: X.toList⟩ 0), (286, ⟨(.ref 171), (some 285), .plain, ⟨[]⟩⟩), (294, ⟨(.type "list"), none, (.seq ⟨[(.ref 292), (.ref 292), (.ref 292), (.ref 292)]⟩ 0), ⟨[]⟩⟩), (295, ⟨(.type "list"), none, (.seq ⟨[]⟩ 0), ⟨[]⟩⟩), (285, ⟨(.type "dict"), none, (.dict ⟨[⟨PyData.keyHash (pp w b1 b2) (⟨#[95, 104, 101, 97, 100, 101, 114, 115]⟩ : Str), (.str (⟨#[95, 104, 101, 97, 100, 101, 114, 115]⟩ : Str) (t + 2595 + 12)), (.ref 288)⟩]⟩ 1), ⟨[]⟩⟩), (292, ⟨(.type "tuple"), none, (.seq ⟨[(.int (0) (t + 2595 + 14)), (.int (0) (t + 2595 + 15))]⟩ 0), ⟨[]⟩⟩), (288, ⟨(.type "list"), none, (.seq ⟨[]⟩ 0), ⟨[]⟩⟩)] 296 (t + 2595 + 20) [(((3 : Int) == 0) = false ∧ Int.fmod (x 24) 3 = Int.ofNat 2)] := by
  cases b1 <;> kernel_rfl
end
structure HoldP (E : R.World0) (T K : Cells) (b t : Nat) (s : Shared) : Prop where
  rep : R.Rep E ⟨T, b, 0, t + 2595, 0⟩ s
  tup : ∀ x ∈ K, s.heap.get? x.1 = some x.2 ∧ R.frozen x.2 = true
theorem HoldP.sub {E : R.World0} {T K T2 K2 : Cells} {b t : Nat} {s : Shared} (D : HoldP E T K b t s) (hT : ∀ x ∈ T2, x ∈ T) (hn : (T2.map (·.1)).Nodup) (hK : ∀ x ∈ K2, x ∈ K ∨ (x ∈ T ∧ R.frozen x.2 = true)) : HoldP E T2 K2 b t s :=
  ⟨D.rep.of_mem hT hn, fun x hx => by
    rcases hK x hx with h | ⟨h, hf⟩
    · exact D.tup x h
    · exact ⟨D.rep.cell x h, hf⟩⟩
theorem seg_useP {w : World} {E : R.World0} (HE : EOk w E) {B : Nat} (hB : B + 320 ≤ 990) {T0 K0 T K : Cells} {b t : Nat} {s : Shared} (D : HoldP E T0 K0 b t s) (hT : ∀ x ∈ T, x ∈ T0) (hn : (T.map (·.1)).Nodup) (hK : ∀ x ∈ K, x ∈ K0) (hfz : ∀ x ∈ T, R.frozen x.2 = false)
    {α : Type} {m : Sem α} {f : α → Flow} {Γ : Ctx} {p : Pos} {hs idx : List Nat} {r : Flow} {T' : (Nat → Nat) → Cells} {N' t' : (Nat → Nat) → Nat} {cs : (Nat → Nat) → List Prop} (hΓ : R.COk B Γ 20)
    (h : ∀ ω, Checks (R.ev (FW w K (Rb K)) 1000000 20 Γ p (m.bind fun a => .pure (.done (f a))) [] ⟨T, b, 0, t + 2595, 0⟩ hs ω [] []) idx (.ok r) (T' ω) (N' ω) (t' ω) (cs ω)) (hi : idx.Nodup) (hc : ∀ ω, ∀ q ∈ cs ω, q) :
    Sem.wp E.M Γ m (fun a _ s' => f a = r ∧ ∃ ω t1, HoldP E (T' ω ++ restOf T0 T) K0 (N' ω) t1 s') (fun _ _ _ => False) p s := by
  have D0 : R.Rep (E.at s K (T.map (·.1))) ⟨T, b, 0, t + 2595, 0⟩ s := D.rep.at (fun x hx => D.tup x (hK x hx)) hT hn
  have HE' : EOk w (E.at s K (T.map (·.1))) := ⟨HE.M, HE.kt, HE.t0⟩
  have H : R.Fits (E.at s K (T.map (·.1))) (FW w K (Rb K)) B := fitsW HE' (by omega) rfl (Rb_valid HE' hB rfl)
  have z := R.seg_wp H hΓ (r := fun _ => .ok r) h hi hc D0
  refine Sem.wp_mono _ _ _ (fun a p' s' h' => ?_) (fun e p' s' h' => ?_) _ _ z
  · obtain ⟨ω, e, D1⟩ := h'
    refine ⟨by injection e, ω, ?_⟩
    have D2 := D.rep.back (T2 := restOf T0 T) hT D1 (fun x hx => mem_rest.mp hx) (by
      have hs : ((restOf T0 T).map (·.1)).Sublist (T0.map (·.1)) := (List.filter_sublist).map _
      exact hs.nodup D.rep.nodup) hfz
    have htk : E.t0 ≤ t' ω + 0 := D1.told
    rw [HE.t0] at htk
    refine ⟨t' ω - 2595, ?_, ?_⟩
    · exact ⟨D2.size, by rw [D2.toks]; show t' ω + 0 = t' ω - 2595 + 2595 + 0; omega, D2.cell, D2.nodup, D2.own, D2.known, D2.keep, D2.low, D2.old, D2.gens, D2.drawn, D2.os, D2.froz, by show E.t0 ≤ t' ω - 2595 + 2595 + 0; rw [HE.t0]; omega⟩
    · intro x hx
      obtain ⟨q1, q2⟩ := D.tup x hx
      refine ⟨D1.keep _ _ q1 fun hm => ?_, q2⟩
      obtain ⟨y, hy, e⟩ := List.mem_map.mp hm
      have c := D.rep.cell y (hT y hy)
      rw [e, q1] at c
      rw [Option.some.inj c, hfz y hy] at q2
      cases q2
  · obtain ⟨ω, e, _⟩ := h'
    cases e
theorem HoldP.toHold {E : R.World0} {T K : Cells} {N t : Nat} {s : Shared} (D : HoldP E T K (N + 301) t s) : Hold E T K N t s := ⟨D.rep, D.tup⟩
theorem execs_one {M : Model} {Γ : Ctx} {env : Env} {st : Stmt} {Q : Shared → Prop} {p : Pos} {s : Shared} (h : Sem.wp M Γ (exec st env) (fun f _ s' => f = .next ∧ Q s') (fun _ _ _ => False) p s) :
    Sem.wp M Γ (execs [st] env) (fun f _ s' => f = .next ∧ Q s') (fun _ _ _ => False) p s := by
  have e1 : execs [st] env = (exec st env >>= fun f => match f with | .next => execs [] env | f => pure f) := rfl
  rw [e1, Sem.wp_bind']
  refine Sem.wp_mono _ _ _ (fun f p' s' h' => ?_) (fun _ _ _ h => h) _ _ h
  obtain ⟨rfl, h'⟩ := h'
  show Sem.wp M Γ (Sem.pure Flow.next) _ _ p' s'
  rw [Sem.wp_pure]
  exact ⟨rfl, h'⟩
theorem for_stmt {M : Model} {Γ : Ctx} {target iter : Expr} {body orelse : List Stmt} {pos : Pos} {env : Env} {Q : Shared → Prop} {p : Pos} {s : Shared}
    (h : ∀ p, Sem.wp M Γ ((eval iter env >>= fun v => foldedSetIterable iter env v) >>= fun x => standAt iter.pos >>= fun _ => holding [x] (pyIter x))
      (fun it p' s' => wpCode M (Γ.enter (.forLoop target it body orelse env) none p') (fun r s2 => r = .ok .next ∧ Q s2) p' s') (fun _ _ _ => False) p s) :
    Sem.wp M Γ (exec (.For target iter body orelse pos) env) (fun f _ s' => f = .next ∧ Q s') (fun _ _ _ => False) p s := by
  rw [arm_exec_For, Sem.wp_bind']
  show Sem.wp _ _ _ _ _ pos s
  have z := h pos
  rw [Sem.wp_bind', Sem.wp_bind'] at z
  have key : ∀ it p' s', wpCode M (Γ.enter (.forLoop target it body orelse env) none p') (fun r s2 => r = .ok .next ∧ Q s2) p' s' →
      Sem.wp M Γ (runOwn (.forLoop target it body orelse env) env) (fun f _ s' => f = .next ∧ Q s') (fun _ _ _ => False) p' s' := by
    intro it p' s' hw
    unfold runOwn
    rw [Sem.wp_onRaise]
    unfold run
    rw [Sem.wp_call]
    refine wpCode_mono ?_ hw
    rintro r s2 ⟨rfl, hq⟩
    show Sem.wp M Γ (Sem.pure Flow.next) _ _ p' s2
    rw [Sem.wp_pure]
    exact ⟨rfl, hq⟩
  show Sem.wp _ _ (Sem.pure ()) _ _ pos s
  rw [Sem.wp_pure, Sem.wp_bind']
  refine Sem.wp_mono _ _ _ (fun v p' s' h' => ?_) (fun _ _ _ h => h) _ _ z
  rw [Sem.wp_bind']
  refine Sem.wp_mono _ _ _ (fun x p2 s2 h2 => ?_) (fun _ _ _ h => h) _ _ h'
  rw [Sem.wp_bind'] at h2 ⊢
  refine Sem.wp_mono _ _ _ (fun _ p3 s3 h3 => ?_) (fun _ _ _ h => h) _ _ h2
  rw [Sem.wp_bind']
  refine Sem.wp_mono _ _ _ (fun it p4 s4 h4 => ?_) (fun _ _ _ h => h) _ _ h3
  exact key it p4 s4 h4
noncomputable abbrev cdF (P : Params) : Code := .func (lawStmts P) (envL P)
noncomputable def T0c (P : Params) (τ : Nat → Nat) (o3 : Obj) : Cells := [(282, frM P (frKeys.take 1) τ [.ref 281]), (283, cell0), (281, o3)]
noncomputable def T5c (P : Params) (τ : Nat → Nat) (r : Int) (dt m u0 u1 : Nat) (o3 : Obj) : Cells :=
  [(282, fr5 P τ r), (283, cell0), (285, dictF P dt), (286, instF), (288, listV #[] 0), (294, listV (List.replicate m (Value.ref 292)).toArray 0), (295, listV #[] 0), (281, o3), (292, R.tupO 0 u0 0 u1)]
theorem T5c_nodup (P : Params) (τ : Nat → Nat) (r : Int) (dt m u0 u1 : Nat) (o3 : Obj) : ((T5c P τ r dt m u0 u1 o3).map (·.1)).Nodup := by
  show ([282, 283, 285, 286, 288, 294, 295, 281, 292] : List Nat).Nodup
  decide
theorem pro0_0u {w : World} {b1 b2 : Bool} {E : R.World0} (HEo : EOk (wb w b1 b2) E) {B : Nat} (hB : B + 320 ≤ 990) {pa : Option Value} {q2 : Pos} (hΓ : R.COk B ⟨cdF (pp w b1 b2), none, none, [(.builtin "claim.caller" {}, q2)], pa⟩ 20) {p : Pos} {t : Nat} {s : Shared} {τ0 : Nat → Nat} {X : Array Value} {n0 : Int} {v0 : Nat}
    (D : HoldP E (T0c (pp w b1 b2) τ0 (listV #[] 0)) [] 284 t s) :
    Sem.wp E.M ⟨cdF (pp w b1 b2), none, none, [(.builtin "claim.caller" {}, q2)], pa⟩ (execs ((lawStmts (pp w b1 b2)).take 5) (envL (pp w b1 b2))) (fun f _ s' => f = .next ∧ ∃ τ dt u0 u1 t1, HoldP E (T5c (pp w b1 b2) τ 2 dt 3 u0 u1 (listV #[] 0)) [] 296 t1 s') (fun _ _ _ => False) p s := by
  let y : Nat → Nat := fun _ => 0
  let α : Nat → Nat := fun _ => 0
  let τ : Nat → Nat := fnL [(50, v0)] τ0
  let ε : Nat → Nat := fun _ => 0
  let x : Nat → Int := fnL [(24, n0)] fun _ => 0
  let σ : Nat → Str := fun _ => ⟨#[]⟩
  have w1 := seg_useP HEo hB D (K := []) (T := [(282, frM (pp w b1 b2) (frKeys.take 1) τ [.ref 281]), (283, cell0), (281, (listV #[] 0))])
    (ac (.head _) (ac (.tail _ (.head _)) (ac (.tail _ (.tail _ (.head _))) an))) (show ([282, 283, 281] : List Nat).Nodup by decide)
    (fun _ h => nomatch h) (ac rfl (ac rfl (ac rfl an))) hΓ (fun ω => pro0_0 w b1 b2 (cdF (pp w b1 b2)) [] pa p 0 t ω x y τ α ε σ X p q2) (by decide)
    (fun ω => fun _ h => nomatch h)
  refine Sem.wp_mono _ _ _ (fun f p' s' h' => ?_) (fun _ _ _ h => h) _ _ w1
  obtain ⟨hf, ω, t1, D1⟩ := h'
  exact ⟨hf, fnL [(0, τ0 0), (1, (t + 2595 + 1)), (2, (t + 2595)), (3, (t + 2595 + 7)), (4, (t + 2595 + 12)), (5, (t + 2595 + 13))] fun _ => 0, (t + 2595 + 6), (t + 2595 + 8), (t + 2595 + 9), t1, D1.sub (ac (List.mem_append_left _ (.head _)) (ac (List.mem_append_left _ (.tail _ (.head _))) (ac (List.mem_append_left _ (.tail _ (.tail _ (.tail _ (.tail _ (.tail _ (.tail _ (.head _)))))))) (ac (List.mem_append_left _ (.tail _ (.tail _ (.tail _ (.head _))))) (ac (List.mem_append_left _ (.tail _ (.tail _ (.tail _ (.tail _ (.tail _ (.tail _ (.tail _ (.tail _ (.head _)))))))))) (ac (List.mem_append_left _ (.tail _ (.tail _ (.tail _ (.tail _ (.head _)))))) (ac (List.mem_append_left _ (.tail _ (.tail _ (.tail _ (.tail _ (.tail _ (.head _))))))) (ac (List.mem_append_left _ (.tail _ (.tail _ (.head _)))) (ac (List.mem_append_left _ (.tail _ (.tail _ (.tail _ (.tail _ (.tail _ (.tail _ (.tail _ (.head _))))))))) an))))))))) (T5c_nodup _ _ _ _ _ _ _ _) (fun _ h => nomatch h)⟩
theorem pro1_0u {w : World} {b1 b2 : Bool} {E : R.World0} (HEo : EOk (wb w b1 b2) E) {B : Nat} (hB : B + 320 ≤ 990) {pa : Option Value} {q2 : Pos} (hΓ : R.COk B ⟨cdF (pp w b1 b2), none, none, [(.builtin "claim.caller" {}, q2)], pa⟩ 20) {p : Pos} {t : Nat} {s : Shared} {τ0 : Nat → Nat} {X : Array Value} {n0 : Int} {v0 : Nat} (h0 : Int.fmod n0 3 = Int.ofNat 0)
    (D : HoldP E (T0c (pp w b1 b2) τ0 (listV ⟨(.int n0 v0) :: X.toList⟩ 0)) [] 284 t s) :
    Sem.wp E.M ⟨cdF (pp w b1 b2), none, none, [(.builtin "claim.caller" {}, q2)], pa⟩ (execs ((lawStmts (pp w b1 b2)).take 5) (envL (pp w b1 b2))) (fun f _ s' => f = .next ∧ ∃ τ dt u0 u1 t1, HoldP E (T5c (pp w b1 b2) τ 1 dt 2 u0 u1 (listV ⟨(.int n0 v0) :: X.toList⟩ 0)) [] 296 t1 s') (fun _ _ _ => False) p s := by
  let y : Nat → Nat := fun _ => 0
  let α : Nat → Nat := fun _ => 0
  let τ : Nat → Nat := fnL [(50, v0)] τ0
  let ε : Nat → Nat := fun _ => 0
  let x : Nat → Int := fnL [(24, n0)] fun _ => 0
  let σ : Nat → Str := fun _ => ⟨#[]⟩
  have w1 := seg_useP HEo hB D (K := []) (T := [(282, frM (pp w b1 b2) (frKeys.take 1) τ [.ref 281]), (283, cell0), (281, (listV ⟨(.int n0 v0) :: X.toList⟩ 0))])
    (ac (.head _) (ac (.tail _ (.head _)) (ac (.tail _ (.tail _ (.head _))) an))) (show ([282, 283, 281] : List Nat).Nodup by decide)
    (fun _ h => nomatch h) (ac rfl (ac rfl (ac rfl an))) hΓ (fun ω => pro1_0 w b1 b2 (cdF (pp w b1 b2)) [] pa p 0 t ω x y τ α ε σ X p q2) (by decide)
    (fun ω => ac ⟨rfl, h0⟩ an)
  refine Sem.wp_mono _ _ _ (fun f p' s' h' => ?_) (fun _ _ _ h => h) _ _ w1
  obtain ⟨hf, ω, t1, D1⟩ := h'
  exact ⟨hf, fnL [(0, τ0 0), (1, (t + 2595 + 1)), (2, (t + 2595 + 6)), (3, (t + 2595 + 13)), (4, (t + 2595 + 18)), (5, (t + 2595 + 19))] fun _ => 0, (t + 2595 + 12), (t + 2595 + 14), (t + 2595 + 15), t1, D1.sub (ac (List.mem_append_left _ (.head _)) (ac (List.mem_append_left _ (.tail _ (.head _))) (ac (List.mem_append_left _ (.tail _ (.tail _ (.tail _ (.tail _ (.tail _ (.tail _ (.head _)))))))) (ac (List.mem_append_left _ (.tail _ (.tail _ (.tail _ (.head _))))) (ac (List.mem_append_left _ (.tail _ (.tail _ (.tail _ (.tail _ (.tail _ (.tail _ (.tail _ (.tail _ (.head _)))))))))) (ac (List.mem_append_left _ (.tail _ (.tail _ (.tail _ (.tail _ (.head _)))))) (ac (List.mem_append_left _ (.tail _ (.tail _ (.tail _ (.tail _ (.tail _ (.head _))))))) (ac (List.mem_append_left _ (.tail _ (.tail _ (.head _)))) (ac (List.mem_append_left _ (.tail _ (.tail _ (.tail _ (.tail _ (.tail _ (.tail _ (.tail _ (.head _))))))))) an))))))))) (T5c_nodup _ _ _ _ _ _ _ _) (fun _ h => nomatch h)⟩
theorem pro1_1u {w : World} {b1 b2 : Bool} {E : R.World0} (HEo : EOk (wb w b1 b2) E) {B : Nat} (hB : B + 320 ≤ 990) {pa : Option Value} {q2 : Pos} (hΓ : R.COk B ⟨cdF (pp w b1 b2), none, none, [(.builtin "claim.caller" {}, q2)], pa⟩ 20) {p : Pos} {t : Nat} {s : Shared} {τ0 : Nat → Nat} {X : Array Value} {n0 : Int} {v0 : Nat} (h0 : Int.fmod n0 3 = Int.ofNat 1)
    (D : HoldP E (T0c (pp w b1 b2) τ0 (listV ⟨(.int n0 v0) :: X.toList⟩ 0)) [] 284 t s) :
    Sem.wp E.M ⟨cdF (pp w b1 b2), none, none, [(.builtin "claim.caller" {}, q2)], pa⟩ (execs ((lawStmts (pp w b1 b2)).take 5) (envL (pp w b1 b2))) (fun f _ s' => f = .next ∧ ∃ τ dt u0 u1 t1, HoldP E (T5c (pp w b1 b2) τ 2 dt 3 u0 u1 (listV ⟨(.int n0 v0) :: X.toList⟩ 0)) [] 296 t1 s') (fun _ _ _ => False) p s := by
  let y : Nat → Nat := fun _ => 0
  let α : Nat → Nat := fun _ => 0
  let τ : Nat → Nat := fnL [(50, v0)] τ0
  let ε : Nat → Nat := fun _ => 0
  let x : Nat → Int := fnL [(24, n0)] fun _ => 0
  let σ : Nat → Str := fun _ => ⟨#[]⟩
  have w1 := seg_useP HEo hB D (K := []) (T := [(282, frM (pp w b1 b2) (frKeys.take 1) τ [.ref 281]), (283, cell0), (281, (listV ⟨(.int n0 v0) :: X.toList⟩ 0))])
    (ac (.head _) (ac (.tail _ (.head _)) (ac (.tail _ (.tail _ (.head _))) an))) (show ([282, 283, 281] : List Nat).Nodup by decide)
    (fun _ h => nomatch h) (ac rfl (ac rfl (ac rfl an))) hΓ (fun ω => pro1_1 w b1 b2 (cdF (pp w b1 b2)) [] pa p 0 t ω x y τ α ε σ X p q2) (by decide)
    (fun ω => ac ⟨rfl, h0⟩ an)
  refine Sem.wp_mono _ _ _ (fun f p' s' h' => ?_) (fun _ _ _ h => h) _ _ w1
  obtain ⟨hf, ω, t1, D1⟩ := h'
  exact ⟨hf, fnL [(0, τ0 0), (1, (t + 2595 + 1)), (2, (t + 2595 + 6)), (3, (t + 2595 + 13)), (4, (t + 2595 + 18)), (5, (t + 2595 + 19))] fun _ => 0, (t + 2595 + 12), (t + 2595 + 14), (t + 2595 + 15), t1, D1.sub (ac (List.mem_append_left _ (.head _)) (ac (List.mem_append_left _ (.tail _ (.head _))) (ac (List.mem_append_left _ (.tail _ (.tail _ (.tail _ (.tail _ (.tail _ (.tail _ (.head _)))))))) (ac (List.mem_append_left _ (.tail _ (.tail _ (.tail _ (.head _))))) (ac (List.mem_append_left _ (.tail _ (.tail _ (.tail _ (.tail _ (.tail _ (.tail _ (.tail _ (.tail _ (.head _)))))))))) (ac (List.mem_append_left _ (.tail _ (.tail _ (.tail _ (.tail _ (.head _)))))) (ac (List.mem_append_left _ (.tail _ (.tail _ (.tail _ (.tail _ (.tail _ (.head _))))))) (ac (List.mem_append_left _ (.tail _ (.tail _ (.head _)))) (ac (List.mem_append_left _ (.tail _ (.tail _ (.tail _ (.tail _ (.tail _ (.tail _ (.tail _ (.head _))))))))) an))))))))) (T5c_nodup _ _ _ _ _ _ _ _) (fun _ h => nomatch h)⟩
theorem pro1_2u {w : World} {b1 b2 : Bool} {E : R.World0} (HEo : EOk (wb w b1 b2) E) {B : Nat} (hB : B + 320 ≤ 990) {pa : Option Value} {q2 : Pos} (hΓ : R.COk B ⟨cdF (pp w b1 b2), none, none, [(.builtin "claim.caller" {}, q2)], pa⟩ 20) {p : Pos} {t : Nat} {s : Shared} {τ0 : Nat → Nat} {X : Array Value} {n0 : Int} {v0 : Nat} (h0 : Int.fmod n0 3 = Int.ofNat 2)
    (D : HoldP E (T0c (pp w b1 b2) τ0 (listV ⟨(.int n0 v0) :: X.toList⟩ 0)) [] 284 t s) :
    Sem.wp E.M ⟨cdF (pp w b1 b2), none, none, [(.builtin "claim.caller" {}, q2)], pa⟩ (execs ((lawStmts (pp w b1 b2)).take 5) (envL (pp w b1 b2))) (fun f _ s' => f = .next ∧ ∃ τ dt u0 u1 t1, HoldP E (T5c (pp w b1 b2) τ 3 dt 4 u0 u1 (listV ⟨(.int n0 v0) :: X.toList⟩ 0)) [] 296 t1 s') (fun _ _ _ => False) p s := by
  let y : Nat → Nat := fun _ => 0
  let α : Nat → Nat := fun _ => 0
  let τ : Nat → Nat := fnL [(50, v0)] τ0
  let ε : Nat → Nat := fun _ => 0
  let x : Nat → Int := fnL [(24, n0)] fun _ => 0
  let σ : Nat → Str := fun _ => ⟨#[]⟩
  have w1 := seg_useP HEo hB D (K := []) (T := [(282, frM (pp w b1 b2) (frKeys.take 1) τ [.ref 281]), (283, cell0), (281, (listV ⟨(.int n0 v0) :: X.toList⟩ 0))])
    (ac (.head _) (ac (.tail _ (.head _)) (ac (.tail _ (.tail _ (.head _))) an))) (show ([282, 283, 281] : List Nat).Nodup by decide)
    (fun _ h => nomatch h) (ac rfl (ac rfl (ac rfl an))) hΓ (fun ω => pro1_2 w b1 b2 (cdF (pp w b1 b2)) [] pa p 0 t ω x y τ α ε σ X p q2) (by decide)
    (fun ω => ac ⟨rfl, h0⟩ an)
  refine Sem.wp_mono _ _ _ (fun f p' s' h' => ?_) (fun _ _ _ h => h) _ _ w1
  obtain ⟨hf, ω, t1, D1⟩ := h'
  exact ⟨hf, fnL [(0, τ0 0), (1, (t + 2595 + 1)), (2, (t + 2595 + 6)), (3, (t + 2595 + 13)), (4, (t + 2595 + 18)), (5, (t + 2595 + 19))] fun _ => 0, (t + 2595 + 12), (t + 2595 + 14), (t + 2595 + 15), t1, D1.sub (ac (List.mem_append_left _ (.head _)) (ac (List.mem_append_left _ (.tail _ (.head _))) (ac (List.mem_append_left _ (.tail _ (.tail _ (.tail _ (.tail _ (.tail _ (.tail _ (.head _)))))))) (ac (List.mem_append_left _ (.tail _ (.tail _ (.tail _ (.head _))))) (ac (List.mem_append_left _ (.tail _ (.tail _ (.tail _ (.tail _ (.tail _ (.tail _ (.tail _ (.tail _ (.head _)))))))))) (ac (List.mem_append_left _ (.tail _ (.tail _ (.tail _ (.tail _ (.head _)))))) (ac (List.mem_append_left _ (.tail _ (.tail _ (.tail _ (.tail _ (.tail _ (.head _))))))) (ac (List.mem_append_left _ (.tail _ (.tail _ (.head _)))) (ac (List.mem_append_left _ (.tail _ (.tail _ (.tail _ (.tail _ (.tail _ (.tail _ (.tail _ (.head _))))))))) an))))))))) (T5c_nodup _ _ _ _ _ _ _ _) (fun _ h => nomatch h)⟩
theorem scrV_succ (f : Nat → Int) (g : Nat → Nat) (k : Nat) : scrV f g (k + 1) = .int (f 0) (g 0) :: scrV (fun i => f (i + 1)) (fun i => g (i + 1)) k := by
  unfold scrV
  rw [List.range_succ_eq_map, List.map_cons, List.map_map]
  rfl
theorem intVals_scr : ∀ (t : Nat) (ns : List Int), intVals t ns = scrV (fun i => ns.getD i 0) (fun i => t + i) ns.length
  | _, [] => rfl
  | t, n :: ns => by
    show Value.int n t :: intVals (t + 1) ns = scrV _ _ (ns.length + 1)
    rw [scrV_succ, intVals_scr (t + 1) ns]
    have e : (fun i => t + 1 + i) = fun i => t + (i + 1) := by funext i; omega
    rw [e]
    rfl
noncomputable def xsV (t : Nat) (f : Nat → Int) (g : Nat → Nat) (k : Nat) : List Value := preV t ++ (scrV f g k).take 12
theorem xsV_len (t : Nat) (f : Nat → Int) (g : Nat → Nat) (k : Nat) : 7 ≤ (xsV t f g k).length ∧ (xsV t f g k).length ≤ 19 := by
  have : (scrV f g k).length = k := by simp [scrV]
  simp only [xsV, List.length_append, List.length_take, this, preV, List.length_cons, List.length_nil]
  omega
theorem xsV_int {t : Nat} {f : Nat → Int} {g : Nat → Nat} {k i : Nat} {x : Value} (h : (xsV t f g k)[i]? = some x) : ∃ v vt, x = .int v vt := by
  have hm := List.mem_of_getElem? h
  rcases List.mem_append.mp hm with h | h
  · simp only [preV, List.mem_cons, List.not_mem_nil, or_false] at h
    rcases h with rfl | rfl | rfl | rfl | rfl | rfl | rfl <;> exact ⟨_, _, rfl⟩
  · have h := List.mem_of_mem_take h
    obtain ⟨j, _, rfl⟩ := List.mem_map.mp h
    exact ⟨_, _, rfl⟩
theorem it_step {w : World} {b1 b2 : Bool} {E : R.World0} (HEo : EOk (wb w b1 b2) E) {B : Nat} (hB : B + 320 ≤ 990) {bl : List (Code × Pos)} {pa : Option Value} (hΓ : R.COk B ⟨cdF (pp w b1 b2), none, none, bl, pa⟩ 20) {p : Pos} {t : Nat} {s : Shared} {τ : Nat → Nat} {r : Int} {dt m u0 u1 k : Nat} (hk : k < 64) {x : Nat → Int} {y : Nat → Nat}
    (D : HoldP E (T5c (pp w b1 b2) τ r dt m u0 u1 (listV (scrV x y k).toArray 0)) [] 296 t s) :
    Sem.wp E.M ⟨cdF (pp w b1 b2), none, none, bl, pa⟩ (itTree (pp w b1 b2) (forIter (pp w b1 b2)))
      (fun v _ s' => v = .ref 300 ∧ ∃ t1, HoldP E (T5c (pp w b1 b2) τ r dt m u0 u1 (listV (scrV x y k).toArray 0) ++ [(299, listV (xsV (t + 2595) x y k).toArray 0), (300, itO 299)]) [] 301 t1 s') (fun _ _ _ => False) p s := by
  have w1 := seg_useP HEo hB D (K := []) (T := [(282, fr5 (pp w b1 b2) τ r), (281, listV (scrV x y k).toArray 0)])
    (ac (.head _) (ac (.tail _ (.tail _ (.tail _ (.tail _ (.tail _ (.tail _ (.tail _ (.head _)))))))) an))
    (show ([282, 281] : List Nat).Nodup by decide) (fun _ h => nomatch h)
    (ac rfl (ac rfl an)) hΓ (m := itTree (pp w b1 b2) (forIter (pp w b1 b2))) (f := fun v => .ret v) (fun ω => it_all k hk w b1 b2 bl pa p t ω x y τ r) (by decide) (fun _ _ h => nomatch h)
  refine Sem.wp_mono _ _ _ (fun f p' s' h' => ?_) (fun _ _ _ h => h) _ _ w1
  obtain ⟨hf, ω, t1, D1⟩ := h'
  exact ⟨by injection hf, t1, D1.sub (ac (List.mem_append_left _ (.head _)) (ac (List.mem_append_right _ (mem_rest.mpr ⟨.tail _ (.head _), show (283 : Nat) ∉ ([282, 281] : List Nat) by decide⟩)) (ac (List.mem_append_right _ (mem_rest.mpr ⟨.tail _ (.tail _ (.head _)), show (285 : Nat) ∉ ([282, 281] : List Nat) by decide⟩)) (ac (List.mem_append_right _ (mem_rest.mpr ⟨.tail _ (.tail _ (.tail _ (.head _))), show (286 : Nat) ∉ ([282, 281] : List Nat) by decide⟩)) (ac (List.mem_append_right _ (mem_rest.mpr ⟨.tail _ (.tail _ (.tail _ (.tail _ (.head _)))), show (288 : Nat) ∉ ([282, 281] : List Nat) by decide⟩)) (ac (List.mem_append_right _ (mem_rest.mpr ⟨.tail _ (.tail _ (.tail _ (.tail _ (.tail _ (.head _))))), show (294 : Nat) ∉ ([282, 281] : List Nat) by decide⟩)) (ac (List.mem_append_right _ (mem_rest.mpr ⟨.tail _ (.tail _ (.tail _ (.tail _ (.tail _ (.tail _ (.head _)))))), show (295 : Nat) ∉ ([282, 281] : List Nat) by decide⟩)) (ac (List.mem_append_left _ (.tail _ (.head _))) (ac (List.mem_append_right _ (mem_rest.mpr ⟨.tail _ (.tail _ (.tail _ (.tail _ (.tail _ (.tail _ (.tail _ (.tail _ (.head _)))))))), show (292 : Nat) ∉ ([282, 281] : List Nat) by decide⟩)) (ac (List.mem_append_left _ (.tail _ (.tail _ (.head _)))) (ac (List.mem_append_left _ (.tail _ (.tail _ (.tail _ (.head _))))) an))))))))))) (show ([282, 283, 285, 286, 288, 294, 295, 281, 292, 299, 300] : List Nat).Nodup by decide) (fun _ h => nomatch h)⟩
noncomputable def ItIs (o : Obj) (l i : Nat) : Prop := o.cls = .type "list_iterator" ∧ o.data = .fields #[.ref l, .int i 0]
theorem ItIs.frozen {o : Obj} {l i : Nat} (h : ItIs o l i) : R.frozen o = false := by
  unfold R.frozen
  rw [h.2]
theorem mem_mid {α : Type} {A B : List α} {x y : α} (h : x ∈ A ++ y :: B) : x = y ∨ x ∈ A ++ B := by
  rcases List.mem_append.mp h with h | h
  · exact .inr (List.mem_append_left _ h)
  · rcases List.mem_cons.mp h with h | h
    · exact .inl h
    · exact .inr (List.mem_append_right _ h)
theorem mid_ne {A B : Cells} {a : Nat} {o : Obj} (hn : ((A ++ (a, o) :: B).map (·.1)).Nodup) {x : Nat × Obj} (h : x ∈ A ++ B) : x.1 ≠ a := by
  rw [List.map_append, List.map_cons] at hn
  obtain ⟨_, h2, h3⟩ := List.nodup_append.mp hn
  rcases List.mem_append.mp h with h | h
  · exact h3 _ (List.mem_map_of_mem h) _ (.head _)
  · intro q
    exact (List.nodup_cons.mp h2).1 (q ▸ List.mem_map_of_mem (f := (·.1)) h)
theorem Hold.same {E : R.World0} {A B K : Cells} {N t : Nat} {s : Shared} {a : Nat} {o o' : Obj} {h' : Heap} (D : Hold E (A ++ (a, o) :: B) K N t s) (hs : Heap.SameBut a s.heap h') (ho : h'.get? a = some o') (hz : R.frozen o = false) :
    Hold E (A ++ (a, o') :: B) K N t { s with heap := h' } := by
  have hn := D.rep.nodup
  have hm : (a, o) ∈ A ++ (a, o) :: B := List.mem_append_right _ (.head _)
  refine ⟨D.rep.same hm hs ho hz (fun x hx => ?_) ?_, fun x hx => ?_⟩
  · rcases mem_mid hx with h | h
    · exact .inl h
    · refine .inr ⟨?_, mid_ne hn h⟩
      rcases List.mem_append.mp h with h | h
      · exact List.mem_append_left _ h
      · exact List.mem_append_right _ (.tail _ h)
  · simpa only [List.map_append, List.map_cons] using hn
  · obtain ⟨q1, q2⟩ := D.tup x hx
    refine ⟨(hs.2 _ fun q => ?_).trans q1, q2⟩
    have c := D.rep.cell _ hm
    dsimp only at c
    rw [← q, q1] at c
    rw [Option.some.inj c, hz] at q2
    cases q2
theorem Hold.ext {E : R.World0} {A B K T2 : Cells} {N t : Nat} {s : Shared} {a : Nat} {o : Obj} {h' : Heap} (D : Hold E (A ++ (a, o) :: B) K N t s) (hs : Heap.ExtBut a s.heap h') (hz : R.frozen o = false)
    (hl : E.P0 ≤ h'.objs.size) (hl2 : E.h0.objs.size ≤ h'.objs.size) (hT : ∀ x ∈ T2, x ∈ A ++ B) (hn2 : (T2.map (·.1)).Nodup) : HoldP E T2 K h'.objs.size t { s with heap := h' } := by
  have hn := D.rep.nodup
  have hm : (a, o) ∈ A ++ (a, o) :: B := List.mem_append_right _ (.head _)
  refine ⟨D.rep.ext hm hs hz (fun x hx => ⟨?_, mid_ne hn (hT x hx)⟩) hn2 hl hl2, fun x hx => ?_⟩
  · rcases List.mem_append.mp (hT x hx) with h | h
    · exact List.mem_append_left _ h
    · exact List.mem_append_right _ (.tail _ h)
  · obtain ⟨q1, q2⟩ := D.tup x hx
    refine ⟨hs _ _ (fun q => ?_) q1, q2⟩
    have c := D.rep.cell _ hm
    dsimp only at c
    rw [← q, q1] at c
    rw [Option.some.inj c, hz] at q2
    cases q2
theorem pinv1 {r : Nat} (h1 : 1 ≤ r) (h3 : r ≤ 3) : PInv [(88, 1)] ((88, 1) :: List.replicate r (0, 0)) [88] r 1 0 := by
  have hr : r = 1 ∨ r = 2 ∨ r = 3 := by omega
  rcases hr with rfl | rfl | rfl
  all_goals
    refine ⟨rfl, by decide +kernel, by decide +kernel, ⟨(0, 0), by decide +kernel, rfl⟩, by decide +kernel, by decide +kernel, by decide +kernel, by decide +kernel, ?_, ?_, by decide⟩
    · intro e he hi
      simp only [List.replicate, List.mem_cons, List.not_mem_nil, or_false, or_self] at he
      rcases he with rfl | rfl
      · decide
      · exact absurd hi (by decide)
    · intro x hx hno
      have : x ≠ 88 := fun q => hno (88, 1) (.head _) q.symm
      have e : ([88] : List Int).count x = 0 := List.count_eq_zero.mpr (by simpa using this)
      rw [e]
      decide
theorem orelse1 (P : Params) : (for1 P).2.2.2 = [] := by kernel_rfl
theorem name1 (P : Params) : R.nameT (for1 P).1 = true := by kernel_rfl
theorem name2 (P : Params) : R.nameT (for2 P).1 = true := by kernel_rfl
theorem cok1 (P : Params) (q1 q2 : Pos) (pa : Option Value) : R.COk 660 ⟨cd1 P, none, none, bl1 P q1 q2, pa⟩ 20 := ⟨Nat.le_of_ble_eq_true (by kernel_rfl), R.weight_le rfl⟩
noncomputable abbrev cd2 (P : Params) (a : Nat) : Code := .forLoop (for2 P).1 (.ref a) (body2 P) [] (envL P)
theorem cok2 (P : Params) (a : Nat) (q1 q2 : Pos) (pa : Option Value) : R.COk 660 ⟨cd2 P a, none, none, bl1 P q1 q2, pa⟩ 20 := ⟨Nat.le_of_ble_eq_true (by kernel_rfl), R.weight_le rfl⟩
theorem cokF (P : Params) (q2 : Pos) (pa : Option Value) : R.COk 660 ⟨cdF P, none, none, [(.builtin "claim.caller" {}, q2)], pa⟩ 20 := ⟨Nat.le_of_ble_eq_true (by kernel_rfl), R.weight_le rfl⟩
noncomputable def Inv1 (w : World) (b1 b2 : Bool) (E : R.World0) (xs : List Value) (o3 : Obj) (i : Nat) (s : Shared) : Prop :=
  (i = 0 ∧ ∃ τ r dt u0 u1 o2 N t, 1 ≤ r ∧ r ≤ 3 ∧ ItIs o2 299 0 ∧ Hold E (T1 (pp w b1 b2) τ (Int.ofNat r) dt (r + 1) 0 0 0 (listV xs.toArray 0) o2 o3) [(292, R.tupO 0 u0 0 u1)] N t s) ∨
  (1 ≤ i ∧ ∃ L hd pl S Lc r, 1 ≤ r ∧ r ≤ 3 ∧ St w b1 b2 E L hd pl S r i Lc s ∧ L.least = Lc ∧ L.o1 = listV xs.toArray 0 ∧ ItIs L.o2 299 i ∧ L.o3 = o3)
theorem isList_of {E : R.World0} {T K : Cells} {N t : Nat} {s : Shared} (D : Hold E T K N t s) {a : Nat} {xs : List Value} (h : (a, listV xs.toArray 0) ∈ T) : s.heap.IsList a xs.toArray := ⟨_, D.rep.cell _ h, rfl, 0, rfl⟩
theorem isIter_of {E : R.World0} {T K : Cells} {N t : Nat} {s : Shared} (D : Hold E T K N t s) {a l i : Nat} {o : Obj} (h : (a, o) ∈ T) (ho : ItIs o l i) : s.heap.IsListIter a l i := ⟨_, D.rep.cell _ h, ho.1, ho.2⟩
noncomputable def Post1 (w : World) (b1 b2 : Bool) (E : R.World0) (o3 : Obj) (s : Shared) : Prop :=
  ∃ (L : Loc) (hd : List HE) (pl : List PE) (S : List Int) (r k N t : Nat) (K : Cells), HoldP E (TF (pp w b1 b2) false L 0 hd) K (N + 300) t s ∧ (∀ x ∈ heK hd, x ∈ K) ∧ k ≤ 20 ∧ AllOk k hd ∧ hd.length ≤ 3 ∧ PInv (hd.map keyH) (pl.map keyP) S r k L.least ∧ XIs L.X S ∧ L.o3 = o3
theorem loop1 {w : World} {b1 b2 : Bool} {E : R.World0} (HEo : EOk (wb w b1 b2) E) (hP : E.P0 ≤ 290) (hh : E.h0.objs.size ≤ 290) {pa : Option Value} {q1 q2 : Pos} {o3 : Obj} {tb : Nat} {f : Nat → Int} {g : Nat → Nat} {k : Nat} {s : Shared} {p : Pos} (hI : Inv1 w b1 b2 E (xsV tb f g k) o3 0 s) :
    wpCode E.M ⟨cd1 (pp w b1 b2), none, none, bl1 (pp w b1 b2) q1 q2, pa⟩ (fun r s2 => r = .ok .next ∧ Post1 w b1 b2 E o3 s2) p s := by
  have hM := HEo.M
  have hlen := xsV_len tb f g k
  have X : Cx w b1 b2 E (cd1 (pp w b1 b2)) (bl1 (pp w b1 b2) q1 q2) pa := ⟨HEo, hP, hh, cok1 (pp w b1 b2) q1 q2 pa⟩
  rw [hM]
  refine R.for_list (Γ := ⟨cd1 (pp w b1 b2), none, none, bl1 (pp w b1 b2) q1 q2, pa⟩) (I := 300) (l := 299) (xs := (xsV tb f g k).toArray) (by show Code.forLoop _ _ _ (for1 (pp w b1 b2)).2.2.2 _ = _; rw [orelse1]) rfl (name1 _) (Inv1 w b1 b2 E (xsV tb f g k) o3) ?_ ?_ ?_ _ 0 s p (Nat.zero_add _).symm hI
  · intro i s hI
    rcases hI with ⟨rfl, τ, r, dt, u0, u1, o2, N, t, h1, h3, ho, D⟩ | ⟨h1, L, hd, pl, S, Lc, r, h1, h3, D, hl, e1, ho, e3⟩
    · exact ⟨isIter_of D (.tail _ (.tail _ (.tail _ (.tail _ (.tail _ (.tail _ (.tail _ (.tail _ (.head _))))))))) ho, isList_of D (.tail _ (.tail _ (.tail _ (.tail _ (.tail _ (.tail _ (.tail _ (.head _))))))))⟩
    · obtain ⟨K, N, t, D0, _⟩ := D.hold
      refine ⟨isIter_of D0 (.tail _ (.tail _ (.tail _ (.tail _ (.tail _ (.tail _ (.tail _ (.tail _ (.head _))))))))) ho, isList_of D0 (a := 299) ?_⟩
      rw [← e1]
      exact .tail _ (.tail _ (.tail _ (.tail _ (.tail _ (.tail _ (.tail _ (.head _)))))))
  · intro i x s hx hI h' hit hsb p
    rw [← hM]
    obtain ⟨o2', ho, hc, hdt⟩ := hit
    rcases hI with ⟨rfl, τ, r, dt, u0, u1, o2, N, t, h1, h3, hi, D⟩ | ⟨h1, L, hd, pl, S, Lc, r, h1', h3, D, hl, e1, hi, e3⟩
    · have ex : x = .int 21 tb := by
        have : (xsV tb f g k).toArray[0]? = some (.int 21 tb) := rfl
        rw [this] at hx
        exact (Option.some.inj hx).symm
      subst ex
      have D1 := Hold.same (A := (T1 (pp w b1 b2) τ (Int.ofNat r) dt (r + 1) 0 0 0 (listV (xsV tb f g k).toArray 0) o2 o3).take 8) (B := [(281, o3)]) (a := 300) D hsb ho hi.frozen
      have key : Wn E ⟨cd1 (pp w b1 b2), none, none, bl1 (pp w b1 b2) q1 q2, pa⟩ (ftT tb (pp w b1 b2)) (fun s' => ∃ L hd pl u, HS w b1 b2 E L hd pl s' ∧ L.room = Int.ofNat r ∧ L.least = 0 ∧ hd.map keyH = [(88, 1)] ∧ pl.map keyP = (88, 1) :: List.replicate r (0, 0) ∧ AllOk 1 hd ∧ L.X = #[.int 88 u] ∧ L.o1 = listV (xsV tb f g k).toArray 0 ∧ L.o2 = o2' ∧ L.o3 = o3) { s with heap := h' } := by
        have hr : r = 1 ∨ r = 2 ∨ r = 3 := by omega
        rcases hr with rfl | rfl | rfl
        · exact turn1_2u X D1
        · exact turn1_3u X D1
        · exact turn1_4u X D1
      have key := key p
      unfold ftT at key
      refine Sem.wp_mono _ _ _ (fun f' p' s' h' => ?_) (fun _ _ _ h => h) _ _ key
      obtain ⟨hf, L, hd, pl, u, D2, hroom, hle, hhd, hpl, hok, hX, e1, e2, e3⟩ := h'
      refine ⟨hf, .inr ⟨Nat.le_refl 1, L, hd, pl, [88], 0, r, h1, h3, ⟨D2, hok, ?_, hroom, ⟨[(88, u)], by rw [hX]; rfl, rfl⟩, rfl⟩, hle, e1, ?_, e3⟩⟩
      · rw [hhd, hpl]; exact pinv1 h1 h3
      · rw [e2]; exact ⟨hc, hdt⟩
    · obtain ⟨v, vt, rfl⟩ := xsV_int (by simpa using hx)
      obtain ⟨⟨K, N, t, D0, hK1, hK2⟩, hok, hinv, hroom, hx', hsl⟩ := D
      have D1 := Hold.same (A := (TT (pp w b1 b2) L hd pl).take 8) (B := [(281, L.o3)]) (a := 300) (o := L.o2) D0 hsb ho hi.frozen
      have hi18 : i ≤ 18 := by
        have : i < (xsV tb f g k).toArray.size := by
          rcases Array.getElem?_eq_some_iff.mp hx with ⟨h, _⟩
          exact h
        simp at this
        omega
      have z := turn_ok X (L := { L with o2 := o2' }) (hd := hd) (pl := pl) (v := v) (vt := vt) hi18 h1' h3 ⟨⟨K, N, t, D1, hK1, hK2⟩, hok, hinv, hroom, hx', hsl⟩ p
      refine Sem.wp_mono _ _ _ (fun f' p' s' h' => ?_) (fun _ _ _ h => h) _ _ z
      obtain ⟨hf, L', hd', pl', S', Lc', D2, hle, f1, f2, f3⟩ := h'
      refine ⟨hf, .inr ⟨by omega, L', hd', pl', S', Lc', r, h1', h3, D2, hle, f1.trans e1, ?_, f3.trans e3⟩⟩
      rw [f2]
      exact ⟨hc, hdt⟩
  · intro i s hx hI h' hext
    refine ⟨rfl, ?_⟩
    have hi7 : 7 ≤ i := by
      simp at hx
      omega
    have hk20 : i ≤ 20 := by
      simp at hx
      omega
    rcases hI with ⟨rfl, _⟩ | ⟨h1, L, hd, pl, S, Lc, r, h1', h3, D, hl, e1, hi, e3⟩
    · omega
    · obtain ⟨⟨K, N, t, D0, hK1, hK2⟩, hok, hinv, hroom, hx', hsl⟩ := D
      have c9 := hext 299 _ (by decide) (D0.rep.cell (299, L.o1) (.tail _ (.tail _ (.tail _ (.tail _ (.tail _ (.tail _ (.tail _ (.head _)))))))))
      have hsz : 299 < h'.objs.size := Heap.lt_size c9
      have D1 := Hold.ext (A := (TT (pp w b1 b2) L hd pl).take 8) (B := [(281, L.o3)]) (a := 300) (o := L.o2) (T2 := TF (pp w b1 b2) false L 0 hd) (K := K) D0 hext hi.frozen (by omega) (by omega)
        (ac (.head _) (ac (.tail _ (.head _)) (ac (.tail _ (.tail _ (.head _))) (ac (.tail _ (.tail _ (.tail _ (.head _)))) (ac (.tail _ (.tail _ (.tail _ (.tail _ (.head _))))) (ac (.tail _ (.tail _ (.tail _ (.tail _ (.tail _ (.tail _ (.head _))))))) (ac (.tail _ (.tail _ (.tail _ (.tail _ (.tail _ (.tail _ (.tail _ (.tail _ (.head _))))))))) (an)))))))) (TF_nodup _ _ _ _ _)
      refine ⟨L, hd, pl, S, r, i, h'.objs.size - 300, t, K, ?_, hK1, hk20, hok, lenF h3 hinv, hl ▸ hinv, hx', e3⟩
      have e : h'.objs.size - 300 + 300 = h'.objs.size := by omega
      rw [e]
      exact D1
noncomputable def Inv2 (w : World) (b1 b2 : Bool) (E : R.World0) (a : Nat) (xs : List Value) (lst : Int) (X : Array Value) (o3 : Obj) (hd : List HE) (i : Nat) (s : Shared) : Prop :=
  ∃ (b : Bool) (L : Loc) (kept : Int) (o2 : Obj), ItIs o2 a i ∧ HF w b1 b2 E b L kept hd [(a + 1, o2), (a, listV xs.toArray 0)] s ∧ L.least = lst ∧ L.X = X ∧ L.o3 = o3
theorem preV2_int {t i : Nat} {x : Value} (h : (preV2 t)[i]? = some x) : ∃ x0 ∈ things, ∃ vt, x = .int (Int.ofNat x0) vt := by
  have hm := List.mem_of_getElem? h
  simp only [preV2, List.mem_cons, List.not_mem_nil, or_false] at hm
  rcases hm with rfl | rfl | rfl | rfl | rfl | rfl
  · exact ⟨5, by decide, _, rfl⟩
  · exact ⟨8, by decide, _, rfl⟩
  · exact ⟨85, by decide, _, rfl⟩
  · exact ⟨88, by decide, _, rfl⟩
  · exact ⟨1368, by decide, _, rfl⟩
  · exact ⟨11, by decide, _, rfl⟩
theorem loop2 {w : World} {b1 b2 : Bool} {E : R.World0} (HEo : EOk (wb w b1 b2) E) (hP : E.P0 ≤ 290) (hh : E.h0.objs.size ≤ 290) {pa : Option Value} {q1 q2 : Pos} {o3 : Obj} {tb a : Nat} (ha : 300 ≤ a) {lst : Int} {X : Array Value} {hd : List HE} {P : List (Int × Int)} {S : List Int} {r k : Nat}
    (hk : k ≤ 20) (hl3 : hd.length ≤ 3) (hok : AllOk k hd) (hinv : PInv (hd.map keyH) P S r k lst) (hX : XIs X S) {s : Shared} {p : Pos} (hI : Inv2 w b1 b2 E a (preV2 tb) lst X o3 hd 0 s) :
    wpCode E.M ⟨cd2 (pp w b1 b2) (a + 1), none, none, bl1 (pp w b1 b2) q1 q2, pa⟩ (fun r s2 => r = .ok .next ∧ ∃ b t, HoldP E [(281, o3)] [] b t s2) p s := by
  have hM := HEo.M
  have Y : Cx w b1 b2 E (cd2 (pp w b1 b2) (a + 1)) (bl1 (pp w b1 b2) q1 q2) pa := ⟨HEo, hP, hh, cok2 (pp w b1 b2) (a + 1) q1 q2 pa⟩
  rw [hM]
  refine R.for_list (Γ := ⟨cd2 (pp w b1 b2) (a + 1), none, none, bl1 (pp w b1 b2) q1 q2, pa⟩) (I := a + 1) (l := a) (xs := (preV2 tb).toArray) rfl rfl (name2 _) (Inv2 w b1 b2 E a (preV2 tb) lst X o3 hd) ?_ ?_ ?_ _ 0 s p (Nat.zero_add _).symm hI
  · intro i s hI
    obtain ⟨b, L, kept, o2, ho, ⟨K, N, t, D, hK⟩, e1, e2, e3⟩ := hI
    exact ⟨isIter_of D (List.mem_append_right _ (.head _)) ho, isList_of D (List.mem_append_right _ (.tail _ (.head _)))⟩
  · intro i x s hx hI h' hit hsb p
    rw [← hM]
    obtain ⟨o2', ho, hc, hdt⟩ := hit
    obtain ⟨b, L, kept, o2, hi, ⟨K, N, t, D, hK⟩, e1, e2, e3⟩ := hI
    obtain ⟨x0, hx0, vt, rfl⟩ := preV2_int (by simpa using hx)
    have D1 := Hold.same (A := TF (pp w b1 b2) b L kept hd) (B := [(a, listV (preV2 tb).toArray 0)]) (a := a + 1) D hsb ho hi.frozen
    have z := fin_turn Y (vt := vt) (P := P) (S := S) (r := r) (Xc := [(a + 1, o2'), (a, listV (preV2 tb).toArray 0)]) hk hx0
      (by have := D1.rep.nodup; rw [List.map_append] at this; exact this) hl3 hok (e1 ▸ hinv) (e2 ▸ hX) ⟨K, N, t, D1, hK⟩ p
    unfold fnT at z
    refine Sem.wp_mono _ _ _ (fun f' p' s' h' => ?_) (fun _ _ _ h => h) _ _ z
    obtain ⟨hf, τ', kept', D2⟩ := h'
    exact ⟨hf, true, _, kept', o2', ⟨hc, hdt⟩, D2, e1, e2, e3⟩
  · intro i s hx hI h' hext
    refine ⟨rfl, ?_⟩
    obtain ⟨b, L, kept, o2, hi, ⟨K, N, t, D, hK⟩, e1, e2, e3⟩ := hI
    have c9 := hext a _ (Nat.ne_of_lt (Nat.lt_succ_self a)) (D.rep.cell (a, listV (preV2 tb).toArray 0) (List.mem_append_right _ (.tail _ (.head _))))
    have hsz : a < h'.objs.size := Heap.lt_size c9
    have D1 := Hold.ext (A := TF (pp w b1 b2) b L kept hd) (B := [(a, listV (preV2 tb).toArray 0)]) (a := a + 1) (T2 := [(281, L.o3)]) D hext hi.frozen (by omega) (by omega)
      (ac (List.mem_append_left _ (.tail _ (.tail _ (.tail _ (.tail _ (.tail _ (.tail _ (.head _)))))))) an) (by simp)
    rw [e3] at D1
    exact ⟨_, t, D1.rep, fun _ h => nomatch h⟩
noncomputable def posF : Stmt → Pos
  | .For _ _ _ _ p => p
  | _ => ⟨0, 0, 0, 0⟩
theorem lawSplit (P : Params) : lawStmts P = (lawStmts P).take 5 ++ ([(lawStmts P).getD 5 passS] ++ ([(lawStmts P).getD 6 passS] ++ (lawStmts P).drop 7)) := by kernel_rfl
theorem st5 (P : Params) : (lawStmts P).getD 5 passS = .For (for1 P).1 (forIter P) (body1 P) (for1 P).2.2.2 (posF ((lawStmts P).getD 5 passS)) := by kernel_rfl
theorem st6 (P : Params) : (lawStmts P).getD 6 passS = .For (for2 P).1 (forIter2 P) (body2 P) [] (posF ((lawStmts P).getD 6 passS)) := by kernel_rfl
theorem itTree_eq (P : Params) (e : Expr) : itTree P e = ((eval e (envL P) >>= fun v => foldedSetIterable e (envL P) v) >>= fun x => standAt e.pos >>= fun _ => holding [x] (pyIter x)) := by unfold itTree; rfl
theorem fmod3 (n : Int) : Int.fmod n 3 = Int.ofNat 0 ∨ Int.fmod n 3 = Int.ofNat 1 ∨ Int.fmod n 3 = Int.ofNat 2 := by
  have h0 : 0 ≤ Int.fmod n 3 := Int.fmod_nonneg_of_pos _ (by decide)
  have h1 : Int.fmod n 3 < 3 := Int.fmod_lt_of_pos _ (by decide)
  show _ = (0 : Int) ∨ _ = (1 : Int) ∨ _ = (2 : Int)
  omega
theorem pro_ok {w : World} {b1 b2 : Bool} {E : R.World0} (HEo : EOk (wb w b1 b2) E) {pa : Option Value} {q2 : Pos} {p : Pos} {t t0 : Nat} {s : Shared} {τ0 : Nat → Nat} : ∀ {ns : List Int}, HoldP E (T0c (pp w b1 b2) τ0 (listV (intVals t0 ns).toArray 0)) [] 284 t s →
    Sem.wp E.M ⟨cdF (pp w b1 b2), none, none, [(.builtin "claim.caller" {}, q2)], pa⟩ (execs ((lawStmts (pp w b1 b2)).take 5) (envL (pp w b1 b2))) (fun f _ s' => f = .next ∧ ∃ r τ dt u0 u1 t1, 1 ≤ r ∧ r ≤ 3 ∧ HoldP E (T5c (pp w b1 b2) τ (Int.ofNat r) dt (r + 1) u0 u1 (listV (intVals t0 ns).toArray 0)) [] 296 t1 s') (fun _ _ _ => False) p s := by
  intro ns D
  have hB : 660 + 320 ≤ 990 := by decide
  have hΓ := cokF (pp w b1 b2) q2 pa
  cases ns with
  | nil => exact Sem.wp_mono _ _ _ (fun f p' s' ⟨hf, τ, dt, u0, u1, t1, D1⟩ => ⟨hf, 2, τ, dt, u0, u1, t1, by decide, by decide, D1⟩) (fun _ _ _ h => h) _ _ (pro0_0u HEo hB hΓ (X := #[]) (n0 := 0) (v0 := 0) D)
  | cons n ns =>
    rcases fmod3 n with h | h | h
    · exact Sem.wp_mono _ _ _ (fun f p' s' ⟨hf, τ, dt, u0, u1, t1, D1⟩ => ⟨hf, 1, τ, dt, u0, u1, t1, by decide, by decide, D1⟩) (fun _ _ _ h => h) _ _ (pro1_0u HEo hB hΓ (X := (intVals (t0 + 1) ns).toArray) h D)
    · exact Sem.wp_mono _ _ _ (fun f p' s' ⟨hf, τ, dt, u0, u1, t1, D1⟩ => ⟨hf, 2, τ, dt, u0, u1, t1, by decide, by decide, D1⟩) (fun _ _ _ h => h) _ _ (pro1_1u HEo hB hΓ (X := (intVals (t0 + 1) ns).toArray) h D)
    · exact Sem.wp_mono _ _ _ (fun f p' s' ⟨hf, τ, dt, u0, u1, t1, D1⟩ => ⟨hf, 3, τ, dt, u0, u1, t1, by decide, by decide, D1⟩) (fun _ _ _ h => h) _ _ (pro1_2u HEo hB hΓ (X := (intVals (t0 + 1) ns).toArray) h D)
theorem for_it {M : Model} {Γ : Ctx} {P : Params} {target iter : Expr} {body orelse : List Stmt} {pos : Pos} {Q : Shared → Prop} {P1 : Value → Shared → Prop} {p : Pos} {s : Shared}
    (hz : ∀ p, Sem.wp M Γ (itTree P iter) (fun v _ s' => P1 v s') (fun _ _ _ => False) p s)
    (hl : ∀ v p' s', P1 v s' → wpCode M (Γ.enter (.forLoop target v body orelse (envL P)) none p') (fun r s2 => r = .ok .next ∧ Q s2) p' s') :
    Sem.wp M Γ (exec (.For target iter body orelse pos) (envL P)) (fun f _ s' => f = .next ∧ Q s') (fun _ _ _ => False) p s :=
  for_stmt fun p1 => by
    have z := hz p1
    rw [itTree_eq] at z
    exact Sem.wp_mono _ _ _ (fun v p' s' h' => hl v p' s' h') (fun _ _ _ h => h) _ _ z
theorem stmt5 {w : World} {b1 b2 : Bool} {E : R.World0} (HEo : EOk (wb w b1 b2) E) (hP : E.P0 ≤ 290) (hh : E.h0.objs.size ≤ 290) {pa : Option Value} {q2 : Pos} {p : Pos} {t t0 : Nat} {s : Shared} {ns : List Int} (hns : ns.length ≤ 63) {τ : Nat → Nat} {r dt u0 u1 : Nat} (h1 : 1 ≤ r) (h3 : r ≤ 3)
    (D : HoldP E (T5c (pp w b1 b2) τ (Int.ofNat r) dt (r + 1) u0 u1 (listV (intVals t0 ns).toArray 0)) [] 296 t s) :
    Sem.wp E.M ⟨cdF (pp w b1 b2), none, none, [(.builtin "claim.caller" {}, q2)], pa⟩ (exec ((lawStmts (pp w b1 b2)).getD 5 passS) (envL (pp w b1 b2))) (fun f _ s' => f = .next ∧ Post1 w b1 b2 E (listV (intVals t0 ns).toArray 0) s') (fun _ _ _ => False) p s := by
  have hB : 660 + 320 ≤ 990 := by decide
  have hΓ := cokF (pp w b1 b2) q2 pa
  rw [intVals_scr] at D ⊢
  rw [st5]
  have a1 := fun p1 => it_step HEo hB hΓ (p := p1) (by omega) D
  with_reducible apply for_it a1
  intro v p' s' h'
  obtain ⟨rfl, t1, D1⟩ := h'
  refine loop1 (q1 := p') (q2 := q2) (pa := pa) (tb := t + 2595) (f := fun i => ns.getD i 0) (g := fun i => t0 + i) (k := ns.length) HEo hP hh (p := p') (.inl ⟨rfl, τ, r, dt, u0, u1, itO 299, 0, t1, h1, h3, ⟨rfl, rfl⟩, HoldP.toHold (N := 0) (D1.sub ?_ ?_ ?_)⟩)
  · exact ac (List.mem_append_left _ (.head _)) (ac (List.mem_append_left _ (.tail _ (.head _))) (ac (List.mem_append_left _ (.tail _ (.tail _ (.head _)))) (ac (List.mem_append_left _ (.tail _ (.tail _ (.tail _ (.head _))))) (ac (List.mem_append_left _ (.tail _ (.tail _ (.tail _ (.tail _ (.head _)))))) (ac (List.mem_append_left _ (.tail _ (.tail _ (.tail _ (.tail _ (.tail _ (.head _))))))) (ac (List.mem_append_left _ (.tail _ (.tail _ (.tail _ (.tail _ (.tail _ (.tail _ (.head _)))))))) (ac (List.mem_append_right _ (.head _)) (ac (List.mem_append_right _ (.tail _ (.head _))) (ac (List.mem_append_left _ (.tail _ (.tail _ (.tail _ (.tail _ (.tail _ (.tail _ (.tail _ (.head _))))))))) an)))))))))
  · show ([282, 283, 285, 286, 288, 294, 295, 299, 300, 281] : List Nat).Nodup
    decide
  · exact ac (.inr ⟨List.mem_append_left _ (.tail _ (.tail _ (.tail _ (.tail _ (.tail _ (.tail _ (.tail _ (.tail _ (.head _))))))))), rfl⟩) an
theorem stmt6 {w : World} {b1 b2 : Bool} {E : R.World0} (HEo : EOk (wb w b1 b2) E) (hP : E.P0 ≤ 290) (hh : E.h0.objs.size ≤ 290) {pa : Option Value} {q2 : Pos} {p : Pos} {s : Shared} {o3 : Obj} (D : Post1 w b1 b2 E o3 s) :
    Sem.wp E.M ⟨cdF (pp w b1 b2), none, none, [(.builtin "claim.caller" {}, q2)], pa⟩ (exec ((lawStmts (pp w b1 b2)).getD 6 passS) (envL (pp w b1 b2))) (fun f _ s' => f = .next ∧ ∃ b t, HoldP E [(281, o3)] [] b t s') (fun _ _ _ => False) p s := by
  have hB : 660 + 320 ≤ 990 := by decide
  have hΓ := cokF (pp w b1 b2) q2 pa
  unfold Post1 at D
  with_reducible obtain ⟨L, hd, pl, S, r, k, N, t, K, D, hK, hk, hok, hl3, hinv, hX, e3⟩ := D
  rw [st6]
  have a1 := fun p1 => seg_useP HEo hB D (K := []) (T := []) (fun _ h => nomatch h) List.nodup_nil (fun _ h => nomatch h) (fun _ h => nomatch h) hΓ (m := itTree (pp w b1 b2) (forIter2 (pp w b1 b2))) (f := fun v => .ret v) (fun ω => it2 w b1 b2 _ pa p1 N t ω) (by decide) (fun _ _ h => nomatch h)
  with_reducible apply for_it a1
  intro v p' s' h'
  obtain ⟨hv, ω, t1, D1⟩ := h'
  obtain rfl : v = .ref (N + 300 + 1) := by injection hv
  refine loop2 (a := N + 300) (q1 := p') (q2 := q2) (pa := pa) (tb := t + 2595) HEo hP hh (by omega) hk hl3 hok hinv hX (p := p') ⟨false, L, 0, itO (N + 300), ⟨rfl, rfl⟩, ⟨K, N + 1, t1, HoldP.toHold ?_, hK⟩, rfl, rfl, e3⟩
  have e : N + 1 + 301 = N + 300 + 2 := by omega
  rw [e]
  refine D1.sub (fun x hx => ?_) ?_ (fun x hx => .inl hx)
  · rcases List.mem_append.mp hx with h | h
    · refine List.mem_append_right _ (mem_rest.mpr ⟨h, fun h => nomatch h⟩)
    · simp only [List.mem_cons, List.not_mem_nil, or_false] at h
      rcases h with rfl | rfl
      · exact List.mem_append_left _ (.tail _ (.head _))
      · exact List.mem_append_left _ (.head _)
  · show ([282, 283, 285, 286, 288, 295, 281, N + 300 + 1, N + 300] : List Nat).Nodup
    simp only [List.nodup_cons, List.mem_cons, List.not_mem_nil, or_false, not_or, List.nodup_nil, and_true, not_false_eq_true]
    omega
theorem body_ok {w : World} {b1 b2 : Bool} {E : R.World0} (HEo : EOk (wb w b1 b2) E) (hP : E.P0 ≤ 290) (hh : E.h0.objs.size ≤ 290) {pa : Option Value} {q2 : Pos} {p : Pos} {t t0 : Nat} {s : Shared} {τ : Nat → Nat} {ns : List Int} (hns : ns.length ≤ 63) (D : HoldP E (T0c (pp w b1 b2) τ (listV (intVals t0 ns).toArray 0)) [] 284 t s) :
    Sem.wp E.M ⟨cdF (pp w b1 b2), none, none, [(.builtin "claim.caller" {}, q2)], pa⟩ (execs (lawStmts (pp w b1 b2)) (envL (pp w b1 b2))) (fun f _ s' => f = .ret (.bool true) ∧ ∃ b t, HoldP E [(281, listV (intVals t0 ns).toArray 0)] [] b t s') (fun _ _ _ => False) p s := by
  have hB : 660 + 320 ≤ 990 := by decide
  have hΓ := cokF (pp w b1 b2) q2 pa
  have g1 := pro_ok HEo D (pa := pa) (q2 := q2) (p := p)
  have g2 := fun (r : Nat) (τ : Nat → Nat) (dt u0 u1 t1 : Nat) (p1 : Pos) (s1 : Shared) (h1 : 1 ≤ r) (h3 : r ≤ 3) (D1 : HoldP E (T5c (pp w b1 b2) τ (Int.ofNat r) dt (r + 1) u0 u1 (listV (intVals t0 ns).toArray 0)) [] 296 t1 s1) => stmt5 HEo hP hh (pa := pa) (q2 := q2) (p := p1) hns h1 h3 D1
  have g3 := fun (p2 : Pos) (s2 : Shared) (D2 : Post1 w b1 b2 E (listV (intVals t0 ns).toArray 0) s2) => stmt6 HEo hP hh (pa := pa) (q2 := q2) (p := p2) D2
  have g4 := fun (b t3 : Nat) (p3 : Pos) (s3 : Shared) (D3 : HoldP E [(281, listV (intVals t0 ns).toArray 0)] [] b t3 s3) => seg_useP HEo hB D3 (p := p3) (K := []) (T := []) (fun _ h => nomatch h) List.nodup_nil (fun _ h => nomatch h) (fun _ h => nomatch h) hΓ (m := execs ((lawStmts (pp w b1 b2)).drop 7) (envL (pp w b1 b2))) (f := fun f => f) (fun ω => retOk w b1 b2 _ pa p3 b t3 ω) List.nodup_nil (fun _ _ h => nomatch h)
  rw [lawSplit]
  generalize (lawStmts (pp w b1 b2)).take 5 = A at g1 ⊢
  generalize (lawStmts (pp w b1 b2)).getD 5 passS = s5 at g2 ⊢
  generalize (lawStmts (pp w b1 b2)).getD 6 passS = s6 at g3 ⊢
  generalize (lawStmts (pp w b1 b2)).drop 7 = C at g4 ⊢
  refine wp_execs_app _ g1 ?_
  rintro p1 s1 ⟨r, τ, dt, u0, u1, t1, h1, h3, D1⟩
  refine wp_execs_app _ (execs_one (g2 _ _ _ _ _ _ _ _ h1 h3 D1)) ?_
  intro p2 s2 D2
  refine wp_execs_app _ (execs_one (g3 _ _ D2)) ?_
  rintro p3 s3 ⟨b, t3, D3⟩
  refine Sem.wp_mono _ _ _ (fun f p' s' h' => ?_) (fun _ _ _ h => h) _ _ (g4 _ _ _ _ D3)
  obtain ⟨hf, ω, t4, D4⟩ := h'
  exact ⟨hf, b, t4, D4.sub (fun x hx => List.mem_append_right _ (mem_rest.mpr ⟨hx, fun h => nomatch h⟩)) (by simp) (fun _ h => nomatch h)⟩
theorem func_ok {w : World} {b1 b2 : Bool} {E : R.World0} (HEo : EOk (wb w b1 b2) E) (hP : E.P0 ≤ 290) (hh : E.h0.objs.size ≤ 290) {pa : Option Value} {q2 : Pos} {p : Pos} {t t0 : Nat} {s : Shared} {τ : Nat → Nat} {ns : List Int} (hns : ns.length ≤ 63) (D : HoldP E (T0c (pp w b1 b2) τ (listV (intVals t0 ns).toArray 0)) [] 284 t s) :
    wpCode E.M ⟨cdF (pp w b1 b2), none, none, [(.builtin "claim.caller" {}, q2)], pa⟩ (fun r s' => r = .ok (.ret (.bool true)) ∧ ∃ b t, HoldP E [(281, listV (intVals t0 ns).toArray 0)] [] b t s') p s := by
  have z := body_ok HEo hP hh (pa := pa) (q2 := q2) (p := p) hns D
  rw [HEo.M] at z ⊢
  rw [wpCode_iff_wp]
  show Sem.wp _ _ (Sem.point _ fun _ => ((execs (lawStmts (pp w b1 b2)) (envL (pp w b1 b2))).onRaise (leaving (envL (pp w b1 b2))) >>= fun f => match f with | .ret v => ret v | _ => ret .none)) _ _ p s
  rw [Sem.wp_point, Sem.wp_bind', Sem.wp_onRaise]
  refine Sem.wp_mono _ _ _ (fun f p' s' h' => ?_) (fun _ _ _ h => h.elim) _ _ z
  obtain ⟨rfl, h⟩ := h'
  exact ⟨rfl, h⟩
noncomputable def bodyQ (P : Params) (o3 : Obj) (q2 : Pos) (bl : List (Code × Pos)) (c : Code) (S : SS) : Prop := c = cdF P ∧ bl = [(.builtin "claim.caller" {}, q2)] ∧ (∃ τ, ∀ x ∈ T0c P τ o3, x ∈ S.T) ∧ S.b + S.j = 284 ∧ ∃ t, S.tb + S.ti = t + 2595
noncomputable def bodyRule (P : Params) (o3 : Obj) (q2 : Pos) : Rule := fun Γ c S hs ω acc cs => match Γ.handled with
  | some _ => none
  | none => match Γ.own with
    | some _ => none
    | none => some ⟨.ok (.ret (.bool true)), ⟨[(281, o3)], ω 0, 0, ω 1, 0⟩, hs, shift ω, acc, bodyQ P o3 q2 Γ.below c S :: cs⟩
theorem bodyRule_valid {w : World} {b1 b2 : Bool} {E : R.World0} (HEo : EOk (wb w b1 b2) E) (hP : E.P0 ≤ 290) (hh : E.h0.objs.size ≤ 290) (hK : E.K = []) {q2 : Pos} {t0 : Nat} {ns : List Int} (hns : ns.length ≤ 63) {B : Nat} : R.Valid E B (bodyRule (pp w b1 b2) (listV (intVals t0 ns).toArray 0) q2) := by
  refine ⟨fun {Γ c S hs ω acc cs o} e => ?_, fun {Γ c S hs acc cs p s} hc hf D hh' => ?_⟩
  · unfold bodyRule at e
    split at e
    · cases e
    · split at e
      · cases e
      · cases e
        exact ⟨fun _ x => x, fun _ x => .tail _ x⟩
  · obtain ⟨o, e, hH⟩ := hh' fun _ => 0
    unfold bodyRule at e
    split at e
    · cases e
    · rename_i h1
      split at e
      · cases e
      · rename_i h2
        cases e
        obtain ⟨rfl, hb, ⟨τ, hT⟩, hn, t, ht⟩ := hH.2 _ (.head _)
        obtain ⟨c', hd, ow, bl, pa⟩ := Γ
        dsimp only at hc h1 h2 hb
        subst hc h1 h2 hb
        have D' : HoldP E (T0c (pp w b1 b2) τ (listV (intVals t0 ns).toArray 0)) [] 284 t s :=
          ⟨⟨D.size.trans hn, D.toks.trans ht, fun x hx => D.cell x (hT x hx), (show ([282, 283, 281] : List Nat).Nodup by decide), fun x hx => D.own x (hT x hx), D.known, D.keep, by have := D.low; rw [hn] at this; exact this, by have := D.old; rw [hn] at this; exact this, D.gens, D.drawn, D.os, D.froz, by have := D.told; rw [ht] at this; exact this⟩, fun _ h => nomatch h⟩
        refine wpCode_mono ?_ (func_ok HEo hP hh hns (pa := pa) (p := p) D')
        rintro r s' ⟨rfl, b, t', D2⟩
        refine ⟨fun n => match n with | 0 => b | _ => t' + 2595, ⟨.ok (.ret (.bool true)), ⟨[(281, listV (intVals t0 ns).toArray 0)], b, 0, t' + 2595, 0⟩, hs, fun _ => 0, acc, bodyQ (pp w b1 b2) (listV (intVals t0 ns).toArray 0) q2 [(.builtin "claim.caller" {}, q2)] (cdF (pp w b1 b2)) S :: cs⟩, fun ω => ?_, rfl, D2.rep⟩
        unfold bodyRule
        dsimp only
        rw [shift_mix]
        rfl
noncomputable def rulesE (P : Params) (o3 : Obj) (q2 : Pos) : Nat → Rule
  | 0 => bodyRule P o3 q2
  | _ => noRule 0
theorem entry (w : World) (b1 b2 : Bool) (p q2 : Pos) (t : Nat) (ω : Nat → Nat) (o3 : Obj) :
    Checks (R.ev (FW (wb w b1 b2) [] (rulesE (pp w b1 b2) o3 q2)) 1000000 20 ⟨.call (.ref 280) ⟨[.ref 281], []⟩, none, none, [(.builtin "claim.caller" {}, q2)], none⟩ p (R.den2 (.call (.ref 280) ⟨[.ref 281], []⟩)) [] ⟨[(281, o3)], 282, 0, t + 2595, 0⟩ [0,0,2,2,0,1] ω [] []) [0] (.ok (.ret (.bool true))) [(281, o3)] (ω 0) (ω 1)
      [bodyQ (pp w b1 b2) o3 q2 [(.builtin "claim.caller" {}, q2)] (cdF (pp w b1 b2)) ⟨[(283, cell0), (282, frM (pp w b1 b2) (frKeys.take 1) (fun _ => t + 2595) [.ref 281]), (281, o3)], 282, 2, t + 2595, 1⟩] := by
  cases b1 <;> kernel_rfl
noncomputable def posOf (a : Nat) : List Nat → Nat
  | [] => 0
  | x :: l => match Nat.beq x a with
    | true => 0
    | false => posOf a l + 1
noncomputable def ents : Nat → Nat → KT → List (Nat × Obj)
  | _, _, .nil => []
  | s, b, .node v l r => (match v with | some o => [(b, o)] | none => []) ++ (ents (2 * s) (s + b) l ++ ents (2 * s) (2 * s + b) r)
theorem holds_ents {h : Heap} : ∀ {t : KT} {s b : Nat}, (∀ x ∈ ents s b t, h.get? x.1 = some x.2) → KT.Holds h s b t
  | .nil, _, _, _ => trivial
  | .node v l r, s, b, H => by
    refine ⟨fun o ho => ?_, holds_ents fun x hx => H x ?_, holds_ents fun x hx => H x ?_⟩
    · subst ho
      exact H (b, o) (List.mem_append_left _ (.head _))
    · exact List.mem_append_right _ (List.mem_append_left _ hx)
    · exact List.mem_append_right _ (List.mem_append_right _ hx)
theorem ents_in (P : Params) : ((ents 1 0 (kt P)).map fun x => gt (sg5T P) (posOf x.1 ((sg5T P).map (·.1)))) = (ents 1 0 (kt P)).map some := by kernel_rfl
theorem known_of {w : World} {s : Shared} (G : Good w s) : ∀ i o, (kt w.params).get i = some o → s.heap.get? i = some o := by
  intro i o e
  have H : KT.Holds s.heap 1 0 (kt w.params) := holds_ents fun x hx => by
    have h1 := List.map_inj_left.mp (ents_in w.params) x hx
    exact G.cell x (gt_mem h1)
  have := H.get e
  simpa using this
theorem walk : Walk := by
  intro w s ns G hlen
  obtain ⟨b1, b2, e⟩ := wb_self w
  rw [← e] at G ⊢
  clear e
  have hsz : s.heap.objs.size = 281 := G.size
  have htk : s.toks = 2595 := G.toks
  have hpush : (withScript s ns).heap.objs.size = 282 := by
    show (s.heap.push _).objs.size = 282
    rw [Heap.size_push, hsz]
  let E : R.World0 := ⟨model pw2 (wb w b1 b2), kt (wb w b1 b2).params, [], 2595, 281, (withScript s ns).heap, [281], #[], {}, os0⟩
  have HEo : EOk (wb w b1 b2) E := ⟨rfl, rfl, rfl⟩
  have hP : E.P0 ≤ 290 := by show 281 ≤ 290; decide
  have hh : E.h0.objs.size ≤ 290 := by show (withScript s ns).heap.objs.size ≤ 290; omega
  have c281 : (withScript s ns).heap.get? 281 = some (listV (intVals 2595 ns).toArray 0) := by
    show (s.heap.push (scriptObj s.toks ns)).get? 281 = _
    rw [← hsz, htk]
    exact Heap.get?_push_size _ rfl
  have D : R.Rep E ⟨[(281, listV (intVals 2595 ns).toArray 0)], 282, 0, ns.length + 2595, 0⟩ (withScript s ns) := by
    refine ⟨hpush, ?_, ?_, by simp, ?_, fun i o hi => ?_, fun b o e _ => e, by show 281 ≤ 282; decide, by show (withScript s ns).heap.objs.size ≤ 282; omega, G.gens, G.drawn, G.os, (fun _ h => nomatch h), by show 2595 ≤ ns.length + 2595 + 0; omega⟩
    · show s.toks + ns.length = ns.length + 2595 + 0
      omega
    · exact ac c281 an
    · exact ac ⟨Nat.le_refl _, .inl (.head _)⟩ an
    · have h1 := known_of G i o hi
      have h2 := Heap.lt_size h1
      rw [hsz] at h2
      exact ⟨h2, Heap.get?_push_of_some _ h1⟩
  have H : R.Fits E (FW (wb w b1 b2) [] (rulesE (pp w b1 b2) (listV (intVals 2595 ns).toArray 0) default)) 660 :=
    fitsW HEo (by decide) rfl fun r => match r with
      | 0 => bodyRule_valid HEo hP hh rfl hlen
      | _ + 1 => R.noRule_valid E 660 0
  have z := R.code_wp H (Γ := ⟨.call (.ref 280) ⟨[.ref 281], []⟩, none, none, [(.builtin "claim.caller" {}, default)], none⟩) (d := 20) (p := default) ⟨Nat.le_of_ble_eq_true (by kernel_rfl), R.weight_le rfl⟩
    (fun ω => entry w b1 b2 default default ns.length ω (listV (intVals 2595 ns).toArray 0)) (by decide)
    (fun ω => ac ⟨rfl, rfl, ⟨fun _ => ns.length + 2595, ac (.tail _ (.head _)) (ac (.head _) (ac (.tail _ (.tail _ (.head _))) an))⟩, rfl, ns.length + 1, (Nat.add_right_comm ns.length 2595 1)⟩ an) D
  rw [hsz]
  show Sem.wp (model pw (wb w b1 b2)) rootK (runValue (.call (.ref 280) ⟨[.ref 281], []⟩)) _ _ default (withScript s ns)
  unfold runValue
  rw [Sem.wp_bind']
  unfold run
  rw [Sem.wp_call]
  refine wpCode_mono ?_ z
  rintro r s' ⟨ω, rfl, D1⟩
  show Sem.wp _ _ (Sem.pure (Flow.ret (Value.bool true))) _ _ default s'
  rw [Sem.wp_pure]
  show Sem.wp _ _ (Sem.pure (Value.bool true)) _ _ default s'
  rw [Sem.wp_pure]
  refine ⟨rfl, fun b o hb => ?_, D1.os.trans G.os.symm, D1.gens⟩
  by_cases h : b = 281
  · subst h
    rw [c281] at hb
    rw [← hb]
    exact D1.cell _ (.head _)
  · exact D1.keep b o hb (by show b ∉ ([281] : List Nat); simpa using h)
theorem law2 : PySem.Challenge.rw_we0033_02.Holds := holds_of_walk walk
end Mine.B
end
theorem PySem.Challenge.cw_we0033_02_holds : PySem.Challenge.rw_we0033_02.Holds :=
  Mine.B.law2
