import PyProof.Rows.All
import Wide.All
import OpenK.AllK
import Wide.FinOn
import Lean
import PySem.Challenge.RW_pe0217_01
set_option Elab.async false
set_option maxRecDepth 100000
set_option linter.all false
set_option genInjectivity false
set_option genSizeOf false
set_option genSizeOfSpec false

namespace Mine
noncomputable section
open PySem PySem.W PySem.W.X

structure Ent where
  a : Addr
  o : Obj
  own : Bool

inductive Fr where
  | ret (Γ : Ctx) (p : Pos) (k : Result → Sem Fin)
  | gen (Γ : Ctx) (p : Pos) (g : Nat) (k : GenResult → Sem Fin)

structure Hook where
  c : Code
  pre : List (Nat × Addr × Obj × Option Obj)
  res : Nat → Addr → Result
  news : Addr → List Obj
  toks : Nat

structure Cx where
  prog : Program
  w : World
  kt : KT
  tabs : List Nat
  hooks : List Hook

structure St where
  Γ : Ctx
  p : Pos
  t : Sem Fin
  κ : List Fr
  env : List Ent
  gl : List GenState
  N : Nat
  m : Nat
  T : Nat
  i : Nat
  eqs : List (Addr × Addr)
  ceqs : List (Code × Code)
  oeqs : List (Obj × Obj)

noncomputable abbrev den : Code → Sem Fin := PySem.W.Fast.tw11892475500146522536 PySem.W.Fast.tw14364793385576792824
theorem den_eq : denote table = den := by
  rw [table_eq_tree, PySem.W.Fast.te11892475500146522536, PySem.W.Fast.te14364793385576792824]

noncomputable def nth : List Ent → Nat → Option Ent
  | [], _ => none
  | e :: _, 0 => some e
  | _ :: l, n + 1 => nth l n

noncomputable def putAt : List Ent → Nat → Obj → List Ent
  | [], _, _ => []
  | e :: l, 0, o => ⟨e.a, o, e.own⟩ :: l
  | e :: l, n + 1, o => e :: putAt l n o

noncomputable def flowVal : Flow → Value
  | .ret v => v
  | _ => .none

noncomputable def quiet (X : Cx) : Nat → St → St
  | 0, s => s
  | n + 1, s => match s with
    | ⟨Γ, p, t, κ, env, gl, N, m, T, i, eqs, ceqs, oeqs⟩ => match t with
      | .rule _ k => quiet X n ⟨Γ, p, k (), κ, env, gl, N, m, T, i, eqs, ceqs, oeqs⟩
      | .at q k => quiet X n ⟨Γ, q, k (), κ, env, gl, N, m, T, i, eqs, ceqs, oeqs⟩
      | .point _ k => quiet X n ⟨Γ, p, k (), κ, env, gl, N, m, T, i, eqs, ceqs, oeqs⟩
      | .ask k => quiet X n ⟨Γ, p, k ⟨X.prog, X.w.params⟩, κ, env, gl, N, m, T, i, eqs, ceqs, oeqs⟩
      | .fresh k => quiet X n ⟨Γ, p, k (Nat.add T i), κ, env, gl, N, m, T, i + 1, eqs, ceqs, oeqs⟩
      | .alloc o k => match o.isFreed with
        | false => quiet X n ⟨Γ, p, k (Nat.add N (Nat.add 292 m)), κ, ⟨Nat.add N (Nat.add 292 m), o, true⟩ :: env, gl, N, m + 1, T, i, eqs, ceqs, oeqs⟩
        | true => s
      | .handled own k => match own with
        | false => quiet X n ⟨Γ, p, k Γ.handled, κ, env, gl, N, m, T, i, eqs, ceqs, oeqs⟩
        | true => s
      | .stack k => quiet X n ⟨Γ, p, k ((Γ.code, p) :: Γ.below), κ, env, gl, N, m, T, i, eqs, ceqs, oeqs⟩
      | .newGen c k => quiet X n ⟨Γ, p, k gl.length, κ, env, gl ++ [.fresh c], N, m, T, i, eqs, ceqs, oeqs⟩
      | .genState g k => match gl[g]? with
        | some gs => quiet X n ⟨Γ, p, k gs.seen, κ, env, gl, N, m, T, i, eqs, ceqs, oeqs⟩
        | none => s
      | .resume g r _ k => match gl[g]? with
        | some gs => match gs with
          | .fresh c => match r with
            | .send v => match v with
              | .none => quiet X n ⟨Γ.wake c p, p, den c, .gen Γ p g k :: κ, env, gl.set g .running, N, m, T, i, eqs, ceqs, oeqs⟩
              | _ => s
            | .throw _ => s
          | .suspended k₀ _ c₀ p₀ fs _ => match fs with
            | [] => quiet X n ⟨Γ.wake c₀ p, p₀, k₀ r, .gen Γ p g k :: κ, env, gl.set g .running, N, m, T, i, eqs, ceqs, oeqs⟩
            | _ :: _ => s
          | .running => s
          | .finished => s
        | none => s
      | .yield v gd l k => match gd with
        | false => match κ with
          | .gen Γ' p' g k' :: κ' => quiet X n ⟨Γ', p', k' (.yielded v), κ', env, gl.set g (.suspended k l Γ.code p [] false), N, m, T, i, eqs, ceqs, oeqs⟩
          | _ => s
        | true => s
      | .raise e => match κ with
        | [] => s
        | .ret Γ' p' k :: κ' => quiet X n ⟨Γ', p', k (.error e), κ', env, gl, N, m, T, i, eqs, ceqs, oeqs⟩
        | .gen Γ' p' g k :: κ' => quiet X n ⟨Γ', p', k (.raised e), κ', env, gl.set g .finished, N, m, T, i, eqs, ceqs, oeqs⟩
      | .pure fin => match fin with
        | .again _ => s
        | .done f => match κ with
          | [] => s
          | .ret Γ' p' k :: κ' => quiet X n ⟨Γ', p', k (.ok f), κ', env, gl, N, m, T, i, eqs, ceqs, oeqs⟩
          | .gen Γ' p' g k :: κ' => quiet X n ⟨Γ', p', k (.returned (flowVal f)), κ', env, gl.set g .finished, N, m, T, i, eqs, ceqs, oeqs⟩
      | _ => s

noncomputable def hookAt : List Hook → Nat → Option Hook
  | [], _ => none
  | h :: _, 0 => some h
  | _ :: l, n + 1 => hookAt l n

noncomputable def lay : List (Nat × Addr × Obj × Option Obj) → List Ent → List (Addr × Addr) → List (Obj × Obj) → Option (List Ent × List (Addr × Addr) × List (Obj × Obj))
  | [], env, eqs, oeqs => some (env, eqs, oeqs)
  | (j, a, o, n) :: r, env, eqs, oeqs => match nth env j with
    | some e => match n with
      | none => lay r env ((e.a, a) :: eqs) ((e.o, o) :: oeqs)
      | some o' => match e.own with
        | true => match o'.isFreed with
          | false => lay r (putAt env j o') ((e.a, a) :: eqs) ((e.o, o) :: oeqs)
          | true => none
        | false => none
    | none => none

noncomputable def pushes (N : Nat) : List Obj → Nat → List Ent → Option (List Ent × Nat)
  | [], m, env => some (env, m)
  | o :: r, m, env => match o.isFreed with
    | false => pushes N r (m + 1) (⟨Nat.add N (Nat.add 292 m), o, true⟩ :: env)
    | true => none

noncomputable def okMark (hd : Option Value) : Bool := match hd with
  | none => true
  | some v => match v with
    | .notImplemented => false
    | _ => true

noncomputable def low (X : Cx) (a : Addr) : Bool := match Nat.blt a 292 with
  | true => match X.tabs.elem a with
    | true => false
    | false => true
  | false => false

noncomputable def act (X : Cx) (o : Nat) (s : St) : Option St := match s with
  | ⟨Γ, p, t, κ, env, gl, N, m, T, i, eqs, ceqs, oeqs⟩ => match t with
    | .load a _ k => match o with
      | 0 => match low X a with
        | true => match X.kt.get a with
          | some ob => some ⟨Γ, p, k ob, κ, env, gl, N, m, T, i, eqs, ceqs, oeqs⟩
          | none => none
        | false => none
      | j + 1 => match nth env j with
        | some e => some ⟨Γ, p, k e.o, κ, env, gl, N, m, T, i, (a, e.a) :: eqs, ceqs, oeqs⟩
        | none => none
    | .loadIfAlive a k => match o with
      | 0 => match low X a with
        | true => match X.kt.get a with
          | some ob => some ⟨Γ, p, k (some ob), κ, env, gl, N, m, T, i, eqs, ceqs, oeqs⟩
          | none => none
        | false => none
      | j + 1 => match nth env j with
        | some e => some ⟨Γ, p, k (some e.o), κ, env, gl, N, m, T, i, (a, e.a) :: eqs, ceqs, oeqs⟩
        | none => none
    | .update a _ f k => match o with
      | 0 => none
      | j + 1 => match nth env j with
        | some e => match e.own with
          | true => match (f e.o).isFreed with
            | false => some ⟨Γ, p, k (), κ, putAt env j (f e.o), gl, N, m, T, i, (a, e.a) :: eqs, ceqs, oeqs⟩
            | true => none
          | false => none
        | none => none
    | .call c hd _ _ k => match o with
      | 0 => match okMark hd with
        | true => some ⟨Γ.enter c hd p, p, den c, .ret Γ p k :: κ, env, gl, N, m, T, i, eqs, ceqs, oeqs⟩
        | false => none
      | j + 1 => match hd with
        | none => match Γ.handled with
          | none => match hookAt X.hooks j with
            | some h => match lay h.pre env eqs oeqs with
              | some (env', eqs', oeqs') => match pushes N (h.news (Nat.add N (Nat.add 292 m))) m env' with
                | some (env'', m') => some ⟨Γ, p, k (h.res (Nat.add T i) (Nat.add N (Nat.add 292 m))), κ, env'', gl, N, m', T, i + h.toks, eqs', (c, h.c) :: ceqs, oeqs'⟩
                | none => none
              | none => none
            | none => none
          | some _ => none
        | some _ => none
    | .pure fin => match fin with
      | .again c => match c.quiet with
        | true => some ⟨Γ.goto c, p, den c, κ, env, gl, N, m, T, i, eqs, ceqs, oeqs⟩
        | false => none
      | .done _ => none
    | _ => none

noncomputable def run (X : Cx) : List Nat → St → Option St
  | [], s => some (quiet X 400 s)
  | o :: os, s => match act X o (quiet X 400 s) with
    | some s' => run X os s'
    | none => none
end
end Mine

namespace Mine
noncomputable section
open PySem PySem.W PySem.W.X

noncomputable def MeansK (M : Model) (Post : End → Shared → Prop) : List Fr → Ctx → Pos → Sem Fin → Shared → Prop
  | [], Γ, p, t, s => ∃ e s', Runs M Γ p t [] s e s' ∧ Post e s'
  | .ret Γ' p' k :: κ, Γ, p, t, s => ∃ r s₁, Runs M Γ p t [] s (.ret r) s₁ ∧ MeansK M Post κ Γ' p' (k r) s₁
  | .gen Γ' p' g k :: κ, Γ, p, t, s => ∃ e s₁, Runs M Γ p t [] s e s₁ ∧ e.quiet = true ∧ MeansK M Post κ Γ' p' (k e.result) (s₁.setGen g e.genState)

section
variable {M : Model} {Post : End → Shared → Prop} {κ : List Fr} {Γ Γ' : Ctx} {p p' : Pos} {t t' : Sem Fin} {s s₂ : Shared}
theorem means_step (h : ∀ e s', Runs M Γ' p' t' [] s₂ e s' → Runs M Γ p t [] s e s') (H : MeansK M Post κ Γ' p' t' s₂) : MeansK M Post κ Γ p t s := by
  cases κ with
  | nil => obtain ⟨e, s', r, q⟩ := H; exact ⟨e, s', h _ _ r, q⟩
  | cons f κ =>
    cases f with
    | ret Γ₁ p₁ k => obtain ⟨r, s₁, x, q⟩ := H; exact ⟨r, s₁, h _ _ x, q⟩
    | gen Γ₁ p₁ g k => obtain ⟨e, s₁, x, y, q⟩ := H; exact ⟨e, s₁, h _ _ x, y, q⟩
theorem means_call {c : Code} {hd : Option Value} {g : Bool} {l : List Value} {k : Result → Sem Fin} (H : wpCode M (Γ.enter c hd p) (fun r s' => MeansK M Post κ Γ p (k r) s') p s) : MeansK M Post κ Γ p (.call c hd g l k) s := by
  obtain ⟨r, s₁, hr, q⟩ := H
  exact means_step (fun e s' x => .call hr x) q
theorem means_in {c : Code} {hd : Option Value} {g : Bool} {l : List Value} {k : Result → Sem Fin} (H : MeansK M Post (.ret Γ p k :: κ) (Γ.enter c hd p) p (M.den c) s) : MeansK M Post κ Γ p (.call c hd g l k) s := by
  obtain ⟨r, s₁, hr, q⟩ := H
  exact means_step (fun e s' x => .call hr x) q
theorem means_again {c : Code} (hq : c.quiet = true) (H : MeansK M Post κ (Γ.goto c) p (M.den c) s) : MeansK M Post κ Γ p (.pure (.again c)) s :=
  means_step (fun _ _ x => .again hq x) H
end

structure Rep (X : Cx) (h₀ : Heap) (st : St) (h : Heap) : Prop where
  size : h.objs.size = Nat.add st.N (Nat.add 292 st.m)
  env : ∀ e ∈ st.env, h.get? e.a = some e.o
  apart : st.env.Pairwise fun e f => (e.own = true ∨ f.own = true) → e.a ≠ f.a
  keep : ∀ b o, h₀.get? b = some o → (∀ e ∈ st.env, e.own = true → e.a ≠ b) → h.get? b = some o
  high : ∀ e ∈ st.env, e.own = true → 292 ≤ e.a ∨ e.a ∈ X.tabs
  old : h₀.objs.size ≤ h.objs.size
  glob : ∀ a ob, low X a = true → X.kt.get a = some ob → h₀.get? a = some ob

theorem nth_mem : ∀ {l : List Ent} {j : Nat} {e : Ent}, nth l j = some e → e ∈ l
  | [], _, _, h => nomatch h
  | e :: _, 0, _, h => by cases h; exact .head _
  | _ :: l, j + 1, _, h => .tail _ (nth_mem (l := l) h)

theorem putAt_addrs : ∀ (l : List Ent) (j : Nat) (o : Obj), (putAt l j o).map (fun e => (e.a, e.own)) = l.map (fun e => (e.a, e.own))
  | [], _, _ => rfl
  | e :: l, 0, o => rfl
  | e :: l, j + 1, o => by
    show (e.a, e.own) :: (putAt l j o).map _ = _
    rw [putAt_addrs l j o]; rfl

theorem pairwise_of_map {l l' : List Ent} (h : l'.map (fun e => (e.a, e.own)) = l.map (fun e => (e.a, e.own)))
    (H : l.Pairwise fun e f => (e.own = true ∨ f.own = true) → e.a ≠ f.a) : l'.Pairwise fun e f => (e.own = true ∨ f.own = true) → e.a ≠ f.a := by
  have q : (l.map (fun e => (e.a, e.own))).Pairwise (fun x y => (x.2 = true ∨ y.2 = true) → x.1 ≠ y.1) := List.pairwise_map.mpr H
  rw [← h] at q
  exact List.pairwise_map.mp q

theorem own_of_map {l l' : List Ent} (h : l'.map (fun e => (e.a, e.own)) = l.map (fun e => (e.a, e.own))) {e : Ent} (he : e ∈ l') : ∃ f ∈ l, f.a = e.a ∧ f.own = e.own := by
  have : (e.a, e.own) ∈ l.map (fun e => (e.a, e.own)) := by rw [← h]; exact List.mem_map_of_mem he
  obtain ⟨f, hf, q⟩ := List.mem_map.mp this
  exact ⟨f, hf, congrArg Prod.fst q, congrArg Prod.snd q⟩

theorem putAt_get {h : Heap} {f : Obj → Obj} : ∀ {l : List Ent} {j : Nat} {e : Ent}, nth l j = some e → e.own = true → (f e.o).isFreed = false →
    (∀ x ∈ l, h.get? x.a = some x.o) → (l.Pairwise fun e f => (e.own = true ∨ f.own = true) → e.a ≠ f.a) → ∀ x ∈ putAt l j (f e.o), (h.update e.a f).get? x.a = some x.o
  | [], _, _, h', _, _, _, _ => nomatch h'
  | y :: l, 0, e, h', own, hf, H, P => by
    cases h'
    have hs : Heap.SameBut y.a h (h.update y.a f) := Heap.SameBut.update ..
    intro x hx
    rcases List.mem_cons.mp hx with rfl | hx
    · first | exact Heap.get?_update_self f (H y (.head _)) hf | exact Heap.get?_update_self _ (H y (.head _)) hf
    · have ne : x.a ≠ y.a := Ne.symm ((List.pairwise_cons.mp P).1 x hx (.inl own))
      exact (hs.2 _ ne).trans (H x (.tail _ hx))
  | y :: l, j + 1, e, h', own, hf, H, P => by
    intro x hx
    rcases List.mem_cons.mp hx with rfl | hx
    · have hs : Heap.SameBut e.a h (h.update e.a f) := Heap.SameBut.update ..
      have ne : x.a ≠ e.a := (List.pairwise_cons.mp P).1 e (nth_mem (l := l) h') (.inr own)
      exact (hs.2 _ ne).trans (H x (.head _))
    · exact putAt_get (l := l) h' own hf (fun x hx => H x (.tail _ hx)) (List.pairwise_cons.mp P).2 x hx

theorem Rep.put {X : Cx} {h₀ h : Heap} {st st' : St} {j : Nat} {e : Ent} {f : Obj → Obj} (D : Rep X h₀ st h) (hj : nth st.env j = some e) (own : e.own = true) (hf : (f e.o).isFreed = false)
    (e1 : st'.env = putAt st.env j (f e.o)) (e2 : st'.N = st.N) (e3 : st'.m = st.m) : Rep X h₀ st' (h.update e.a f) := by
  have hs : Heap.SameBut e.a h (h.update e.a f) := Heap.SameBut.update ..
  have am := putAt_addrs st.env j (f e.o)
  refine ⟨by rw [hs.1, D.size, e2, e3], ?_, ?_, ?_, ?_, by rw [hs.1]; exact D.old, D.glob⟩
  · rw [e1]; exact putAt_get hj own hf D.env D.apart
  · rw [e1]; exact pairwise_of_map am D.apart
  · intro b o hb hn
    rw [e1] at hn
    have ne : ∀ x ∈ st.env, x.own = true → x.a ≠ b := fun x hx ho => by
      obtain ⟨y, hy, q1, q2⟩ := own_of_map am.symm hx
      rw [← q1]; exact hn y hy (q2.trans ho)
    exact (hs.2 b (Ne.symm (ne e (nth_mem hj) own))).trans (D.keep b o hb ne)
  · rw [e1]
    intro x hx ho
    obtain ⟨y, hy, q1, q2⟩ := own_of_map am hx
    rw [← q1]; exact D.high y hy (q2.trans ho)

theorem Rep.same {X : Cx} {h₀ h : Heap} {st st' : St} (D : Rep X h₀ st h) (e1 : st'.env = st.env) (e2 : st'.N = st.N) (e3 : st'.m = st.m) : Rep X h₀ st' h :=
  ⟨by rw [D.size, e2, e3], by rw [e1]; exact D.env, by rw [e1]; exact D.apart, by rw [e1]; exact D.keep, by rw [e1]; exact D.high, D.old, D.glob⟩

theorem Rep.alloc {X : Cx} {h₀ h : Heap} {st st' : St} {o : Obj} (D : Rep X h₀ st h) (hf : o.isFreed = false) (e1 : st'.env = ⟨Nat.add st.N (Nat.add 292 st.m), o, true⟩ :: st.env) (e2 : st'.N = st.N) (e3 : st'.m = st.m + 1) : Rep X h₀ st' (h.push o) := by
  have hsz := D.size
  have lt : ∀ x ∈ st.env, x.a < h.objs.size := fun x hx => Heap.lt_size (D.env x hx)
  have lt0 : ∀ b o', h₀.get? b = some o' → b < h.objs.size := fun b o' hb => Nat.lt_of_lt_of_le (Heap.lt_size hb) D.old
  refine ⟨?_, ?_, ?_, ?_, ?_, by rw [Heap.size_push]; exact Nat.le_succ_of_le D.old, D.glob⟩
  · rw [Heap.size_push, hsz, e2, e3]; rfl
  · rw [e1]
    intro x hx
    rcases List.mem_cons.mp hx with rfl | hx
    · show (h.push o).get? (Nat.add st.N (Nat.add 292 st.m)) = some o
      rw [← hsz]; exact Heap.get?_push_size _ hf
    · exact Heap.get?_push_of_some _ (D.env x hx)
  · rw [e1]
    refine List.Pairwise.cons (fun x hx _ => ?_) D.apart
    have := lt x hx
    show Nat.add st.N (Nat.add 292 st.m) ≠ x.a
    rw [← hsz]; exact Nat.ne_of_gt this
  · intro b o' hb hn
    rw [e1] at hn
    exact Heap.get?_push_of_some _ (D.keep b o' hb fun x hx ho => hn x (.tail _ hx) ho)
  · rw [e1]
    intro x hx ho
    rcases List.mem_cons.mp hx with rfl | hx
    · left; show 292 ≤ st.N + (292 + st.m); omega
    · exact D.high x hx ho
end
end Mine

namespace Mine
noncomputable section
open PySem PySem.W PySem.W.X

noncomputable def shOf (st : St) (h : Heap) (d : Drawn) (o : OsState) : Shared := ⟨h, ⟨st.gl⟩, d, Nat.add st.T st.i, o⟩
noncomputable def Means (M : Model) (Post : End → Shared → Prop) (st : St) (h : Heap) (d : Drawn) (o : OsState) : Prop := MeansK M Post st.κ st.Γ st.p st.t (shOf st h d o)

theorem set_gens (h : Heap) (gl : List GenState) (d : Drawn) (t : Nat) (o : OsState) (g : Nat) (x : GenState) : (⟨h, ⟨gl⟩, d, t, o⟩ : Shared).setGen g x = ⟨h, ⟨gl.set g x⟩, d, t, o⟩ := by
  unfold Shared.setGen
  have : (⟨gl⟩ : Array GenState).setIfInBounds g x = ⟨gl.set g x⟩ := by simp
  rw [this]

section
variable {X : Cx} {h₀ : Heap} {d : Drawn} {o : OsState} {Post : End → Shared → Prop}

theorem quiet_sound : ∀ (n : Nat) (st : St) (h : Heap), Rep X h₀ st h → (∀ h', Rep X h₀ (quiet X n st) h' → Means (model X.prog X.w) Post (quiet X n st) h' d o) → Means (model X.prog X.w) Post st h d o
  | 0, st, h, D, K => K h D
  | n + 1, st, h, D, K => by
    obtain ⟨Γ, p, t, κ, env, gl, N, m, T, i, eqs, ceqs, oeqs⟩ := st
    have go : ∀ (st' : St), quiet X (n + 1) ⟨Γ, p, t, κ, env, gl, N, m, T, i, eqs, ceqs, oeqs⟩ = quiet X n st' → ∀ h', Rep X h₀ st' h' → Means (model X.prog X.w) Post st' h' d o := fun st' e h' D' =>
      quiet_sound n st' h' D' fun h'' D'' => by rw [← e]; exact K h'' (by rw [e]; exact D'')
    have stay : quiet X (n + 1) ⟨Γ, p, t, κ, env, gl, N, m, T, i, eqs, ceqs, oeqs⟩ = ⟨Γ, p, t, κ, env, gl, N, m, T, i, eqs, ceqs, oeqs⟩ → Means (model X.prog X.w) Post ⟨Γ, p, t, κ, env, gl, N, m, T, i, eqs, ceqs, oeqs⟩ h d o := fun e => by
      have := K h (by rw [e]; exact D)
      rw [e] at this; exact this
    cases t with
    | rule tag k => exact means_step (fun _ _ x => .rule x) (go ⟨Γ, p, k (), κ, env, gl, N, m, T, i, eqs, ceqs, oeqs⟩ rfl h (D.same rfl rfl rfl))
    | «at» q k => exact means_step (fun _ _ x => .at x) (go ⟨Γ, q, k (), κ, env, gl, N, m, T, i, eqs, ceqs, oeqs⟩ rfl h (D.same rfl rfl rfl))
    | point l k => exact means_step (fun _ _ x => .point x) (go ⟨Γ, p, k (), κ, env, gl, N, m, T, i, eqs, ceqs, oeqs⟩ rfl h (D.same rfl rfl rfl))
    | ask k => exact means_step (fun _ _ x => .ask x) (go ⟨Γ, p, k ⟨X.prog, X.w.params⟩, κ, env, gl, N, m, T, i, eqs, ceqs, oeqs⟩ rfl h (D.same rfl rfl rfl))
    | fresh k => exact means_step (fun _ _ x => .fresh x) (go ⟨Γ, p, k (Nat.add T i), κ, env, gl, N, m, T, i + 1, eqs, ceqs, oeqs⟩ rfl h (D.same rfl rfl rfl))
    | stack k => exact means_step (fun _ _ x => .stack x) (go ⟨Γ, p, k ((Γ.code, p) :: Γ.below), κ, env, gl, N, m, T, i, eqs, ceqs, oeqs⟩ rfl h (D.same rfl rfl rfl))
    | alloc ob k =>
      cases hf : ob.isFreed with
      | true => exact stay (by simp only [quiet, hf])
      | false =>
        have D' := D.alloc (st' := ⟨Γ, p, k (Nat.add N (Nat.add 292 m)), κ, ⟨Nat.add N (Nat.add 292 m), ob, true⟩ :: env, gl, N, m + 1, T, i, eqs, ceqs, oeqs⟩) hf rfl rfl rfl
        have z := go _ (by simp only [quiet, hf]) _ D'
        refine means_step (fun _ _ x => .alloc ?_) z
        have e : (shOf ⟨Γ, p, Sem.alloc ob k, κ, env, gl, N, m, T, i, eqs, ceqs, oeqs⟩ h d o).heap.objs.size = Nat.add N (Nat.add 292 m) := D.size
        rw [e]; exact x
    | handled own k =>
      cases own with
      | true => exact stay (by simp only [quiet])
      | false => exact means_step (fun _ _ x => .handled x) (go ⟨Γ, p, k Γ.handled, κ, env, gl, N, m, T, i, eqs, ceqs, oeqs⟩ (by simp only [quiet]) h (D.same rfl rfl rfl))
    | newGen c k =>
      have z := go ⟨Γ, p, k gl.length, κ, env, gl ++ [.fresh c], N, m, T, i, eqs, ceqs, oeqs⟩ (by simp only [quiet]) h (D.same rfl rfl rfl)
      refine means_step (fun _ _ x => .newGen ?_) z
      have e : ({ shOf ⟨Γ, p, Sem.newGen c k, κ, env, gl, N, m, T, i, eqs, ceqs, oeqs⟩ h d o with gens := (Array.mk gl).push (.fresh c) } : Shared) = shOf ⟨Γ, p, k gl.length, κ, env, gl ++ [.fresh c], N, m, T, i, eqs, ceqs, oeqs⟩ h d o := by
        unfold shOf; simp
      show Runs _ _ _ (k (Array.mk gl).size) _ ({ shOf ⟨Γ, p, Sem.newGen c k, κ, env, gl, N, m, T, i, eqs, ceqs, oeqs⟩ h d o with gens := (Array.mk gl).push (.fresh c) } : Shared) _ _
      rw [e]; exact x
    | genState g k =>
      cases hg : gl[g]? with
      | none => exact stay (by simp only [quiet, hg])
      | some gs =>
        have z := go ⟨Γ, p, k gs.seen, κ, env, gl, N, m, T, i, eqs, ceqs, oeqs⟩ (by simp only [quiet, hg]) h (D.same rfl rfl rfl)
        exact means_step (fun _ _ x => .genState (by show (Array.mk gl)[g]? = some gs; simpa using hg) x) z
    | resume g r l k =>
      cases hg : gl[g]? with
      | none => exact stay (by simp only [quiet, hg])
      | some gs =>
        have hg' : (shOf ⟨Γ, p, Sem.resume g r l k, κ, env, gl, N, m, T, i, eqs, ceqs, oeqs⟩ h d o).gens[g]? = some gs := by show (Array.mk gl)[g]? = some gs; simpa using hg
        cases gs with
        | running => exact stay (by simp only [quiet, hg])
        | finished => exact stay (by simp only [quiet, hg])
        | fresh c =>
          cases r with
          | throw _ => exact stay (by simp only [quiet, hg])
          | send v =>
            cases v with
            | none =>
              have z := go ⟨Γ.wake c p, p, den c, .gen Γ p g k :: κ, env, gl.set g .running, N, m, T, i, eqs, ceqs, oeqs⟩ (by simp only [quiet, hg]) h (D.same rfl rfl rfl)
              obtain ⟨e, s₁, x, y, q⟩ := z
              refine means_step (fun _ _ u => .resumeFresh hg' ?_ y u) q
              have e1 : (shOf ⟨Γ, p, Sem.resume g (.send .none) l k, κ, env, gl, N, m, T, i, eqs, ceqs, oeqs⟩ h d o).setGen g .running = shOf ⟨Γ.wake c p, p, den c, .gen Γ p g k :: κ, env, gl.set g .running, N, m, T, i, eqs, ceqs, oeqs⟩ h d o := by
                unfold shOf; rw [set_gens]
              rw [e1]
              show Runs (model X.prog X.w) _ _ (denote table c) _ _ _ _
              rw [den_eq]; exact x
            | _ => exact stay (by simp only [quiet, hg])
        | suspended k₀ l₀ c₀ p₀ fs cl =>
          cases fs with
          | cons _ _ => exact stay (by simp only [quiet, hg])
          | nil =>
            have z := go ⟨Γ.wake c₀ p, p₀, k₀ r, .gen Γ p g k :: κ, env, gl.set g .running, N, m, T, i, eqs, ceqs, oeqs⟩ (by simp only [quiet, hg]) h (D.same rfl rfl rfl)
            obtain ⟨e, s₁, x, y, q⟩ := z
            refine means_step (fun _ _ u => .resumeSuspended hg' ?_ y u) q
            have e1 : (shOf ⟨Γ, p, Sem.resume g r l k, κ, env, gl, N, m, T, i, eqs, ceqs, oeqs⟩ h d o).setGen g .running = shOf ⟨Γ.wake c₀ p, p₀, k₀ r, .gen Γ p g k :: κ, env, gl.set g .running, N, m, T, i, eqs, ceqs, oeqs⟩ h d o := by
              unfold shOf; rw [set_gens]
            rw [e1]; exact x
    | yield v gd l k =>
      cases gd with
      | true => exact stay (by simp only [quiet])
      | false =>
        cases κ with
        | nil => exact stay (by simp only [quiet])
        | cons f κ =>
          cases f with
          | ret Γ' p' k' => exact stay (by simp only [quiet])
          | gen Γ' p' g k' =>
            have z := go ⟨Γ', p', k' (.yielded v), κ, env, gl.set g (.suspended k l Γ.code p [] false), N, m, T, i, eqs, ceqs, oeqs⟩ (by simp only [quiet]) h (D.same rfl rfl rfl)
            refine ⟨_, _, .yield, rfl, ?_⟩
            have e1 : (shOf ⟨Γ, p, Sem.yield v false l k, .gen Γ' p' g k' :: κ, env, gl, N, m, T, i, eqs, ceqs, oeqs⟩ h d o).setGen g (.suspended k l Γ.code p [] false) = shOf ⟨Γ', p', k' (.yielded v), κ, env, gl.set g (.suspended k l Γ.code p [] false), N, m, T, i, eqs, ceqs, oeqs⟩ h d o := by
              unfold shOf; rw [set_gens]
            show MeansK (model X.prog X.w) Post κ Γ' p' (k' (.yielded v)) ((shOf ⟨Γ, p, Sem.yield v false l k, .gen Γ' p' g k' :: κ, env, gl, N, m, T, i, eqs, ceqs, oeqs⟩ h d o).setGen g (.suspended k l Γ.code p [] false))
            rw [e1]; exact z
    | raise e =>
      cases κ with
      | nil => exact stay (by simp only [quiet])
      | cons f κ =>
        cases f with
        | ret Γ' p' k =>
          exact ⟨.error e, _, .raise, go ⟨Γ', p', k (.error e), κ, env, gl, N, m, T, i, eqs, ceqs, oeqs⟩ (by simp only [quiet]) h (D.same rfl rfl rfl)⟩
        | gen Γ' p' g k =>
          have z := go ⟨Γ', p', k (.raised e), κ, env, gl.set g .finished, N, m, T, i, eqs, ceqs, oeqs⟩ (by simp only [quiet]) h (D.same rfl rfl rfl)
          refine ⟨_, _, .raise, rfl, ?_⟩
          have e1 : (shOf ⟨Γ, p, Sem.raise e, .gen Γ' p' g k :: κ, env, gl, N, m, T, i, eqs, ceqs, oeqs⟩ h d o).setGen g .finished = shOf ⟨Γ', p', k (.raised e), κ, env, gl.set g .finished, N, m, T, i, eqs, ceqs, oeqs⟩ h d o := by
            unfold shOf; rw [set_gens]
          show MeansK (model X.prog X.w) Post κ Γ' p' (k (.raised e)) ((shOf ⟨Γ, p, Sem.raise e, .gen Γ' p' g k :: κ, env, gl, N, m, T, i, eqs, ceqs, oeqs⟩ h d o).setGen g .finished)
          rw [e1]; exact z
    | pure fin =>
      cases fin with
      | again c => exact stay (by simp only [quiet])
      | done f =>
        cases κ with
        | nil => exact stay (by simp only [quiet])
        | cons fr κ =>
          cases fr with
          | ret Γ' p' k => exact ⟨.ok f, _, .done, go ⟨Γ', p', k (.ok f), κ, env, gl, N, m, T, i, eqs, ceqs, oeqs⟩ (by simp only [quiet]) h (D.same rfl rfl rfl)⟩
          | gen Γ' p' g k =>
            have z := go ⟨Γ', p', k (.returned (flowVal f)), κ, env, gl.set g .finished, N, m, T, i, eqs, ceqs, oeqs⟩ (by simp only [quiet]) h (D.same rfl rfl rfl)
            refine ⟨_, _, .done, rfl, ?_⟩
            have e0 : (End.ret (.ok f)).result = .returned (flowVal f) := by cases f <;> rfl
            have e1 : (shOf ⟨Γ, p, Sem.pure (.done f), .gen Γ' p' g k :: κ, env, gl, N, m, T, i, eqs, ceqs, oeqs⟩ h d o).setGen g .finished = shOf ⟨Γ', p', k (.returned (flowVal f)), κ, env, gl.set g .finished, N, m, T, i, eqs, ceqs, oeqs⟩ h d o := by
              unfold shOf; rw [set_gens]
            show MeansK (model X.prog X.w) Post κ Γ' p' (k (End.ret (.ok f)).result) ((shOf ⟨Γ, p, Sem.pure (.done f), .gen Γ' p' g k :: κ, env, gl, N, m, T, i, eqs, ceqs, oeqs⟩ h d o).setGen g .finished)
            rw [e0, e1]; exact z
    | unsupported => exact stay (by simp only [quiet])
    | finish => exact stay (by simp only [quiet])
    | load => exact stay (by simp only [quiet])
    | loadIfAlive => exact stay (by simp only [quiet])
    | update => exact stay (by simp only [quiet])
    | register => exact stay (by simp only [quiet])
    | choose => exact stay (by simp only [quiet])
    | os => exact stay (by simp only [quiet])
    | call => exact stay (by simp only [quiet])
    | fork => exact stay (by simp only [quiet])
    | thread => exact stay (by simp only [quiet])
    | await => exact stay (by simp only [quiet])
end
end
end Mine

namespace Mine
noncomputable section
open PySem PySem.W PySem.W.X

noncomputable def PreOk : List (Nat × Addr × Obj × Option Obj) → Heap → Prop
  | [], _ => True
  | (_, a, o, none) :: r, h => h.get? a = some o ∧ PreOk r h
  | (_, a, o, some o') :: r, h => h.get? a = some o ∧ PreOk r (h.update a fun _ => o')
noncomputable def applyPre : List (Nat × Addr × Obj × Option Obj) → Heap → Heap
  | [], h => h
  | (_, _, _, none) :: r, h => applyPre r h
  | (_, a, _, some o') :: r, h => applyPre r (h.update a fun _ => o')

noncomputable def pushAll : List Obj → Heap → Heap
  | [], h => h
  | o :: r, h => pushAll r (h.push o)

noncomputable def Glob (X : Cx) (h : Heap) : Prop := ∀ a ob, low X a = true → X.kt.get a = some ob → h.get? a = some ob
noncomputable def HookOk (X : Cx) (k : Hook) : Prop := ∀ (Γ : Ctx) (p : Pos) (s : Shared) (R : Result → Shared → Prop), Γ.handled = none → Glob X s.heap → PreOk k.pre s.heap →
  R (k.res s.toks s.heap.objs.size) { s with heap := pushAll (k.news s.heap.objs.size) (applyPre k.pre s.heap), toks := s.toks + k.toks } → wpCode (model X.prog X.w) (Γ.enter k.c none p) R p s

structure Good (st : St) : Prop where
  eqs : ∀ x ∈ st.eqs, x.1 = x.2
  ceqs : ∀ x ∈ st.ceqs, x.1 = x.2
  oeqs : ∀ x ∈ st.oeqs, x.1 = x.2
structure Sub (st st' : St) : Prop where
  eqs : ∀ x ∈ st.eqs, x ∈ st'.eqs
  ceqs : ∀ x ∈ st.ceqs, x ∈ st'.ceqs
  oeqs : ∀ x ∈ st.oeqs, x ∈ st'.oeqs
theorem Sub.refl (st : St) : Sub st st := ⟨fun _ h => h, fun _ h => h, fun _ h => h⟩
theorem Sub.trans {a b c : St} (h : Sub a b) (k : Sub b c) : Sub a c := ⟨fun x q => k.eqs x (h.eqs x q), fun x q => k.ceqs x (h.ceqs x q), fun x q => k.oeqs x (h.oeqs x q)⟩
theorem Sub.good {a b : St} (h : Sub a b) (g : Good b) : Good a := ⟨fun x q => g.eqs x (h.eqs x q), fun x q => g.ceqs x (h.ceqs x q), fun x q => g.oeqs x (h.oeqs x q)⟩

theorem quiet_eqs (X : Cx) : ∀ (n : Nat) (st : St), (quiet X n st).eqs = st.eqs ∧ (quiet X n st).ceqs = st.ceqs ∧ (quiet X n st).oeqs = st.oeqs
  | 0, _ => ⟨rfl, rfl, rfl⟩
  | n + 1, st => by
    obtain ⟨Γ, p, t, κ, env, gl, N, m, T, i, eqs, ceqs, oeqs⟩ := st
    have ih := quiet_eqs X n
    cases t <;> simp only [quiet] <;> (repeat' split) <;> first | exact ⟨rfl, rfl, rfl⟩ | exact ⟨trivial, trivial, trivial⟩ | exact ih _
theorem quiet_sub (X : Cx) (n : Nat) (st : St) : Sub st (quiet X n st) := by
  obtain ⟨a, b, c⟩ := quiet_eqs X n st
  exact ⟨by rw [a]; exact fun _ h => h, by rw [b]; exact fun _ h => h, by rw [c]; exact fun _ h => h⟩

theorem lay_sub : ∀ {pre : List (Nat × Addr × Obj × Option Obj)} {env env' : List Ent} {eqs eqs' : List (Addr × Addr)} {oeqs oeqs' : List (Obj × Obj)}, lay pre env eqs oeqs = some (env', eqs', oeqs') → (∀ x ∈ eqs, x ∈ eqs') ∧ (∀ x ∈ oeqs, x ∈ oeqs')
  | [], _, _, _, _, _, _, h => by cases h; exact ⟨fun _ q => q, fun _ q => q⟩
  | (j, a, o, n) :: r, env, env', eqs, eqs', oeqs, oeqs', h => by
    unfold lay at h
    split at h
    · rename_i e he
      cases n with
      | none =>
        have z := lay_sub h
        exact ⟨fun x q => z.1 x (.tail _ q), fun x q => z.2 x (.tail _ q)⟩
      | some o' =>
        dsimp only at h
        split at h
        · split at h
          · have z := lay_sub h
            exact ⟨fun x q => z.1 x (.tail _ q), fun x q => z.2 x (.tail _ q)⟩
          · cases h
        · cases h
    · cases h

theorem act_sub {X : Cx} {o : Nat} {st st' : St} (h : act X o st = some st') : Sub st st' := by
  obtain ⟨Γ, p, t, κ, env, gl, N, m, T, i, eqs, ceqs, oeqs⟩ := st
  unfold act at h
  cases t with
  | load a q k =>
    dsimp only at h
    repeat' split at h
    all_goals first | (cases h; done) | (cases h; exact ⟨fun _ q => q, fun _ q => q, fun _ q => q⟩) | (cases h; exact ⟨fun _ q => .tail _ q, fun _ q => q, fun _ q => q⟩)
  | loadIfAlive a k =>
    dsimp only at h
    repeat' split at h
    all_goals first | (cases h; done) | (cases h; exact ⟨fun _ q => q, fun _ q => q, fun _ q => q⟩) | (cases h; exact ⟨fun _ q => .tail _ q, fun _ q => q, fun _ q => q⟩)
  | update a q f k =>
    dsimp only at h
    repeat' split at h
    all_goals first | (cases h; done) | (cases h; exact ⟨fun _ q => .tail _ q, fun _ q => q, fun _ q => q⟩)
  | call c hd g l k =>
    dsimp only at h
    cases o with
    | zero =>
      dsimp only at h
      split at h
      · cases h; exact ⟨fun _ q => q, fun _ q => q, fun _ q => q⟩
      · cases h
    | succ j =>
      dsimp only at h
      cases hd with
      | some _ => cases h
      | none =>
        dsimp only at h
        split at h
        · split at h
          · split at h
            · rename_i hl
              split at h
              · cases h
                have z := lay_sub hl
                exact ⟨z.1, fun _ q => .tail _ q, z.2⟩
              · cases h
            · cases h
          · cases h
        · cases h
  | pure fin =>
    dsimp only at h
    repeat' split at h
    all_goals first | (cases h; done) | (cases h; exact ⟨fun _ q => q, fun _ q => q, fun _ q => q⟩)
  | _ => cases h

theorem run_sub {X : Cx} : ∀ {os : List Nat} {st st' : St}, run X os st = some st' → Sub st st'
  | [], st, st', h => by cases h; exact quiet_sub X 400 st
  | o :: os, st, st', h => by
    unfold run at h
    split at h
    · rename_i s' hs
      exact (quiet_sub X 400 st).trans ((act_sub hs).trans (run_sub h))
    · cases h

theorem mem_tabs {l : List Nat} {a : Nat} (h : a ∈ l) : l.elem a = true := List.elem_eq_true_of_mem h
theorem low_ne {X : Cx} {a b : Addr} (h : low X a = true) (hb : 292 ≤ b ∨ b ∈ X.tabs) : b ≠ a := by
  unfold low at h
  split at h
  · rename_i h1
    have lt : a < 292 := Nat.le_of_ble_eq_true h1
    split at h
    · cases h
    · rename_i h2
      intro e
      rcases hb with hb | hb
      · rw [e] at hb; exact absurd lt (Nat.not_lt.mpr hb)
      · rw [← e, mem_tabs hb] at h2; cases h2
  · cases h
theorem Rep.globAt {X : Cx} {h₀ h : Heap} {st : St} {a : Addr} {ob : Obj} (D : Rep X h₀ st h) (hl : low X a = true) (hk : X.kt.get a = some ob) : h.get? a = some ob :=
  D.keep a ob (D.glob a ob hl hk) fun e he ho => low_ne hl (D.high e he ho)

theorem lay_sound {X : Cx} {h₀ : Heap} {Γ : Ctx} {p : Pos} {t : Sem Fin} {κ : List Fr} {gl : List GenState} {N m T i : Nat} {E : List (Addr × Addr)} {C : List (Code × Code)} {O : List (Obj × Obj)} : ∀ {pre : List (Nat × Addr × Obj × Option Obj)} {env env' : List Ent} {eqs eqs' : List (Addr × Addr)} {oeqs oeqs' : List (Obj × Obj)} {h : Heap},
    lay pre env eqs oeqs = some (env', eqs', oeqs') → (∀ x ∈ eqs', x.1 = x.2) → (∀ x ∈ oeqs', x.1 = x.2) → Rep X h₀ ⟨Γ, p, t, κ, env, gl, N, m, T, i, E, C, O⟩ h →
    PreOk pre h ∧ Rep X h₀ ⟨Γ, p, t, κ, env', gl, N, m, T, i, E, C, O⟩ (applyPre pre h)
  | [], _, _, _, _, _, _, _, h, _, _, D => by cases h; exact ⟨trivial, D⟩
  | (j, a, o, n) :: r, env, env', eqs, eqs', oeqs, oeqs', hp, h, he, ho, D => by
    unfold lay at h
    split at h
    · rename_i e hj
      cases n with
      | none =>
        have sb := lay_sub h
        have q1 : e.a = a := he _ (sb.1 _ (.head _))
        have q2 : e.o = o := ho _ (sb.2 _ (.head _))
        have z := lay_sound h he ho D
        exact ⟨⟨by rw [← q1, ← q2]; exact D.env e (nth_mem hj), z.1⟩, z.2⟩
      | some o' =>
        dsimp only at h
        split at h
        · rename_i hown
          split at h
          · rename_i hf
            have sb := lay_sub h
            have q1 : e.a = a := he _ (sb.1 _ (.head _))
            have q2 : e.o = o := ho _ (sb.2 _ (.head _))
            have D' : Rep X h₀ ⟨Γ, p, t, κ, putAt env j o', gl, N, m, T, i, E, C, O⟩ (hp.update e.a fun _ => o') :=
              D.put (f := fun _ => o') (st' := ⟨Γ, p, t, κ, putAt env j o', gl, N, m, T, i, E, C, O⟩) hj hown hf rfl rfl rfl
            have z := lay_sound h he ho D'
            subst q1
            exact ⟨⟨by rw [← q2]; exact D.env e (nth_mem hj), z.1⟩, z.2⟩
          · cases h
        · cases h
    · cases h

theorem applyPre_size : ∀ (pre : List (Nat × Addr × Obj × Option Obj)) (h : Heap), (applyPre pre h).objs.size = h.objs.size
  | [], _ => rfl
  | (_, _, _, none) :: r, h => applyPre_size r h
  | (_, a, _, some o') :: r, h => by
    have hs : Heap.SameBut a h (h.update a fun _ => o') := Heap.SameBut.update ..
    exact (applyPre_size r _).trans hs.1
theorem pushes_sound {X : Cx} {h₀ : Heap} {Γ : Ctx} {p : Pos} {t : Sem Fin} {κ : List Fr} {gl : List GenState} {N T i : Nat} {E : List (Addr × Addr)} {C : List (Code × Code)} {O : List (Obj × Obj)} : ∀ {os : List Obj} {m m' : Nat} {env env' : List Ent} {h : Heap},
    pushes N os m env = some (env', m') → Rep X h₀ ⟨Γ, p, t, κ, env, gl, N, m, T, i, E, C, O⟩ h → Rep X h₀ ⟨Γ, p, t, κ, env', gl, N, m', T, i, E, C, O⟩ (pushAll os h)
  | [], _, _, _, _, _, h, D => by cases h; exact D
  | o :: r, m, m', env, env', hp, h, D => by
    unfold pushes at h
    split at h
    · rename_i hf
      show Rep X h₀ _ (pushAll r (hp.push o))
      exact pushes_sound (os := r) h (D.alloc (st' := ⟨Γ, p, t, κ, ⟨Nat.add N (Nat.add 292 m), o, true⟩ :: env, gl, N, m + 1, T, i, E, C, O⟩) hf rfl rfl rfl)
    · cases h

theorem okMark_ne {hd : Option Value} (h : okMark hd = true) : hd ≠ some byPass := by
  rintro rfl
  cases h

section
variable {X : Cx} {h₀ : Heap} {d : Drawn} {ox : OsState} {Post : End → Shared → Prop}
theorem act_sound (HK : ∀ j k, hookAt X.hooks j = some k → HookOk X k) {o : Nat} {st st' : St} {h : Heap} (ha : act X o st = some st') (G : Good st') (D : Rep X h₀ st h)
    (K : ∀ h', Rep X h₀ st' h' → Means (model X.prog X.w) Post st' h' d ox) : Means (model X.prog X.w) Post st h d ox := by
  obtain ⟨Γ, p, t, κ, env, gl, N, m, T, i, eqs, ceqs, oeqs⟩ := st
  unfold act at ha
  cases t with
  | load a q k =>
    dsimp only at ha
    cases o with
    | zero =>
      dsimp only at ha
      split at ha
      · rename_i hl
        split at ha
        · rename_i ob hk
          cases ha
          exact means_step (fun _ _ x => .load (D.globAt hl hk) x) (K h (D.same rfl rfl rfl))
        · cases ha
      · cases ha
    | succ j =>
      dsimp only at ha
      split at ha
      · rename_i e hj
        cases ha
        have q1 : a = e.a := G.eqs _ (.head _)
        subst q1
        exact means_step (fun _ _ x => .load (D.env e (nth_mem hj)) x) (K h (D.same rfl rfl rfl))
      · cases ha
  | loadIfAlive a k =>
    dsimp only at ha
    cases o with
    | zero =>
      dsimp only at ha
      split at ha
      · rename_i hl
        split at ha
        · rename_i ob hk
          cases ha
          have z := K h (D.same rfl rfl rfl)
          refine means_step (fun _ _ x => .loadIfAlive ?_) z
          have e : (shOf ⟨Γ, p, Sem.loadIfAlive a k, κ, env, gl, N, m, T, i, eqs, ceqs, oeqs⟩ h d ox).heap.get? a = some ob := D.globAt hl hk
          rw [e]; exact x
        · cases ha
      · cases ha
    | succ j =>
      dsimp only at ha
      split at ha
      · rename_i e hj
        cases ha
        have q1 : a = e.a := G.eqs _ (.head _)
        subst q1
        have z := K h (D.same rfl rfl rfl)
        refine means_step (fun _ _ x => .loadIfAlive ?_) z
        have e' : (shOf ⟨Γ, p, Sem.loadIfAlive e.a k, κ, env, gl, N, m, T, i, eqs, ceqs, oeqs⟩ h d ox).heap.get? e.a = some e.o := D.env e (nth_mem hj)
        rw [e']; exact x
      · cases ha
  | update a q f k =>
    dsimp only at ha
    cases o with
    | zero => cases ha
    | succ j =>
      dsimp only at ha
      split at ha
      · rename_i e hj
        split at ha
        · rename_i hown
          split at ha
          · rename_i hf
            cases ha
            have q1 : a = e.a := G.eqs _ (.head _)
            subst q1
            have z := K (h.update e.a f) (D.put hj hown hf rfl rfl rfl)
            refine means_step (fun _ _ x => .update ?_ x) z
            have e' : (shOf ⟨Γ, p, Sem.update e.a q f k, κ, env, gl, N, m, T, i, eqs, ceqs, oeqs⟩ h d ox).heap.get? e.a = some e.o := D.env e (nth_mem hj)
            rw [e']; rfl
          · cases ha
        · cases ha
      · cases ha
  | call c hd g l k =>
    dsimp only at ha
    cases o with
    | zero =>
      dsimp only at ha
      split at ha
      · cases ha
        have z := K h (D.same rfl rfl rfl)
        refine means_in ?_
        show MeansK _ _ _ _ _ (denote table c) _
        rw [den_eq]; exact z
      · cases ha
    | succ j =>
      dsimp only at ha
      cases hd with
      | some _ => cases ha
      | none =>
        dsimp only at ha
        split at ha
        · rename_i hdn
          split at ha
          · rename_i hk hh
            split at ha
            · rename_i env' eqs' oeqs' hl
              split at ha
              · rename_i env'' m' hpu
                cases ha
                have q1 : c = hk.c := G.ceqs _ (.head _)
                obtain ⟨p1, D1⟩ := lay_sound hl G.eqs G.oeqs D
                have D2 := pushes_sound hpu D1
                have z := K (pushAll (hk.news (Nat.add N (Nat.add 292 m))) (applyPre hk.pre h)) (D2.same rfl rfl rfl)
                have e1 : Nat.add T i + hk.toks = Nat.add T (i + hk.toks) := Nat.add_assoc ..
                subst q1
                refine means_call (HK j hk hh _ _ _ _ hdn (fun a ob hl hk => D.globAt hl hk) p1 ?_)
                have e2 : h.objs.size = Nat.add N (Nat.add 292 m) := D.size
                show MeansK (model X.prog X.w) Post κ Γ p (k (hk.res (Nat.add T i) h.objs.size)) ⟨pushAll (hk.news h.objs.size) (applyPre hk.pre h), ⟨gl⟩, d, Nat.add T i + hk.toks, ox⟩
                rw [e1, e2]; exact z
              · cases ha
            · cases ha
          · cases ha
        · cases ha
  | pure fin =>
    dsimp only at ha
    cases fin with
    | done _ => cases ha
    | again c =>
      dsimp only at ha
      split at ha
      · rename_i hq
        cases ha
        have z := K h (D.same rfl rfl rfl)
        refine means_again hq ?_
        show MeansK _ _ _ _ _ (denote table c) _
        rw [den_eq]; exact z
      · cases ha
  | _ => cases ha

theorem run_sound (HK : ∀ j k, hookAt X.hooks j = some k → HookOk X k) : ∀ {os : List Nat} {st st' : St} {h : Heap}, run X os st = some st' → Good st' → Rep X h₀ st h →
    (∀ h', Rep X h₀ st' h' → Means (model X.prog X.w) Post st' h' d ox) → Means (model X.prog X.w) Post st h d ox
  | [], st, st', h, hr, _, D, K => by
    cases hr
    exact quiet_sound 400 st h D K
  | o :: os, st, st', h, hr, G, D, K => by
    unfold run at hr
    split at hr
    · rename_i s' hs
      refine quiet_sound 400 st h D fun h' D' => ?_
      exact act_sound HK hs ((run_sub hr).good G) D' fun h'' D'' => run_sound HK hr G D'' K
    · cases hr
end
end
end Mine

namespace Mine
noncomputable section
open PySem PySem.W PySem.W.X

structure Ext (own : List Addr) (h h' : Heap) : Prop where
  keep : ∀ b o, h.get? b = some o → b ∉ own → h'.get? b = some o
  size : h.objs.size ≤ h'.objs.size
theorem Ext.refl (own : List Addr) (h : Heap) : Ext own h h := ⟨fun _ _ e _ => e, Nat.le_refl _⟩
theorem Ext.trans {a b : List Addr} {h h' h'' : Heap} (x : Ext a h h') (y : Ext b h' h'') : Ext (a ++ b) h h'' :=
  ⟨fun c o e n => y.keep c o (x.keep c o e fun q => n (List.mem_append.mpr (.inl q))) fun q => n (List.mem_append.mpr (.inr q)), Nat.le_trans x.size y.size⟩
theorem Ext.mono {a b : List Addr} {h h' : Heap} (x : Ext a h h') (s : ∀ c ∈ a, c ∈ b ∨ h.get? c = none) : Ext b h h' :=
  ⟨fun c o e n => x.keep c o e fun q => (s c q).elim n (fun z => nomatch (e.symm.trans z)), x.size⟩
theorem Ext.glob {X : Cx} {own : List Addr} {h h' : Heap} (x : Ext own h h') (hi : ∀ a ∈ own, 292 ≤ a ∨ a ∈ X.tabs) (g : Glob X h) : Glob X h' := fun a ob hl hk =>
  x.keep a ob (g a ob hl hk) fun q => low_ne hl (hi a q) rfl

noncomputable def ownOf (env : List Ent) : List Addr := (env.filter (·.own)).map (·.a)
theorem mem_own {env : List Ent} {a : Addr} : a ∈ ownOf env ↔ ∃ e ∈ env, e.own = true ∧ e.a = a := by
  unfold ownOf
  simp only [List.mem_map, List.mem_filter]
  constructor
  · rintro ⟨e, ⟨h1, h2⟩, h3⟩; exact ⟨e, h1, h2, h3⟩
  · rintro ⟨e, h1, h2, h3⟩; exact ⟨e, ⟨h1, h2⟩, h3⟩

noncomputable def Grown (st st' : St) : Prop := st'.N = st.N ∧ st.m ≤ st'.m ∧ ∀ e ∈ st'.env, e.own = true → (∃ f ∈ st.env, f.own = true ∧ f.a = e.a) ∨ st.N + (292 + st.m) ≤ e.a
theorem Grown.refl (st : St) : Grown st st := ⟨rfl, Nat.le_refl _, fun e he ho => .inl ⟨e, he, ho, rfl⟩⟩
theorem Grown.trans {a b c : St} (x : Grown a b) (y : Grown b c) : Grown a c := by
  refine ⟨y.1.trans x.1, Nat.le_trans x.2.1 y.2.1, fun e he ho => ?_⟩
  rcases y.2.2 e he ho with ⟨f, hf, hfo, hfa⟩ | q
  · rcases x.2.2 f hf hfo with ⟨g, hg, hgo, hga⟩ | q
    · exact .inl ⟨g, hg, hgo, hga.trans hfa⟩
    · exact .inr (by rw [← hfa]; exact q)
  · have e1 := x.1
    have e2 := x.2.1
    refine .inr (Nat.le_trans ?_ q)
    rw [e1]; omega
theorem grown_same {st st' : St} (e1 : st'.env = st.env) (e2 : st'.N = st.N) (e3 : st'.m = st.m) : Grown st st' := ⟨e2, by omega, fun e he ho => .inl ⟨e, e1 ▸ he, ho, rfl⟩⟩
theorem grown_put {st st' : St} {j : Nat} {o : Obj} (e1 : st'.env = putAt st.env j o) (e2 : st'.N = st.N) (e3 : st'.m = st.m) : Grown st st' := ⟨e2, by omega, fun e he ho => by
  rw [e1] at he
  obtain ⟨f, hf, q1, q2⟩ := own_of_map (putAt_addrs st.env j o) he
  exact .inl ⟨f, hf, q2.trans ho, q1⟩⟩
theorem grown_alloc {st st' : St} {o : Obj} (e1 : st'.env = ⟨st.N + (292 + st.m), o, true⟩ :: st.env) (e2 : st'.N = st.N) (e3 : st'.m = st.m + 1) : Grown st st' := ⟨e2, by omega, fun e he ho => by
  rw [e1] at he
  rcases List.mem_cons.mp he with rfl | he
  · exact .inr (Nat.le_refl _)
  · exact .inl ⟨e, he, ho, rfl⟩⟩
theorem grown_quiet (X : Cx) : ∀ (n : Nat) (st : St), Grown st (quiet X n st)
  | 0, st => Grown.refl st
  | n + 1, st => by
    obtain ⟨Γ, p, t, κ, env, gl, N, m, T, i, eqs, ceqs, oeqs⟩ := st
    have ih := grown_quiet X n
    cases t <;> simp only [quiet] <;> (repeat' split) <;> first
      | exact Grown.refl _
      | (refine Grown.trans ?_ (ih _); first | exact grown_same rfl rfl rfl | exact grown_alloc rfl rfl rfl)
theorem lay_addrs : ∀ {pre : List (Nat × Addr × Obj × Option Obj)} {env env' : List Ent} {eqs eqs' : List (Addr × Addr)} {oeqs oeqs' : List (Obj × Obj)}, lay pre env eqs oeqs = some (env', eqs', oeqs') → env'.map (fun e => (e.a, e.own)) = env.map (fun e => (e.a, e.own))
  | [], _, _, _, _, _, _, h => by cases h; rfl
  | (j, a, o, n) :: r, env, env', eqs, eqs', oeqs, oeqs', h => by
    unfold lay at h
    split at h
    · rename_i e he
      cases n with
      | none => exact lay_addrs h
      | some o' =>
        dsimp only at h
        split at h
        · split at h
          · exact (lay_addrs h).trans (putAt_addrs env j o')
          · cases h
        · cases h
    · cases h
theorem pushes_own {N : Nat} : ∀ {os : List Obj} {m m' : Nat} {env env' : List Ent}, pushes N os m env = some (env', m') → m ≤ m' ∧ ∀ e ∈ env', e ∈ env ∨ N + (292 + m) ≤ e.a
  | [], _, _, _, _, h => by cases h; exact ⟨Nat.le_refl _, fun _ q => .inl q⟩
  | o :: r, m, m', env, env', h => by
    unfold pushes at h
    split at h
    · obtain ⟨k1, k2⟩ := pushes_own h
      refine ⟨by omega, fun e he => ?_⟩
      rcases k2 e he with q | q
      · rcases List.mem_cons.mp q with rfl | q
        · exact .inr (Nat.le_refl _)
        · exact .inl q
      · exact .inr (Nat.le_trans (by omega) q)
    · cases h
theorem grown_act {X : Cx} {o : Nat} {st st' : St} (h : act X o st = some st') : Grown st st' := by
  obtain ⟨Γ, p, t, κ, env, gl, N, m, T, i, eqs, ceqs, oeqs⟩ := st
  unfold act at h
  cases t with
  | load a q k =>
    dsimp only at h
    repeat' split at h
    all_goals first | (cases h; done) | (cases h; exact grown_same rfl rfl rfl)
  | loadIfAlive a k =>
    dsimp only at h
    repeat' split at h
    all_goals first | (cases h; done) | (cases h; exact grown_same rfl rfl rfl)
  | update a q f k =>
    dsimp only at h
    repeat' split at h
    all_goals first | (cases h; done) | (cases h; exact grown_put rfl rfl rfl)
  | call c hd g l k =>
    dsimp only at h
    cases o with
    | zero =>
      dsimp only at h
      split at h
      · cases h; exact grown_same rfl rfl rfl
      · cases h
    | succ j =>
      dsimp only at h
      cases hd with
      | some _ => cases h
      | none =>
        dsimp only at h
        split at h
        · split at h
          · split at h
            · rename_i hl
              split at h
              · rename_i hpu
                cases h
                obtain ⟨k1, k2⟩ := pushes_own hpu
                refine ⟨rfl, k1, fun e he ho => ?_⟩
                rcases k2 e he with he | q
                · obtain ⟨f, hf, q1, q2⟩ := own_of_map (lay_addrs hl) he
                  exact .inl ⟨f, hf, q2.trans ho, q1⟩
                · exact .inr q
              · cases h
            · cases h
          · cases h
        · cases h
  | pure fin =>
    dsimp only at h
    repeat' split at h
    all_goals first | (cases h; done) | (cases h; exact grown_same rfl rfl rfl)
  | _ => cases h
theorem grown_run {X : Cx} : ∀ {os : List Nat} {st st' : St}, run X os st = some st' → Grown st st'
  | [], st, st', h => by cases h; exact grown_quiet X 400 st
  | o :: os, st, st', h => by
    unfold run at h
    split at h
    · rename_i s' hs
      exact (grown_quiet X 400 st).trans ((grown_act hs).trans (grown_run h))
    · cases h

structure On (X : Cx) (st : St) (h : Heap) : Prop where
  size : h.objs.size = st.N + (292 + st.m)
  env : ∀ e ∈ st.env, h.get? e.a = some e.o
  apart : st.env.Pairwise fun e f => (e.own = true ∨ f.own = true) → e.a ≠ f.a
  high : ∀ e ∈ st.env, e.own = true → 292 ≤ e.a ∨ e.a ∈ X.tabs
  glob : Glob X h
theorem On.rep {X : Cx} {st : St} {h : Heap} (D : On X st h) : Rep X h st h := ⟨D.size, D.env, D.apart, fun _ _ e _ => e, D.high, Nat.le_refl _, D.glob⟩

section
variable {X : Cx} {d : Drawn} {ox : OsState} {Post : End → Shared → Prop}
theorem seg (HK : ∀ j k, hookAt X.hooks j = some k → HookOk X k) {os : List Nat} {st st' : St} {h : Heap} (hr : run X os st = some st') (G : Good st') (D : On X st h)
    (K : ∀ h', Ext (ownOf st.env) h h' → On X st' h' → Means (model X.prog X.w) Post st' h' d ox) : Means (model X.prog X.w) Post st h d ox := by
  refine run_sound (h₀ := h) HK hr G D.rep fun h' R => ?_
  have gr := grown_run hr
  have E : Ext (ownOf st.env) h h' := by
    refine ⟨fun b o e n => R.keep b o e fun x hx ho q => ?_, R.old⟩
    rcases gr.2.2 x hx ho with ⟨f, hf, hfo, hfa⟩ | z
    · exact n (mem_own.mpr ⟨f, hf, hfo, hfa.trans q⟩)
    · have lt := Heap.lt_size e
      rw [D.size, ← q] at lt
      exact absurd lt (Nat.not_lt.mpr z)
  refine K h' E ⟨R.size, R.env, R.apart, R.high, E.glob (fun a ha => ?_) D.glob⟩
  obtain ⟨e, he, ho, rfl⟩ := mem_own.mp ha
  exact D.high e he ho
end

inductive Stop where
  | call (c : Code)
  | again (c : Code)
  | done (f : Flow)
  | other
noncomputable def stopOf (t : Sem Fin) : Stop := match t with
  | .call c hd _ _ _ => match hd with
    | none => .call c
    | some _ => .other
  | .pure fin => match fin with
    | .again c => .again c
    | .done f => .done f
  | _ => .other
noncomputable def kOf (t : Sem Fin) : Result → Sem Fin := match t with
  | .call _ _ _ _ k => k
  | _ => fun _ => .unsupported ""
noncomputable def ctxOf (s : St) : Ctx := match stopOf s.t with
  | .call c => s.Γ.enter c none s.p
  | .again c => s.Γ.goto c
  | _ => s.Γ
noncomputable def flat : List Fr → Bool
  | [] => true
  | _ :: _ => false

noncomputable def seen {β : Type} (V : List Ent → β) : Option St → Option (List Addr × List Code × List Obj × Stop × Ctx × β × List GenState × Nat × Nat × Bool)
  | none => none
  | some s => some (s.eqs.map Prod.fst, s.ceqs.map Prod.fst, s.oeqs.map Prod.fst, stopOf s.t, ctxOf s, V s.env, s.gl, s.m, s.i, flat s.κ)
noncomputable def toldA : Option St → List Addr
  | none => []
  | some s => s.eqs.map Prod.snd
noncomputable def toldC : Option St → List Code
  | none => []
  | some s => s.ceqs.map Prod.snd
noncomputable def toldO : Option St → List Obj
  | none => []
  | some s => s.oeqs.map Prod.snd

theorem all_of_map {α : Type} : ∀ {l : List (α × α)}, l.map Prod.fst = l.map Prod.snd → ∀ x ∈ l, x.1 = x.2
  | [], _, _, h => nomatch h
  | y :: l, e, x, h => by
    rw [List.map_cons, List.map_cons] at e
    injection e with e1 e2
    rcases List.mem_cons.mp h with rfl | h
    · exact e1
    · exact all_of_map e2 x h

theorem seen_ok {β : Type} {V : List Ent → β} {o : Option St} {st : Stop} {Γ : Ctx} {es : β} {gl : List GenState} {m i : Nat} {b : Bool}
    (h : seen V o = some (toldA o, toldC o, toldO o, st, Γ, es, gl, m, i, b)) :
    ∃ s, o = some s ∧ Good s ∧ stopOf s.t = st ∧ ctxOf s = Γ ∧ V s.env = es ∧ s.gl = gl ∧ s.m = m ∧ s.i = i ∧ flat s.κ = b := by
  cases o with
  | none => cases h
  | some s =>
    simp only [seen, toldA, toldC, toldO, Option.some.injEq, Prod.mk.injEq] at h
    obtain ⟨h1, h2, h3, h4, h5, h6, h7, h8, h9, h10⟩ := h
    exact ⟨s, rfl, ⟨all_of_map h1, all_of_map h2, all_of_map h3⟩, h4, h5, h6, h7, h8, h9, h10⟩

noncomputable def keyOf : Value → Option Str
  | .str s _ => some s
  | _ => none
noncomputable def kvs (es : List DictEntry) : List (Option Str × Value) := es.map fun e => (keyOf e.key, e.val)
noncomputable def shapeO (o : Obj) : Option (Value × Option Addr × Array (Option Value) × List (Option Str × Value)) := match o.data with
  | .dict es _ => some (o.cls, o.dict, o.slots, kvs es.toList)
  | _ => none
noncomputable def shape : Option Ent → Option (Addr × Option (Value × Option Addr × Array (Option Value) × List (Option Str × Value)))
  | none => none
  | some e => some (e.a, shapeO e.o)
theorem shape_ok {e : Option Ent} {a : Addr} {c : Value} {d : Option Addr} {sl : Array (Option Value)} {l : List (Option Str × Value)} (h : shape e = some (a, some (c, d, sl, l))) :
    ∃ es n own, e = some ⟨a, ⟨c, d, .dict ⟨es⟩ n, sl⟩, own⟩ ∧ kvs es = l := by
  cases e with
  | none => cases h
  | some e =>
    obtain ⟨a', ⟨c', d', dt, sl'⟩, own⟩ := e
    simp only [shape, Option.some.injEq, Prod.mk.injEq] at h
    obtain ⟨rfl, h⟩ := h
    unfold shapeO at h
    cases dt with
    | dict es n =>
      simp only [Option.some.injEq, Prod.mk.injEq] at h
      obtain ⟨rfl, rfl, rfl, h⟩ := h
      exact ⟨es.toList, n, own, rfl, h⟩
    | _ => cases h
noncomputable def mkEs : List (Str × Value) → List (Int × Tok) → List DictEntry
  | (s, v) :: l, (h, t) :: r => ⟨h, .str s t, v⟩ :: mkEs l r
  | _, _ => []
theorem kvs_cons {es : List DictEntry} {s : Str} {v : Value} {l : List (Option Str × Value)} (h : kvs es = (some s, v) :: l) : ∃ hs t r, es = ⟨hs, .str s t, v⟩ :: r ∧ kvs r = l := by
  cases es with
  | nil => cases h
  | cons e r =>
    obtain ⟨hs, k, v'⟩ := e
    simp only [kvs, List.map_cons, List.cons.injEq, Prod.mk.injEq] at h
    obtain ⟨⟨h1, rfl⟩, h2⟩ := h
    cases k with
    | str s' t =>
      simp only [keyOf, Option.some.injEq] at h1
      subst h1
      exact ⟨hs, t, r, rfl, h2⟩
    | _ => cases h1
theorem kvs_nil {es : List DictEntry} (h : kvs es = []) : es = [] := by
  cases es with
  | nil => rfl
  | cons _ _ => cases h
theorem stop_call {t : Sem Fin} {c : Code} (h : stopOf t = .call c) : ∃ g l, t = .call c none g l (kOf t) := by
  unfold stopOf at h
  split at h
  · split at h
    · cases h; exact ⟨_, _, rfl⟩
    · cases h
  · split at h <;> cases h
  · cases h
theorem stop_again {t : Sem Fin} {c : Code} (h : stopOf t = .again c) : t = .pure (.again c) := by
  unfold stopOf at h
  split at h
  · split at h <;> cases h
  · split at h
    · cases h; rfl
    · cases h
  · cases h
theorem stop_done {t : Sem Fin} {f : Flow} (h : stopOf t = .done f) : t = .pure (.done f) := by
  unfold stopOf at h
  split at h
  · split at h <;> cases h
  · split at h
    · cases h
    · cases h; rfl
  · cases h
theorem flat_nil {κ : List Fr} (h : flat κ = true) : κ = [] := by
  cases κ with
  | nil => rfl
  | cons _ _ => cases h

noncomputable def PostR (R : Result → Shared → Prop) : End → Shared → Prop := fun e s => match e with
  | .ret r => R r s
  | .susp .. => False
noncomputable def begin (Γ : Ctx) (p : Pos) (env : List Ent) (gl : List GenState) (N T : Nat) : St := ⟨Γ, p, den Γ.code, [], env, gl, N, 0, T, 0, [], [], []⟩
noncomputable def resume (s : St) (r : Result) (env : List Ent) (gl : List GenState) (N T : Nat) : St := ⟨s.Γ, s.p, kOf s.t r, s.κ, env, gl, N, 0, T, 0, [], [], []⟩
noncomputable def resumeO (o : Option St) (r : Result) (env : List Ent) (gl : List GenState) (N T : Nat) : St := match o with
  | some s => resume s r env gl N T
  | none => ⟨⟨.builtin "" {}, none, none, [], none⟩, default, .unsupported "", [], [], [], 0, 0, 0, 0, [], [], []⟩

section
variable {M : Model} {R : Result → Shared → Prop} {Γ : Ctx} {p : Pos} {s : Shared}
theorem code_of_means {X : Cx} {env : List Ent} {gl : List GenState} {N T : Nat} {h : Heap} {d : Drawn} {ox : OsState} (H : Means (model X.prog X.w) (PostR R) (begin Γ p env gl N T) h d ox) : wpCode (model X.prog X.w) Γ R p ⟨h, ⟨gl⟩, d, T, ox⟩ := by
  obtain ⟨e, s', r, q⟩ := H
  cases e with
  | susp => exact q.elim
  | ret r' =>
    refine ⟨r', s', ?_, q⟩
    show Runs (model X.prog X.w) Γ p (denote table Γ.code) [] _ (.ret r') s'
    rw [den_eq]; exact r
theorem means_done {st : St} {h : Heap} {d : Drawn} {ox : OsState} {f : Flow} (hs : stopOf st.t = .done f) (hk : flat st.κ = true) (q : R (.ok f) (shOf st h d ox)) : Means M (PostR R) st h d ox := by
  unfold Means
  rw [stop_done hs, flat_nil hk]
  exact ⟨_, _, .done, q⟩
theorem means_loop {st : St} {h : Heap} {d : Drawn} {ox : OsState} {c : Code} (hs : stopOf st.t = .again c) (hk : flat st.κ = true) (hq : c.quiet = true) (q : wpCode M (ctxOf st) R st.p (shOf st h d ox)) : Means M (PostR R) st h d ox := by
  unfold Means
  rw [stop_again hs, flat_nil hk]
  refine means_again hq ?_
  obtain ⟨r, s', hr, q⟩ := q
  have e : ctxOf st = st.Γ.goto c := by unfold ctxOf; rw [hs]
  rw [e] at hr
  exact ⟨.ret r, s', hr, q⟩
theorem means_cut {Post : End → Shared → Prop} {st : St} {h : Heap} {d : Drawn} {ox : OsState} {c : Code} (hs : stopOf st.t = .call c)
    (q : wpCode M (ctxOf st) (fun r s' => MeansK M Post st.κ st.Γ st.p (kOf st.t r) s') st.p (shOf st h d ox)) : Means M Post st h d ox := by
  obtain ⟨g, l, e⟩ := stop_call hs
  have e' : ctxOf st = st.Γ.enter c none st.p := by unfold ctxOf; rw [hs]
  rw [e'] at q
  unfold Means
  rw [e]
  exact means_call q
end
end
end Mine

namespace Hd
open PySem PySem.Spec PySem.Calls PyProof.Rows PySem.W

noncomputable def Γ0 : PySem.Ctx := ⟨.builtin "claim.caller" {}, none, none, [], none⟩

theorem thread_endsC {prog : Program} {w : World} {t : Sem Fin} {s : Shared} {R : Result → Shared → Prop} (hreg : s.asleep)
    (h : Sem.wp (model prog w) Γ0 t (fun fin _ s' => ∃ f, fin = .done f ∧ (R (.ok f) s' ∧ leftWithCleanup s'.gens = false)) (fun e _ s' => R (.error e) s' ∧ leftWithCleanup s'.gens = false) default s) :
    ∃ n r s' s'', runN (denote table) prog w n s ⟨t, .builtin "claim.caller" {}, default, []⟩ = .halted (outcomeOf r) s' ∧
      schedN (denote table) prog w n (.single s ⟨t, .builtin "claim.caller" {}, default, []⟩) = .halted (outcomeOf r) s' ∧ s'.forget = s''.forget ∧ R r s'' := by
  have h' : Sem.wp (model prog w) Γ0 t (Sem.finPost (model prog w) Γ0 fun r s' => R r s' ∧ leftWithCleanup s'.gens = false) (fun e _ s' => R (.error e) s' ∧ leftWithCleanup s'.gens = false) default s :=
    Sem.wp_mono _ _ _ (fun fin p s' q => by obtain ⟨f, rfl, z⟩ := q; exact z) (fun _ _ _ q => q) _ _ h
  obtain ⟨n, r, s₁, s₂, hs, hn, hfo, hR⟩ := wp_halts_full (M := model prog w) (R := R) hreg h'
  exact ⟨n, r, s₂, s₁, hn, hs, hfo, hR⟩

theorem callFromC {c : ClaimW} {tree : List Value → Sem Fin} {w : World} {s : Shared} {free : Addr → Prop} {gens : Prop} {kept : Heap → Prop} (hz : s.asleep) (hgens : s.gens = #[])
    (hspec : ∀ args, c.pre args = true → WData.layableAll args = true → ∀ ord : List DictEntry → List DictEntry, (∀ l, (ord l).Perm l) →
      ∃ vs s₁, layAllW c.records (classAt s.heap) w.params ord args s = some (vs, s₁) ∧
        Sem.wp (model c.prog w) Γ0 (tree vs) (fun fin _ s' => ∃ f, fin = .done f ∧ (c.Ends s args vs s₁ (.ok f) s' ∧ s'.os = s.os ∧ AllBare s'.gens ∧ kept s'.heap))
          (fun e _ s' => c.Ends s args vs s₁ (.error e) s' ∧ s'.os = s.os ∧ AllBare s'.gens ∧ kept s'.heap) default s₁) :
    c.CallFrom (fun vs => ⟨tree vs, .builtin "claim.caller" {}, default, []⟩) w free gens kept s := by
  intro args hpre hlay ord hord
  obtain ⟨vs, s₁, hlaid, hcode⟩ := hspec args hpre hlay ord hord
  have hal := layAllW_rest _ _ _ hlaid
  obtain ⟨k, r, s', s'', hrun, hsched, hfo, hcase, hos, hkp⟩ := thread_endsC (prog := c.prog) (w := w) (t := tree vs) (s := s₁)
    (R := fun r s' => c.Ends s args vs s₁ r s' ∧ s'.os = s.os ∧ kept s'.heap) (Shared.asleep_of_life hal.2.2.2 hz)
    (Sem.wp_mono _ _ _ (fun fin _ s' q => by
      obtain ⟨f, e, h1, h2, h3, h4⟩ := q
      exact ⟨f, e, ⟨h1, h2, h4⟩, leftWithCleanup_false_of_bare h3⟩) (fun e _ s' q => by
      obtain ⟨h1, h2, h3, h4⟩ := q
      exact ⟨⟨h1, h2, h4⟩, leftWithCleanup_false_of_bare h3⟩) _ _ hcode)
  obtain ⟨eh, _, _, eo, _⟩ := Shared.forget_eq hfo
  have hcase := hcase.congr eh
  rw [← eh] at hkp
  rw [← eo] at hos
  have hlife : s'.heap.life = s.heap.life := (runN_life _ _ _ hrun).trans hal.2.2.2
  refine ⟨vs, s₁, hlaid, k, _, s', hsched, ?_, (fun _ i x hx => by rw [hgens] at hx; simp at hx), hkp, by rw [hlife], Shared.rest_eq hos⟩
  rcases hcase with ⟨v, rfl, d1, d2, d3, d4, d5⟩ | ⟨e, ob, cls, rfl, d1, d2, d3, d4, d5⟩
  · exact .inl ⟨v, rfl, d1, d2, d3, fun b o y _ => d4 b o y, d5⟩
  · exact .inr ⟨e, ob, cls, rfl, d1, d2, d3, d4, fun b o y _ => d5 b o y⟩

noncomputable abbrev WalkC (q : Program) (loose : List Str) (XP : (Str → Option Value) → Heap → Prop) {α : Type} (Yf : Shared → α) (Ya : World → α) (r : RowW) (d : DefRec) (kwd : List (Str × Expr)) (run : Value → List Value → Sem Value) : Prop :=
  ∀ (w : World) (s₀ s₁ : Shared) (mg mb : Str → Option Value), Ground q loose r.records XP w s₀ mg mb s₁.heap → Yf s₀ = Ya w → ∀ (a : Addr) (o : Obj) (pm cd doc dV kV : Value), s₁.heap.get? a = some o →
    o.data = .func { docDef d.name d.params d.body d.scope pm cd doc with defaults := dV, kwdefaults := kV } → s₁.heap.CodeRec cd d.name → Dflts mg s₁.heap d.params kwd dV kV → mg d.name = some (.ref a) → s₁.gens = #[] →
    ∀ (args : List WData) (vals : List Value) (as : List Addr), Laid r.records w s₀ s₁ args vals as → r.claim.pre args = true → WData.layableAll args = true → ReadsAllW r.records (classAt s₀.heap) s₁.heap vals args as → WellAll w.params s₁.heap vals args → (∀ a ∈ as, (a == sysModules) = false) →
      Sem.wp (model r.prog w) Γ0 (run (.ref a) vals) (fun v _ s' => GoodWG r.claim (classAt s₀.heap) (ExcName.means s₀.heap) args s₁ (.ok (.ret v)) s')
        (fun e _ s' => GoodWG r.claim (classAt s₀.heap) (ExcName.means s₀.heap) args s₁ (.error e) s') default s₁

theorem caller0 : Γ0.In callerA := caller_in

theorem holdsX {r : OpenRow} {q : Program} {loose : List Str} {Xt : Shared → Bool} {XP : (Str → Option Value) → Heap → Prop} {α : Type} {Yf : Shared → α} {Ya : World → α} {d : DefRec} {kwd : List (Str × Expr)} {N : Nat}
    (left : LeftO r.prog q loose Xt Yf Ya N)
    (hX : ∀ s, Xt s = true → XP (s.heap.nsMap mainGlobals) s.heap) (hXk : ∀ mg h h', XP mg h → (∀ b o, h.get? b = some o → h'.get? b = some o) → XP mg h')
    (hdef : defOf q r.name = some (d, kwd)) (hp : r.prog.theDef r.name = some (d.params, d.body, d.scope)) (hk : kwWritten? d.params.kwonlyargs d.params.kw_defaults = some kwd) (hRf : ∀ s, Xt s = true → RecFacts r.records s.heap) (hwr : (!r.writes || r.records.isEmpty) = true)
    (k1 : r.wellSaid = true) (ok : (chainsOk q && opensWell r.prog && (frees r.toRowW && r.within.isEmpty)) = true) (hb : r.prog.bare) (hw : r.toRowW.promised)
    (call : WalkC q loose XP Yf Ya r.toRowW d kwd fun f vs => PySem.call f vs) : r.Holds := by
  refine ⟨k1, hw, ?_⟩
  obtain ⟨ok, k5⟩ := Bool.and_eq_true_iff.mp ok
  obtain ⟨hch, o1⟩ := Bool.and_eq_true_iff.mp ok
  obtain ⟨k5, k6⟩ := Bool.and_eq_true_iff.mp k5
  obtain ⟨hsame, hu, ha, hap, hm⟩ := frees_parts k5
  refine ⟨⟨hb, o1, by show r.makers.map _ = []; rw [hm]; rfl⟩, hw.witness, fun w => ⟨(left.behind hX hch w).1, fun s' hs' => ?_⟩⟩
  obtain ⟨s₀, hf, hg0, s, hT, hz, hgens, hg, G00, y⟩ := (left.behind (XP := fun mg h => XP mg h ∧ RecFacts r.records h) (fun s hs => ⟨hX s hs, hRf s hs⟩) hch w).2 s' hs'
  have G0 : Ground q loose [] XP w s (s.heap.nsMap mainGlobals) (s.heap.nsMap builtinsNs) s.heap := ⟨G00.T, G00.B, G00.D, G00.TE, G00.TD, G00.W, G00.X.1, G00.cls, G00.has, G00.apart, G00.once, G00.K⟩
  have RF := G00.X.2
  have hT' := hT
  refine ⟨s₀, hf, hg0, s, hT, fun n hn => ?_, RF.1, RF.2.1, ?_⟩
  · obtain rfl : n = r.name := by split at hn <;> simp_all
    exact pinned_of_view hg G0 hdef hp hk
  have hgens : s.gens = #[] := Array.eq_empty_of_size_eq_zero (beq_iff_eq.mp hgens)
  have G : Ground q loose r.records XP w s _ _ s.heap := RF.ground G0
  refine callFromC (c := r.toRowW.claim) hz hgens fun args hpre hlay ord hord => ?_
  obtain ⟨⟨vs, s₁⟩, hlaid⟩ := Option.isSome_iff_exists.mp (layAllW_isSome (P := w.params) (ord := ord) G.has args r.args s (pre_splitW hpre).1)
  have keeps := layAllW_keeps _ _ _ hlaid
  have hal := layAllW_rest _ _ _ hlaid
  obtain ⟨as, hrd, hin, hold⟩ := reads_layAllW hord _ _ _ hlaid hlay s₁.heap (fun _ _ e => e)
  have L : Laid r.records w s s₁ args vs as := ⟨⟨ord, hord, hlaid⟩, hrd, hin, hold, keeps, hal.1.trans hgens, hal.2.2.1⟩
  have G₁ := G.keeps hXk keeps
  obtain ⟨a, o, pm, cd, doc, dV, kV, h1, h2, h3, h4, h5⟩ := G₁.fn hdef
  have hcall := call w s s₁ _ _ G₁ y a o pm cd doc dV kV h2 h3 h4 h5 (defOf_name hdef ▸ h1) L.gens args vs as L hpre hlay L.reads L.well (L.low G.low)
  have hi := ident_freeW hu ha hap
  have hwi : r.toRowW.claim.within = [] := List.isEmpty_iff.mp k6
  refine ⟨vs, s₁, hlaid, ?_⟩
  have hns : ∀ (Q : Option Value → Pos → Shared → Prop) (E : Value → Pos → Shared → Prop) (p : Pos), Q (some (.ref a)) p s₁ → Sem.wp (model r.prog w) Γ0 (nsGet mainNs r.name) Q E p s₁ := fun Q E p hq =>
    (Sem.wp_nsGet (model r.prog w) Γ0 _ p s₁ G₁.T.g r.name _).mpr (by rw [h1]; exact hq)
  show Sem.wp _ _ (nsGet mainNs r.name >>= _) _ _ _ _
  rw [Sem.wp_bind']
  refine hns _ _ _ ?_
  show Sem.wp _ _ (PySem.call (.ref a) vs >>= fun v => ret v) _ _ _ _
  rw [Sem.wp_bind']
  refine Sem.wp_mono _ _ _ (fun v p'' s' g => ?_) (fun e p'' s' g => ?_) _ _ hcall
  · show Sem.wp _ _ (Pure.pure _) _ _ _ _
    rw [Sem.wp_pure']
    have z := g.laid (c := r.toRowW.claim) hsame hwi hi L
    exact ⟨_, rfl, z.1, z.2.1, z.2.2, fun q => ⟨namesKept_of hT' hg r.keeps keeps g.2.1.old, noTable hwr q⟩⟩
  · have z := g.laid (c := r.toRowW.claim) hsame hwi hi L
    exact ⟨z.1, z.2.1, z.2.2, fun q => ⟨namesKept_of hT' hg r.keeps keeps g.2.1.old, noTable hwr q⟩⟩
end Hd

namespace Mine
open PySem PySem.W PySem.W.X PySem.Calls PyProof.Rows
set_option maxHeartbeats 4000000
noncomputable section
noncomputable def nm (s : String) : Str := Str.ofString s
noncomputable def fnAt (i : Nat) : Stmt := PySem.Challenge.pw_pe0217_01.main.body.getD i (.Pass default)
noncomputable def clB : Stmt → List Stmt
  | .ClassDef _ _ _ b _ _ _ _ _ _ _ => b
  | _ => []
noncomputable def meAt (c i : Nat) : Stmt := (clB (fnAt c)).getD i (.Pass default)
noncomputable def fnP : Stmt → Arguments × FuncBody × Scope
  | .FunctionDef _ a b _ _ _ sc _ _ _ => (a, .stmts b, sc)
  | _ => (⟨[], [], none, [], [], none, []⟩, .stmts [], default)
noncomputable def de (P : Params) (s : String) (t : Tok) (v : Value) : DictEntry := ⟨PyData.keyHash P (nm s), .str (nm s) t, v⟩
noncomputable def o0 (P : Params) : Obj := boot_o_0 P
noncomputable def o2 (P : Params) : Obj := ⟨.none, none, (.dict ⟨[(de P "\x69mport.loaded._sre" 183 (.bool true)), (de P "class._frozen_importlib.BuiltinImporter" 185 (.ref 14)), (de P "watched.\x69mport" 206 (.ref 18)), (de P "class._frozen_importlib.ModuleSpec" 216 (.ref 22)), (de P "sys.modules.booked-epoch" 245 (.int 3 0)), (de P "\x69mport.later-laid._sre" 270 (.bool true)), (de P "watched.library" 272 (.ref 27)), (de P "watched.library-objects" 0 (.str (nm "\x0c") 0)), (de P "watched.library-deep._sre" 273 (.str (nm "\x04\x00\x00\x0b\x04\x00\x00\x0b\x04\x00\x00\x03\x04\x00\x00\x0b\x08\x04dict\x02") 0))]⟩ 9), ⟨[]⟩⟩
noncomputable def o3 (P : Params) : Obj := ⟨(.type "dict"), none, (.dict ⟨[(de P "__name__" 165 (.str (nm "law_pe0217_01") 605)), (de P "__doc__" 166 .none), (de P "__package__" 167 .none), (de P "__loader__" 168 (.builtin "__main__.__loader__#\x6fpaque")), (de P "__spec__" 169 .none), (de P "__annotations__" 170 (.ref 6)), (de P "__builtins__" 171 (.ref 4)), (de P "__file__" 173 (.str (nm "/claim/cut.py") 172)), (de P "__cached__" 174 .none), (de P "_sre" 275 (.ref 12)), (de P "_wall" 288 (.ref 38)), (de P "_name_disallowed_re" 316 (.ref 43)), (de P "_value_disallowed_re" 350 (.ref 48)), (de P "Headers" 504 (.ref 169)), (de P "EMPTYSTRING" 508 (.str (nm "") 507)), (de P "_Accumulator" 604 (.ref 253)), (de P "_law_word" 612 (.ref 262)), (de P "_law_run" 624 (.ref 269)), (de P "_law_spots" 637 (.ref 276)), (de P "_law_pairs" 643 (.ref 281)), (de P "_law_left" 649 (.ref 286)), (de P "law" 655 (.ref 291))]⟩ 22), ⟨[]⟩⟩
noncomputable def o4 (P : Params) : Obj := boot_o_4 P
noncomputable def o42 (P : Params) : Obj := ⟨(.type "tuple"), none, (.seq ⟨[(.int 14 0), (.int 10 0), (.int 4 0), (.int 1 0), (.int 1 0), (.int 22 0), (.int 0 0), (.int 31 0), (.int 16 0), (.int 127 0), (.int 0 0), (.int 13 0), (.int 7 0), (.int 22 0), (.int 0 0), (.int 31 0), (.int 16 0), (.int 127 0), (.int 0 0), (.int 1 0)]⟩ 0), ⟨[]⟩⟩
noncomputable def o43 (P : Params) : Obj := ⟨(.type "re.Pattern"), none, (.fields ⟨[(.str (nm "[\\x00-\\x1F\\x7F]") 292), (.int 32 315), (.int 0 0), .none, .none, (.ref 42), (.int 0 0)]⟩), ⟨[]⟩⟩
noncomputable def o47 (P : Params) : Obj := ⟨(.type "tuple"), none, (.seq ⟨[(.int 14 0), (.int 14 0), (.int 4 0), (.int 1 0), (.int 1 0), (.int 9 0), (.int 4294966783 0), (.int 0 0), (.int 0 0), (.int 2147483648 0), (.int 0 0), (.int 0 0), (.int 0 0), (.int 0 0), (.int 0 0), (.int 13 0), (.int 11 0), (.int 9 0), (.int 4294966783 0), (.int 0 0), (.int 0 0), (.int 2147483648 0), (.int 0 0), (.int 0 0), (.int 0 0), (.int 0 0), (.int 0 0), (.int 1 0)]⟩ 0), ⟨[]⟩⟩
noncomputable def o48 (P : Params) : Obj := ⟨(.type "re.Pattern"), none, (.fields ⟨[(.str (nm "[\\x00-\\x08\\x0A-\\x1F\\x7F]") 318), (.int 32 349), (.int 0 0), .none, .none, (.ref 47), (.int 0 0)]⟩), ⟨[]⟩⟩
noncomputable def o56 (P : Params) : Obj := ⟨(.type "tuple"), none, (.seq ⟨[.none]⟩ 0), ⟨[]⟩⟩
noncomputable def o62 (P : Params) : Obj := ⟨(.type "code"), none, (.fields ⟨[(.str (nm "__init__") 363), (.str (nm "Headers.__init__") 364), (.str (nm "/claim/cut.py") 365), (.int 10 0), (.int 2 0), (.int 0 0), (.int 0 0), (.int 3 0), (.ref 57), (.bool true), (.int 276 0), (.ref 58), .none, (.ref 59), (.ref 60), (.ref 61), (.int 370 0), (.int 10 0), (.str (nm "/claim/cut.py") 371)]⟩), ⟨[]⟩⟩
noncomputable def o63 (P : Params) : Obj := ⟨(.type "function"), none, (.func (.mk (nm "__init__") (nm "Headers.__init__") (fnP (meAt 5 0)).1 (fnP (meAt 5 0)).2.1 (fnP (meAt 5 0)).2.2 3 [] (.ref 56) .none .none (.str (nm "cpy313.wsgiref.headers") 289) none (.ref 62) .none 0)), ⟨[]⟩⟩
noncomputable def o69 (P : Params) : Obj := ⟨(.type "code"), none, (.fields ⟨[(.str (nm "_convert_string_type") 373), (.str (nm "Headers._convert_string_type") 374), (.str (nm "/claim/cut.py") 375), (.int 20 0), (.int 2 0), (.int 0 0), (.int 1 0), (.int 3 0), (.ref 64), (.bool true), (.int 276 0), (.ref 65), .none, (.ref 66), (.ref 67), (.ref 68), (.int 380 0), (.int 20 0), (.str (nm "/claim/cut.py") 381)]⟩), ⟨[]⟩⟩
noncomputable def o70 (P : Params) : Obj := ⟨(.type "function"), none, (.func (.mk (nm "_convert_string_type") (nm "Headers._convert_string_type") (fnP (meAt 5 1)).1 (fnP (meAt 5 1)).2.1 (fnP (meAt 5 1)).2.2 3 [] .none .none .none (.str (nm "cpy313.wsgiref.headers") 289) none (.ref 69) .none 0)), ⟨[]⟩⟩
noncomputable def o107 (P : Params) : Obj := ⟨(.type "code"), none, (.fields ⟨[(.str (nm "get_all") 421), (.str (nm "Headers.get_all") 422), (.str (nm "/claim/cut.py") 423), (.int 45 0), (.int 2 0), (.int 0 0), (.int 0 0), (.int 3 0), (.ref 104), (.bool true), (.int 276 0), (.ref 105), .none, .none, .none, (.ref 106), (.int 424 0), (.int 45 0), (.str (nm "/claim/cut.py") 425)]⟩), ⟨[]⟩⟩
noncomputable def o108 (P : Params) : Obj := ⟨(.type "function"), none, (.func (.mk (nm "get_all") (nm "Headers.get_all") (fnP (meAt 5 7)).1 (fnP (meAt 5 7)).2.1 (fnP (meAt 5 7)).2.2 3 [] .none .none .none (.str (nm "cpy313.wsgiref.headers") 289) none (.ref 107) .none 0)), ⟨[]⟩⟩
noncomputable def o109 (P : Params) : Obj := ⟨(.type "tuple"), none, (.seq ⟨[.none]⟩ 0), ⟨[]⟩⟩
noncomputable def o115 (P : Params) : Obj := ⟨(.type "code"), none, (.fields ⟨[(.str (nm "get") 427), (.str (nm "Headers.get") 428), (.str (nm "/claim/cut.py") 429), (.int 49 0), (.int 3 0), (.int 0 0), (.int 0 0), (.int 3 0), (.ref 110), (.bool true), (.int 276 0), (.ref 111), .none, (.ref 112), (.ref 113), (.ref 114), (.int 435 0), (.int 49 0), (.str (nm "/claim/cut.py") 436)]⟩), ⟨[]⟩⟩
noncomputable def o116 (P : Params) : Obj := ⟨(.type "function"), none, (.func (.mk (nm "get") (nm "Headers.get") (fnP (meAt 5 8)).1 (fnP (meAt 5 8)).2.1 (fnP (meAt 5 8)).2.2 3 [] (.ref 109) .none .none (.str (nm "cpy313.wsgiref.headers") 289) none (.ref 115) .none 0)), ⟨[]⟩⟩
noncomputable def o168 (P : Params) : Obj := ⟨(.type "dict"), none, (.dict ⟨[(de P "__module__" 358 (.str (nm "cpy313.wsgiref.headers") 289)), (de P "__firstlineno__" 362 (.int 8 361)), (de P "__init__" 372 (.ref 63)), (de P "_convert_string_type" 382 (.ref 70)), (de P "__len__" 389 (.ref 77)), (de P "__setitem__" 398 (.ref 84)), (de P "__delitem__" 404 (.ref 89)), (de P "__getitem__" 412 (.ref 96)), (de P "__contains__" 420 (.ref 103)), (de P "get_all" 426 (.ref 108)), (de P "get" 437 (.ref 116)), (de P "keys" 443 (.ref 121)), (de P "values" 449 (.ref 126)), (de P "items" 456 (.ref 133)), (de P "__repr__" 463 (.ref 140)), (de P "__str__" 469 (.ref 145)), (de P "__bytes__" 476 (.ref 152)), (de P "setdefault" 485 (.ref 159)), (de P "add_header" 495 (.ref 166)), (de P "__static_attributes__" 497 (.ref 167)), (de P "__dict__" 499 (.ref 170)), (de P "__weakref__" 501 (.ref 171)), (de P "__doc__" 502 .none)]⟩ 4), ⟨[]⟩⟩
noncomputable def o169 (P : Params) : Obj := ⟨(.type "type"), none, (.cls (.mk (nm "Headers") [(.type "object")] [(.ref 169), (.type "object")] 168 (nm "Headers") true [] [] false none false)), ⟨[none, none, (some (.str (nm "Headers") 351)), (some (.str (nm "Headers") 359)), (some (.builtin "object.__new__")), (some (.bool true))]⟩⟩
noncomputable def o177 (P : Params) : Obj := ⟨(.type "cell"), none, (.cell (some (.ref 253))), ⟨[]⟩⟩
noncomputable def o182 (P : Params) : Obj := ⟨(.type "tuple"), none, (.seq ⟨[(.int 0 521)]⟩ 0), ⟨[]⟩⟩
noncomputable def o189 (P : Params) : Obj := ⟨(.type "code"), none, (.fields ⟨[(.str (nm "__init__") 522), (.str (nm "_Accumulator.__init__") 523), (.str (nm "/claim/cut.py") 524), (.int 83 0), (.int 2 0), (.int 0 0), (.int 0 0), (.int 3 0), (.ref 184), (.bool true), (.int 276 0), (.ref 185), .none, (.ref 186), (.ref 187), (.ref 188), (.int 528 0), (.int 83 0), (.str (nm "/claim/cut.py") 529)]⟩), ⟨[]⟩⟩
noncomputable def o190 (P : Params) : Obj := ⟨(.type "function"), none, (.func (.mk (nm "__init__") (nm "_Accumulator.__init__") (fnP (meAt 8 0)).1 (fnP (meAt 8 0)).2.1 (fnP (meAt 8 0)).2.2 3 [((nm "__class__"), 177)] (.ref 182) .none .none (.str (nm "cpy313.email.header") 505) none (.ref 189) (.ref 183) 0)), ⟨[]⟩⟩
noncomputable def o196 (P : Params) : Obj := ⟨(.type "code"), none, (.fields ⟨[(.str (nm "push") 531), (.str (nm "_Accumulator.push") 532), (.str (nm "/claim/cut.py") 533), (.int 87 0), (.int 3 0), (.int 0 0), (.int 0 0), (.int 3 0), (.ref 191), (.bool true), (.int 276 0), (.ref 192), .none, (.ref 193), (.ref 194), (.ref 195), (.int 537 0), (.int 87 0), (.str (nm "/claim/cut.py") 538)]⟩), ⟨[]⟩⟩
noncomputable def o197 (P : Params) : Obj := ⟨(.type "function"), none, (.func (.mk (nm "push") (nm "_Accumulator.push") (fnP (meAt 8 1)).1 (fnP (meAt 8 1)).2.1 (fnP (meAt 8 1)).2.2 3 [] .none .none .none (.str (nm "cpy313.email.header") 505) none (.ref 196) .none 0)), ⟨[]⟩⟩
noncomputable def o198 (P : Params) : Obj := ⟨(.type "tuple"), none, (.seq ⟨[(.int 0 540)]⟩ 0), ⟨[]⟩⟩
noncomputable def o204 (P : Params) : Obj := ⟨(.type "code"), none, (.fields ⟨[(.str (nm "pop_from") 541), (.str (nm "_Accumulator.pop_from") 542), (.str (nm "/claim/cut.py") 543), (.int 90 0), (.int 2 0), (.int 0 0), (.int 0 0), (.int 3 0), (.ref 199), (.bool true), (.int 276 0), (.ref 200), .none, (.ref 201), (.ref 202), (.ref 203), (.int 547 0), (.int 90 0), (.str (nm "/claim/cut.py") 548)]⟩), ⟨[]⟩⟩
noncomputable def o205 (P : Params) : Obj := ⟨(.type "function"), none, (.func (.mk (nm "pop_from") (nm "_Accumulator.pop_from") (fnP (meAt 8 2)).1 (fnP (meAt 8 2)).2.1 (fnP (meAt 8 2)).2.2 3 [] (.ref 198) .none .none (.str (nm "cpy313.email.header") 505) none (.ref 204) .none 0)), ⟨[]⟩⟩
noncomputable def o212 (P : Params) : Obj := ⟨(.type "code"), none, (.fields ⟨[(.str (nm "pop") 550), (.str (nm "_Accumulator.pop") 551), (.str (nm "/claim/cut.py") 552), (.int 95 0), (.int 1 0), (.int 0 0), (.int 0 0), (.int 3 0), (.ref 207), (.bool true), (.int 276 0), (.ref 208), .none, (.ref 209), (.ref 210), (.ref 211), (.int 555 0), (.int 95 0), (.str (nm "/claim/cut.py") 556)]⟩), ⟨[]⟩⟩
noncomputable def o213 (P : Params) : Obj := ⟨(.type "function"), none, (.func (.mk (nm "pop") (nm "_Accumulator.pop") (fnP (meAt 8 3)).1 (fnP (meAt 8 3)).2.1 (fnP (meAt 8 3)).2.2 3 [((nm "__class__"), 177)] .none .none .none (.str (nm "cpy313.email.header") 505) none (.ref 212) (.ref 206) 0)), ⟨[]⟩⟩
noncomputable def o215 (P : Params) : Obj := ⟨.none, none, (.fields ⟨[]⟩), ⟨[]⟩⟩
noncomputable def o219 (P : Params) : Obj := ⟨(.type "code"), none, (.fields ⟨[(.str (nm "__len__") 558), (.str (nm "_Accumulator.__len__") 559), (.str (nm "/claim/cut.py") 560), (.int 100 0), (.int 1 0), (.int 0 0), (.int 0 0), (.int 3 0), (.ref 214), (.bool true), (.int 276 0), (.ref 215), .none, (.ref 216), (.ref 217), (.ref 218), (.int 562 0), (.int 100 0), (.str (nm "/claim/cut.py") 563)]⟩), ⟨[]⟩⟩
noncomputable def o220 (P : Params) : Obj := ⟨(.type "function"), none, (.func (.mk (nm "__len__") (nm "_Accumulator.__len__") (fnP (meAt 8 4)).1 (fnP (meAt 8 4)).2.1 (fnP (meAt 8 4)).2.2 3 [] .none .none .none (.str (nm "cpy313.email.header") 505) none (.ref 219) .none 0)), ⟨[]⟩⟩
noncomputable def o222 (P : Params) : Obj := ⟨.none, none, (.fields ⟨[]⟩), ⟨[]⟩⟩
noncomputable def o226 (P : Params) : Obj := ⟨(.type "code"), none, (.fields ⟨[(.str (nm "__str__") 565), (.str (nm "_Accumulator.__str__") 566), (.str (nm "/claim/cut.py") 567), (.int 103 0), (.int 1 0), (.int 0 0), (.int 0 0), (.int 3 0), (.ref 221), (.bool true), (.int 276 0), (.ref 222), .none, (.ref 223), (.ref 224), (.ref 225), (.int 569 0), (.int 103 0), (.str (nm "/claim/cut.py") 570)]⟩), ⟨[]⟩⟩
noncomputable def o227 (P : Params) : Obj := ⟨(.type "function"), none, (.func (.mk (nm "__str__") (nm "_Accumulator.__str__") (fnP (meAt 8 5)).1 (fnP (meAt 8 5)).2.1 (fnP (meAt 8 5)).2.2 3 [] .none .none .none (.str (nm "cpy313.email.header") 505) none (.ref 226) .none 0)), ⟨[]⟩⟩
noncomputable def o249 (P : Params) : Obj := ⟨(.type "code"), none, (.fields ⟨[(.str (nm "part_count") 587), (.str (nm "_Accumulator.part_count") 588), (.str (nm "/claim/cut.py") 589), (.int 112 0), (.int 1 0), (.int 0 0), (.int 0 0), (.int 3 0), (.ref 244), (.bool true), (.int 276 0), (.ref 245), .none, (.ref 246), (.ref 247), (.ref 248), (.int 592 0), (.int 112 0), (.str (nm "/claim/cut.py") 593)]⟩), ⟨[]⟩⟩
noncomputable def o250 (P : Params) : Obj := ⟨(.type "function"), none, (.func (.mk (nm "part_count") (nm "_Accumulator.part_count") (fnP (meAt 8 8)).1 (fnP (meAt 8 8)).2.1 (fnP (meAt 8 8)).2.2 3 [((nm "__class__"), 177)] .none .none .none (.str (nm "cpy313.email.header") 505) none (.ref 249) (.ref 243) 0)), ⟨[]⟩⟩
noncomputable def o252 (P : Params) : Obj := ⟨(.type "dict"), none, (.dict ⟨[(de P "__module__" 516 (.str (nm "cpy313.email.header") 505)), (de P "__firstlineno__" 520 (.int 81 519)), (de P "__init__" 530 (.ref 190)), (de P "push" 539 (.ref 197)), (de P "pop_from" 549 (.ref 205)), (de P "pop" 557 (.ref 213)), (de P "__len__" 564 (.ref 220)), (de P "__str__" 571 (.ref 227)), (de P "reset" 579 (.ref 235)), (de P "is_onlyws" 586 (.ref 242)), (de P "part_count" 594 (.ref 250)), (de P "__static_attributes__" 596 (.ref 251)), (de P "__dict__" 599 (.ref 254)), (de P "__weakref__" 601 (.ref 255)), (de P "__doc__" 602 .none)]⟩ 5), ⟨[]⟩⟩
noncomputable def o253 (P : Params) : Obj := ⟨(.type "type"), none, (.cls (.mk (nm "_Accumulator") [(.type "list")] [(.ref 253), (.type "list"), (.type "object")] 252 (nm "_Accumulator") true [] [] false none false)), ⟨[(some (.ref 174)), none, (some (.str (nm "_Accumulator") 509)), (some (.str (nm "_Accumulator") 517)), (some (.builtin "list.__new__")), (some (.bool true))]⟩⟩
noncomputable def o261 (P : Params) : Obj := ⟨(.type "code"), none, (.fields ⟨[(.str (nm "_law_word") 607), (.str (nm "_law_word") 608), (.str (nm "/claim/cut.py") 609), (.int 115 0), (.int 1 0), (.int 0 0), (.int 0 0), (.int 3 0), (.ref 258), (.bool true), (.int 276 0), (.ref 259), .none, .none, .none, (.ref 260), (.int 610 0), (.int 115 0), (.str (nm "/claim/cut.py") 611)]⟩), ⟨[]⟩⟩
noncomputable def o262 (P : Params) : Obj := ⟨(.type "function"), none, (.func (.mk (nm "_law_word") (nm "_law_word") (fnP (fnAt 10)).1 (fnP (fnAt 10)).2.1 (fnP (fnAt 10)).2.2 3 [] .none .none .none (.str (nm "law_pe0217_01") 605) none (.ref 261) .none 0)), ⟨[]⟩⟩
noncomputable def o268 (P : Params) : Obj := ⟨(.type "code"), none, (.fields ⟨[(.str (nm "_law_run") 613), (.str (nm "_law_run") 614), (.str (nm "/claim/cut.py") 615), (.int 117 0), (.int 1 0), (.int 0 0), (.int 0 0), (.int 3 0), (.ref 263), (.bool true), (.int 276 0), (.ref 264), .none, (.ref 265), (.ref 266), (.ref 267), (.int 622 0), (.int 117 0), (.str (nm "/claim/cut.py") 623)]⟩), ⟨[]⟩⟩
noncomputable def o269 (P : Params) : Obj := ⟨(.type "function"), none, (.func (.mk (nm "_law_run") (nm "_law_run") (fnP (fnAt 11)).1 (fnP (fnAt 11)).2.1 (fnP (fnAt 11)).2.2 3 [] .none .none .none (.str (nm "law_pe0217_01") 605) none (.ref 268) .none 0)), ⟨[]⟩⟩
noncomputable def o275 (P : Params) : Obj := ⟨(.type "code"), none, (.fields ⟨[(.str (nm "_law_spots") 625), (.str (nm "_law_spots") 626), (.str (nm "/claim/cut.py") 627), (.int 129 0), (.int 1 0), (.int 0 0), (.int 0 0), (.int 3 0), (.ref 270), (.bool true), (.int 276 0), (.ref 271), .none, (.ref 272), (.ref 273), (.ref 274), (.int 635 0), (.int 129 0), (.str (nm "/claim/cut.py") 636)]⟩), ⟨[]⟩⟩
noncomputable def o276 (P : Params) : Obj := ⟨(.type "function"), none, (.func (.mk (nm "_law_spots") (nm "_law_spots") (fnP (fnAt 12)).1 (fnP (fnAt 12)).2.1 (fnP (fnAt 12)).2.2 3 [] .none .none .none (.str (nm "law_pe0217_01") 605) none (.ref 275) .none 0)), ⟨[]⟩⟩
noncomputable def o280 (P : Params) : Obj := ⟨(.type "code"), none, (.fields ⟨[(.str (nm "_law_pairs") 638), (.str (nm "_law_pairs") 639), (.str (nm "/claim/cut.py") 640), (.int 142 0), (.int 2 0), (.int 0 0), (.int 0 0), (.int 3 0), (.ref 277), (.bool true), (.int 276 0), (.ref 278), .none, .none, .none, (.ref 279), (.int 641 0), (.int 142 0), (.str (nm "/claim/cut.py") 642)]⟩), ⟨[]⟩⟩
noncomputable def o281 (P : Params) : Obj := ⟨(.type "function"), none, (.func (.mk (nm "_law_pairs") (nm "_law_pairs") (fnP (fnAt 13)).1 (fnP (fnAt 13)).2.1 (fnP (fnAt 13)).2.2 3 [] .none .none .none (.str (nm "law_pe0217_01") 605) none (.ref 280) .none 0)), ⟨[]⟩⟩
noncomputable def o285 (P : Params) : Obj := ⟨(.type "code"), none, (.fields ⟨[(.str (nm "_law_left") 644), (.str (nm "_law_left") 645), (.str (nm "/claim/cut.py") 646), (.int 150 0), (.int 2 0), (.int 0 0), (.int 0 0), (.int 3 0), (.ref 282), (.bool true), (.int 276 0), (.ref 283), .none, .none, .none, (.ref 284), (.int 647 0), (.int 150 0), (.str (nm "/claim/cut.py") 648)]⟩), ⟨[]⟩⟩
noncomputable def o286 (P : Params) : Obj := ⟨(.type "function"), none, (.func (.mk (nm "_law_left") (nm "_law_left") (fnP (fnAt 14)).1 (fnP (fnAt 14)).2.1 (fnP (fnAt 14)).2.2 3 [] .none .none .none (.str (nm "law_pe0217_01") 605) none (.ref 285) .none 0)), ⟨[]⟩⟩
noncomputable def o290 (P : Params) : Obj := ⟨(.type "code"), none, (.fields ⟨[(.str (nm "law") 650), (.str (nm "law") 651), (.str (nm "/claim/cut.py") 652), (.int 159 0), (.int 1 0), (.int 0 0), (.int 0 0), (.int 3 0), (.ref 287), (.bool true), (.int 276 0), (.ref 288), .none, .none, .none, (.ref 289), (.int 653 0), (.int 159 0), (.str (nm "/claim/cut.py") 654)]⟩), ⟨[]⟩⟩
noncomputable def o291 (P : Params) : Obj := ⟨(.type "function"), none, (.func (.mk (nm "law") (nm "law") (fnP (fnAt 15)).1 (fnP (fnAt 15)).2.1 (fnP (fnAt 15)).2.2 3 [] .none .none .none (.str (nm "law_pe0217_01") 605) none (.ref 290) .none 0)), ⟨[]⟩⟩
noncomputable def topK (P : Params) : Frag := [(0, o0 P), (2, o2 P), (3, o3 P), (4, o4 P), (42, o42 P), (43, o43 P), (47, o47 P), (48, o48 P), (56, o56 P), (62, o62 P), (63, o63 P), (69, o69 P), (70, o70 P), (107, o107 P), (108, o108 P), (109, o109 P), (115, o115 P), (116, o116 P), (168, o168 P), (169, o169 P), (177, o177 P), (182, o182 P), (189, o189 P), (190, o190 P), (196, o196 P), (197, o197 P), (198, o198 P), (204, o204 P), (205, o205 P), (212, o212 P), (213, o213 P), (215, o215 P), (219, o219 P), (220, o220 P), (222, o222 P), (226, o226 P), (227, o227 P), (249, o249 P), (250, o250 P), (252, o252 P), (253, o253 P), (261, o261 P), (262, o262 P), (268, o268 P), (269, o269 P), (275, o275 P), (276, o276 P), (280, o280 P), (281, o281 P), (285, o285 P), (286, o286 P), (290, o290 P), (291, o291 P)]
noncomputable def topA : List Addr := [0, 2, 3, 4, 42, 43, 47, 48, 56, 62, 63, 69, 70, 107, 108, 109, 115, 116, 168, 169, 177, 182, 189, 190, 196, 197, 198, 204, 205, 212, 213, 215, 219, 220, 222, 226, 227, 249, 250, 252, 253, 261, 262, 268, 269, 275, 276, 280, 281, 285, 286, 290, 291]
noncomputable def topT (P : Params) : KT := (.node (some (o0 P)) (.node none (.node (some (o3 P)) (.node none (.node none (.node none (.node (some (o63 P)) .nil .nil) .nil) (.node (some (o47 P)) .nil .nil)) (.node none .nil (.node none (.node none .nil (.node (some (o215 P)) .nil .nil)) .nil))) (.node none (.node none (.node none .nil (.node none (.node none (.node (some (o291 P)) .nil .nil) .nil) (.node (some (o227 P)) .nil .nil))) (.node none (.node none (.node none (.node (some (o275 P)) .nil .nil) .nil) .nil) (.node (some (o115 P)) .nil .nil))) (.node none (.node (some (o43 P)) .nil (.node (some (o107 P)) .nil .nil)) (.node none (.node none .nil (.node (some (o219 P)) .nil .nil)) .nil)))) (.node none (.node none (.node none .nil (.node none .nil (.node none (.node (some (o177 P)) .nil .nil) .nil))) (.node none (.node none .nil (.node none (.node (some (o169 P)) .nil .nil) .nil)) (.node none (.node none (.node none (.node (some (o281 P)) .nil .nil) .nil) .nil) (.node none .nil (.node (some (o249 P)) .nil .nil))))) (.node none (.node none (.node none (.node (some (o69 P)) (.node none (.node (some (o261 P)) .nil .nil) .nil) (.node (some (o197 P)) .nil .nil)) .nil) (.node none (.node none .nil (.node (some (o213 P)) .nil .nil)) .nil)) (.node none (.node none (.node none (.node none (.node (some (o269 P)) .nil .nil) .nil) (.node (some (o205 P)) .nil .nil)) (.node (some (o109 P)) .nil .nil)) (.node none (.node none (.node none (.node (some (o285 P)) .nil .nil) .nil) .nil) (.node none (.node (some (o189 P)) .nil .nil) (.node (some (o253 P)) .nil .nil))))))) (.node (some (o2 P)) (.node (some (o4 P)) (.node none (.node none .nil (.node (some (o48 P)) .nil .nil)) (.node none (.node none .nil (.node none (.node (some (o168 P)) .nil .nil) .nil)) (.node (some (o56 P)) (.node none (.node none (.node (some (o280 P)) .nil .nil) .nil) .nil) .nil))) (.node none (.node none (.node none (.node none .nil (.node (some (o196 P)) .nil .nil)) .nil) (.node none (.node none (.node none (.node (some (o276 P)) .nil .nil) .nil) (.node (some (o212 P)) .nil .nil)) (.node (some (o116 P)) .nil .nil))) (.node none (.node none (.node none (.node none (.node (some (o268 P)) .nil .nil) .nil) (.node (some (o204 P)) .nil .nil)) (.node (some (o108 P)) .nil .nil)) (.node none (.node none .nil (.node (some (o220 P)) .nil .nil)) (.node none .nil (.node (some (o252 P)) .nil .nil)))))) (.node none (.node none (.node none (.node none .nil (.node none (.node none (.node (some (o290 P)) .nil .nil) .nil) (.node (some (o226 P)) .nil .nil))) .nil) (.node none (.node (some (o42 P)) .nil .nil) (.node none .nil (.node none .nil (.node (some (o250 P)) .nil .nil))))) (.node none (.node none (.node none (.node (some (o70 P)) (.node none (.node (some (o262 P)) .nil .nil) .nil) (.node (some (o198 P)) .nil .nil)) .nil) (.node none .nil (.node none (.node (some (o182 P)) .nil .nil) .nil))) (.node none .nil (.node (some (o62 P)) (.node none (.node none (.node (some (o286 P)) .nil .nil) .nil) (.node (some (o222 P)) .nil .nil)) (.node none (.node (some (o190 P)) .nil .nil) .nil)))))))
noncomputable def vw : Program := view PySem.Challenge.pw_pe0217_01 [0, 1, 3, 4, 5, 7, 8, 10, 11, 12, 13, 14, 15]
noncomputable def looseL : List Str := [Str.ofString "_name_disallowed_re", Str.ofString "_value_disallowed_re", Str.ofString "_Accumulator"]
noncomputable def rwL : RowW := PySem.Challenge.rw_pe0217_01.row.toRowW
theorem left : LeftO PySem.Challenge.pw_pe0217_01 vw looseL (fun s => xlAt vw [] s && recOk (RowW.records rwL) s) (obsZ topA) (valZ topK 292 656) 3348 := by
  intro w
  unfold openEnds fencedOpening topFrom
  rw [Fast.te10274390034422433532, Fast.te14364793385576792824, Fast.te14289696077712309145, Fast.te1435165496053646825, Fast.te14082659384304107361, Fast.te4187177175401517315]
  kernel_rfl
end
end Mine

namespace Mine
noncomputable section
open PySem PySem.W PySem.W.X

noncomputable def setW (w : World) (b1 b2 : Bool) : World :=
  { w with params := { w.params with followText := fun r => if r = "special-get-raises" then b1 else if r = "comprehension-iter-twice" then b2 else w.params.followText r } }
theorem setW_eq (w : World) : setW w (w.params.followText "special-get-raises") (w.params.followText "comprehension-iter-twice") = w := by
  have e : (fun r => if r = "special-get-raises" then w.params.followText "special-get-raises" else if r = "comprehension-iter-twice" then w.params.followText "comprehension-iter-twice" else w.params.followText r) = w.params.followText := by
    funext r
    split
    · rename_i h; rw [h]
    · split
      · rename_i h; rw [h]
      · rfl
  show { w with params := { w.params with followText := _ } } = w
  rw [e]

noncomputable abbrev kt (w : World) : KT := topT w.params
noncomputable def tb : List Nat := [215, 222]
noncomputable abbrev XX (w : World) (b1 b2 : Bool) (tabs : List Nat) (hooks : List Hook) : Cx := ⟨PySem.Challenge.pw_pe0217_01, setW w b1 b2, kt w, tabs, hooks⟩

noncomputable def fdOf (w : World) (a : Nat) : FuncData := match (kt w).get a with
  | some o => match o.data with
    | .func fd => fd
    | _ => default
  | none => default
noncomputable def bodyOf (w : World) (a : Nat) : List Stmt := match (fdOf w a).body with
  | .stmts b => b
  | .expr _ => []
noncomputable def cenv (w : World) (a : Nat) (L : Addr) : Env := callEnv (fdOf w a) L a
noncomputable def fcode (w : World) (a : Nat) (L : Addr) : Code := .func (bodyOf w a) (cenv w a L)
noncomputable def stmtAt (w : World) (a j : Nat) : Stmt := (bodyOf w a).getD j (.Pass default)

noncomputable def below0 : List (Code × Pos) := [(.builtin "claim.caller" {}, default)]
noncomputable def belowLaw (w : World) (L : Addr) (p : Pos) : List (Code × Pos) := (fcode w 291 L, p) :: below0
noncomputable def ctxIn (c : Code) (b : List (Code × Pos)) : Ctx := ⟨c, none, none, b, none⟩

noncomputable def listO (its : List Value) (n : Nat) : Obj := ⟨.type "list", none, .seq ⟨its⟩ n, #[]⟩
end
end Mine

namespace Mine
noncomputable section
open PySem PySem.W PySem.W.X PySem.Calls PyProof.Rows

noncomputable def aroundOf (Γ : PySem.Ctx) : Around := { handled := Γ.handled, depth := frameCount Γ.below + Γ.code.weight, frames := none, guards := none, units := Γ.units }
theorem in_around (Γ : PySem.Ctx) : Γ.In (aroundOf Γ) := ⟨rfl, Nat.le_refl _, fun _ h => (nomatch h), fun _ h => (nomatch h), Nat.le_refl _⟩

theorem code_of_call {prog : Program} {w : World} {f : Value} {pos : List Value} {R : Result → Shared → Prop} {Γ : PySem.Ctx} {p : Pos} {s : Shared}
    (H : wpAny (model prog w) (aroundOf Γ) (call f pos) (fun v s' => R (.ok (.ret v)) s') (fun e s' => R (.error e) s') s) : wpCode (model prog w) (Γ.enter (.call f ⟨pos, []⟩) none p) R p s := by
  have h := H Γ p (in_around Γ)
  have h' : Sem.wp (model prog w) Γ (PySem.run (.call f ⟨pos, []⟩) >>= fun fl => match fl with | .ret v => Pure.pure v | _ => unsupported "internal:call-without-return-value") (fun v _ s' => R (.ok (.ret v)) s') (fun e _ s' => R (.error e) s') p s := h
  rw [Sem.wp_bind'] at h'
  unfold PySem.run at h'
  rw [Sem.wp_call] at h'
  refine wpCode_mono (fun r s' q => ?_) h'
  cases r with
  | error e => rw [Sem.wp_raise] at q; exact q
  | ok fl =>
    rw [Sem.wp_pure] at q
    cases fl with
    | ret v => rw [Sem.wp_pure'] at q; exact q
    | next => exact absurd q (by unfold unsupported; rw [Sem.wp_unsupported]; exact id)
    | brk => exact absurd q (by unfold unsupported; rw [Sem.wp_unsupported]; exact id)
    | cont => exact absurd q (by unfold unsupported; rw [Sem.wp_unsupported]; exact id)

theorem hook_ok {X : Cx} {f : Value} {pos : List Value} {pre : List (Nat × Addr × Obj × Option Obj)} {v : Nat → Addr → Value} {news : Addr → List Obj} {toks : Nat}
    (H : ∀ (A : Around) (Q E : Value → Shared → Prop) (s : Shared), A.handled = none → Glob X s.heap → PreOk pre s.heap → Q (v s.toks s.heap.objs.size) { s with heap := pushAll (news s.heap.objs.size) (applyPre pre s.heap), toks := s.toks + toks } → wpAny (model X.prog X.w) A (call f pos) Q E s) :
    HookOk X ⟨.call f ⟨pos, []⟩, pre, fun t a => .ok (.ret (v t a)), news, toks⟩ := fun Γ _ s _ hh hg hp hr =>
  code_of_call (H (aroundOf Γ) _ _ s hh hg hp hr)
theorem hook_err {X : Cx} {f : Value} {pos : List Value} {pre : List (Nat × Addr × Obj × Option Obj)} {v : Nat → Addr → Value} {news : Addr → List Obj} {toks : Nat}
    (H : ∀ (A : Around) (Q E : Value → Shared → Prop) (s : Shared), A.handled = none → Glob X s.heap → PreOk pre s.heap → E (v s.toks s.heap.objs.size) { s with heap := pushAll (news s.heap.objs.size) (applyPre pre s.heap), toks := s.toks + toks } → wpAny (model X.prog X.w) A (call f pos) Q E s) :
    HookOk X ⟨.call f ⟨pos, []⟩, pre, fun t a => .error (v t a), news, toks⟩ := fun Γ _ s _ hh hg hp hr =>
  code_of_call (H (aroundOf Γ) _ _ s hh hg hp hr)

theorem update_const {h : Heap} {a : Addr} {o : Obj} {f : Obj → Obj} (e : h.get? a = some o) : h.update a f = h.update a fun _ => f o := by
  obtain ⟨objs, life⟩ := h
  have lt : a < objs.size := Heap.lt_size (h := ⟨objs, life⟩) e
  have e' : objs[a] = o := by
    unfold Heap.get? at e
    simp only [Array.getElem?_eq_getElem lt] at e
    split at e
    · cases e
    · exact Option.some.inj e
  show (⟨objs.modify a f, life⟩ : Heap) = ⟨objs.modify a fun _ => f o, life⟩
  congr 1
  apply Array.ext
  · simp
  · intro i h1 h2
    simp only [Array.getElem_modify]
    split
    · rename_i q; subst q; rw [e']
    · rfl
theorem update_twice {h : Heap} {a : Addr} {o1 o2 : Obj} : (h.update a fun _ => o1).update a (fun _ => o2) = h.update a fun _ => o2 := by
  obtain ⟨objs, life⟩ := h
  show (⟨(objs.modify a fun _ => o1).modify a fun _ => o2, life⟩ : Heap) = ⟨objs.modify a fun _ => o2, life⟩
  congr 1
  apply Array.ext
  · simp
  · intro i h1 h2
    simp only [Array.getElem_modify]
    split <;> rfl

noncomputable def iterO (l : Addr) (i : Int) : Obj := ⟨.type "list_iterator", none, .fields ⟨[.ref l, .int i 0]⟩, #[]⟩
noncomputable def iterE (i : Int) : Obj := ⟨.type "list_iterator", none, .fields ⟨[.none, .int i 0]⟩, #[]⟩
noncomputable def tupO (vs : List Value) : Obj := ⟨.type "tuple", none, .seq ⟨vs⟩ 0, #[]⟩

noncomputable def hkNext (ji jl : Nat) (it l : Addr) (its : List Value) (n i : Nat) (x : Value) : Hook :=
  ⟨.call (.builtin "list_iterator.__next__") ⟨[.ref it], []⟩, [(jl, l, listO its n, none), (ji, it, iterO l i, some (iterO l (i + 1)))], fun _ _ => .ok (.ret x), fun _ => [], 0⟩
theorem hkNext_ok {X : Cx} {ji jl : Nat} {it l : Addr} {its : List Value} {n i : Nat} {x : Value} (hx : its[i]? = some x) : HookOk X (hkNext ji jl it l its n i x) := by
  refine hook_ok (v := fun _ _ => x) fun A Q E s hh _ hp hq => ?_
  obtain ⟨hl, ho, _⟩ := hp
  have hT : s.TypeIs (.ref it) "list_iterator" := ⟨_, ho, rfl⟩
  refine wpAny_call_entry slot_listiter_next hT entry_listiter_next ?_ (args_listiter_next _)
  show wpAny _ _ (field (.ref it) 0 >>= _) _ _ s
  refine wpAny_bind (wpAny_field ho (vs := #[.ref l, .int i 0]) rfl (x := .ref l) rfl ?_)
  show wpAny _ _ (if (Value.ref l == Value.none) = true then _ else _) _ _ s
  rw [if_neg (show ¬ ((Value.ref l == Value.none) = true) from Bool.false_ne_true)]
  show wpAny _ _ (field (.ref it) 1 >>= _) _ _ s
  refine wpAny_bind (wpAny_field ho (vs := #[.ref l, .int i 0]) rfl (x := .int i 0) rfl ?_)
  show wpAny _ _ (seqItems? (.ref l) >>= _) _ _ s
  refine wpAny_bind (wpAny_seqItems hl (items := ⟨its⟩) rfl ?_)
  have hx' : (⟨its⟩ : Array Value)[i]? = some x := by simpa using hx
  simp only [Int.toNat_natCast, hx']
  refine wpAny_bind (wpAny_setField ho (vs := #[.ref l, .int i 0]) rfl (by simp) (wpAny_pure ⟨x, rfl, ?_⟩))
  rw [update_const ho]
  exact hq

noncomputable def stopO (t : Addr) : Obj := ⟨.type "StopIteration", none, .fields ⟨[.ref t, .none, .none, .none, .bool false, .none]⟩, #[]⟩
noncomputable def hkEnd (ji jl : Nat) (it l : Addr) (its : List Value) (n i : Nat) : Hook :=
  ⟨.call (.builtin "list_iterator.__next__") ⟨[.ref it], []⟩, [(jl, l, listO its n, none), (ji, it, iterO l i, some (iterE i))], fun _ a => .error (.ref (a + 1)), fun a => [tupO [], stopO a], 0⟩
theorem hkEnd_ok {X : Cx} {ji jl : Nat} {it l : Addr} {its : List Value} {n i : Nat} (hx : its[i]? = none) : HookOk X (hkEnd ji jl it l its n i) := by
  refine hook_err (v := fun _ a => .ref (a + 1)) fun A Q E s hh _ hp hq => ?_
  obtain ⟨hl, ho, _⟩ := hp
  have hT : s.TypeIs (.ref it) "list_iterator" := ⟨_, ho, rfl⟩
  refine wpAny_call_entry slot_listiter_next hT entry_listiter_next ?_ (args_listiter_next _)
  show wpAny _ _ (field (.ref it) 0 >>= _) _ _ s
  refine wpAny_bind (wpAny_field ho (vs := #[.ref l, .int i 0]) rfl (x := .ref l) rfl ?_)
  show wpAny _ _ (if (Value.ref l == Value.none) = true then _ else _) _ _ s
  rw [if_neg (show ¬ ((Value.ref l == Value.none) = true) from Bool.false_ne_true)]
  show wpAny _ _ (field (.ref it) 1 >>= _) _ _ s
  refine wpAny_bind (wpAny_field ho (vs := #[.ref l, .int i 0]) rfl (x := .int i 0) rfl ?_)
  show wpAny _ _ (seqItems? (.ref l) >>= _) _ _ s
  refine wpAny_bind (wpAny_seqItems hl (items := ⟨its⟩) rfl ?_)
  have hx' : (⟨its⟩ : Array Value)[i]? = none := by simpa using hx
  simp only [Int.toNat_natCast, hx']
  refine wpAny_bind (wpAny_rule (wpAny_bind (wpAny_setField ho (vs := #[.ref l, .int i 0]) rfl (by simp) ?_)))
  show wpAny _ _ (newExc (.type "StopIteration") [] >>= _) _ _ _
  refine wpAny_bind ?_
  simp only [newExc, newTuple]
  refine wpAny_bind (wpAny_newObj_type ?_ (by size_fits))
  refine wpAny_bind (m := firstArgMember _ _) (wpAny_of_eq (a := Value.none) (by first | rfl | (simp only [firstArgMember]; rfl)) ?_)
  refine wpAny_newObj_type ?_ (by size_fits)
  simp only [raiseNew]
  refine wpAny_bind (wpAny_handled ?_)
  rw [show A.in1.handled = none from hh]
  refine wpAny_bind (wpAny_pure (wpAny_throw ?_))
  rw [update_const ho]
  have hs : Heap.SameBut it s.heap (s.heap.update it fun _ => iterE i) := Heap.SameBut.update ..
  have e1 : (s.heap.update it fun _ => iterE i).objs.size = s.heap.objs.size := hs.1
  have e2 : ((s.heap.update it fun _ => iterE i).push (tupO [])).objs.size = s.heap.objs.size + 1 := by rw [Heap.size_push, e1]
  simp only [pushAll, applyPre] at hq
  show E (.ref ((s.heap.update it fun _ => iterE i).push (tupO [])).objs.size) _
  rw [e2]
  have e3 : s.heap.objs.size = (s.heap.update it fun _ => iterE i).objs.size := e1.symm
  rw [e3] at hq
  rw [e3]
  exact hq
end
end Mine

namespace Mine
noncomputable section
open PySem PySem.W PySem.W.X PySem.Calls PyProof.Rows

noncomputable def hkVal (id : String) (args : List Value) (v : Value) : Hook := ⟨.call (.builtin id) ⟨args, []⟩, [], fun _ _ => .ok (.ret v), fun _ => [], 0⟩
noncomputable def hkInt (id : String) (args : List Value) (i : Int) : Hook := ⟨.call (.builtin id) ⟨args, []⟩, [], fun t _ => .ok (.ret (.int i t)), fun _ => [], 1⟩
noncomputable def hkStr (id : String) (args : List Value) (x : Str) : Hook := ⟨.call (.builtin id) ⟨args, []⟩, [], fun t _ => .ok (.ret (.str x t)), fun _ => [], 1⟩

section
variable {X : Cx} {a b : Int} {t u : Tok}
theorem tInt (s : Shared) (a : Int) (t : Tok) : s.TypeIs (.int a t) "int" := rfl
theorem ok_add : HookOk X (hkInt "int.__add__" [.int a t, .int b u] (a + b)) :=
  hook_ok (v := fun t _ => .int (a + b) t) fun A Q E s _ _ _ hq => call_gives F.slot_int_add (tInt s a t) F.entry_int_add (F.args_int_add_2 _ _) (AutoIntG4.int___add___int_int_0 a t b u) hq
theorem ok_sub : HookOk X (hkInt "int.__sub__" [.int a t, .int b u] (a - b)) :=
  hook_ok (v := fun t _ => .int (a - b) t) fun A Q E s _ _ _ hq => call_gives F.slot_int_sub (tInt s a t) F.entry_int_sub (F.args_int_sub_2 _ _) (AutoIntG9.int___sub___int_int_0 a t b u) hq
theorem ok_mul (hm : IntMulOk a b) : HookOk X (hkInt "int.__mul__" [.int a t, .int b u] (a * b)) :=
  hook_ok (v := fun t _ => .int (a * b) t) fun A Q E s _ _ _ hq => call_gives F.slot_int_mul (tInt s a t) F.entry_int_mul (F.args_int_mul_2 _ _) (AutoIntG1.int___mul___int_int_0 a t b u hm) hq
theorem ok_mod (hb : ¬ (b == 0) = true) : HookOk X (hkInt "int.__mod__" [.int a t, .int b u] (a.fmod b)) :=
  hook_ok (v := fun t _ => .int (a.fmod b) t) fun A Q E s _ _ _ hq => call_gives F.slot_int_mod (tInt s a t) F.entry_int_mod (F.args_int_mod_2 _ _) (AutoIntG6.int___mod___int_int_1 a t b u hb) hq
theorem ok_lt {r : Bool} (hr : decide (a < b) = r) : HookOk X (hkVal "int.__lt__" [.int a t, .int b u] (.bool r)) :=
  hook_ok (v := fun _ _ => .bool r) fun A Q E s _ _ _ hq => call_gives F.slot_int_lt (tInt s a t) F.entry_int_lt (F.args_int_lt_2 _ _) (AutoIntG1.int___lt___int_int_0 a t b u) (by rw [show (fun x1 x2 : Int => decide (x1 < x2)) a b = r from hr]; exact hq)
theorem ok_eq {r : Bool} (hr : (a == b) = r) : HookOk X (hkVal "int.__eq__" [.int a t, .int b u] (.bool r)) :=
  hook_ok (v := fun _ _ => .bool r) fun A Q E s _ _ _ hq => call_gives F.slot_int_eq (tInt s a t) F.entry_int_eq (F.args_int_eq_2 _ _) (AutoIntG7.int___eq___int_int_0 a t b u) (by rw [show (fun x1 x2 : Int => x1 == x2) a b = r from hr]; exact hq)
theorem ok_ne {r : Bool} (hr : (a != b) = r) : HookOk X (hkVal "int.__ne__" [.int a t, .int b u] (.bool r)) :=
  hook_ok (v := fun _ _ => .bool r) fun A Q E s _ _ _ hq => call_gives F.slot_int_ne (tInt s a t) F.entry_int_ne (F.args_int_ne_2 _ _) (AutoIntG6.int___ne___int_int_0 a t b u) (by rw [show (fun x1 x2 : Int => x1 != x2) a b = r from hr]; exact hq)
theorem ok_abs0 (h : ¬ a < 0) : HookOk X (hkVal "int.__abs__" [.int a t] (.int a t)) :=
  hook_ok (v := fun _ _ => .int a t) fun A Q E s _ _ _ hq => call_gives F.slot_int_abs (tInt s a t) F.entry_int_abs (F.args_int_abs_1 _) (AutoIntG1.int___abs___int_1 a t h) hq
theorem ok_abs1 (h : a < 0) : HookOk X (hkInt "int.__abs__" [.int a t] (-a)) :=
  hook_ok (v := fun t _ => .int (-a) t) fun A Q E s _ _ _ hq => call_gives F.slot_int_abs (tInt s a t) F.entry_int_abs (F.args_int_abs_1 _) (AutoIntG0.int___abs___int_0 a t h) hq
end
end
end Mine
namespace Mine
noncomputable section
open PySem PySem.W PySem.W.X PySem.Calls PyProof.Rows
theorem mapSeq_push (c : Value) (d : Option Addr) (its : List Value) (n : Nat) (sl : Array (Option Value)) (x : Value) :
    Obj.mapSeq (fun a => a.push x) ⟨c, d, .seq ⟨its⟩ n, sl⟩ = ⟨c, d, .seq ⟨its ++ [x]⟩ (n + 1), sl⟩ := by
  have e : (⟨its⟩ : Array Value).push x = ⟨its ++ [x]⟩ := by simp
  show (⟨c, d, .seq ((⟨its⟩ : Array Value).push x) (if ((⟨its⟩ : Array Value).push x).size == (⟨its⟩ : Array Value).size then n else n + 1), sl⟩ : Obj) = _
  rw [e]
  have h : ((⟨its ++ [x]⟩ : Array Value).size == (⟨its⟩ : Array Value).size) = false := by simp
  rw [h]; rfl
noncomputable def hkApp (j : Nat) (l : Addr) (its : List Value) (n : Nat) (x : Value) : Hook :=
  ⟨.call (.builtin "list.append") ⟨[.ref l, x], []⟩, [(j, l, listO its n, some (listO (its ++ [x]) (n + 1)))], fun _ _ => .ok (.ret .none), fun _ => [], 0⟩
theorem ok_app {X : Cx} {j : Nat} {l : Addr} {its : List Value} {n : Nat} {x : Value} (hz : its.length ≤ sizeLine) : HookOk X (hkApp j l its n x) := by
  refine hook_ok (v := fun _ _ => .none) fun A Q E s _ _ hp hq => ?_
  obtain ⟨hl, _⟩ := hp
  have hT : s.TypeIs (.ref l) "list" := ⟨_, hl, rfl⟩
  refine call_meets F.slot_list_append hT F.entry_list_append (F.args_list_append_2 _ _) (AutoListH.list_append_list_val_0 l ⟨its⟩ n x (by simpa using hz)) ⟨hl, ?_⟩
  have e := update_const (f := Obj.mapSeq fun a => a.push x) hl
  rw [listO, mapSeq_push] at e
  show Q .none { s with heap := s.heap.update l (Obj.mapSeq fun a => a.push x), toks := s.toks }
  rw [e]
  exact hq
noncomputable def hkCat (j k : Nat) (l b : Addr) (its its2 : List Value) (n n2 : Nat) : Hook :=
  ⟨.call (.builtin "list.__add__") ⟨[.ref l, .ref b], []⟩, [(j, l, listO its n, none), (k, b, listO its2 n2, none)], fun _ a => .ok (.ret (.ref a)), fun _ => [listO (its ++ its2) 0], 0⟩
theorem ok_cat {X : Cx} {j k : Nat} {l b : Addr} {its its2 : List Value} {n n2 : Nat} (hz : its.length + its2.length ≤ sizeLine) : HookOk X (hkCat j k l b its its2 n n2) := by
  refine hook_ok (v := fun _ a => .ref a) fun A Q E s _ _ hp hq => ?_
  obtain ⟨hl, hb, _⟩ := hp
  have hT : s.TypeIs (.ref l) "list" := ⟨_, hl, rfl⟩
  refine call_meets F.slot_list_add hT F.entry_list_add (F.args_list_add_2 _ _) (AutoSeq1.list___add___list_list_0 l ⟨its⟩ n b ⟨its2⟩ n2 (by simpa using hz)) ⟨hl, hb, ?_⟩
  have e : (⟨its⟩ : Array Value) ++ ⟨its2⟩ = ⟨its ++ its2⟩ := by simp
  rw [e]
  exact hq
end
end Mine

namespace Mine
noncomputable section
open PySem PySem.W PySem.W.X PySem.Calls PyProof.Rows
noncomputable def sliceO (v1 v2 v3 : Value) : Obj := ⟨.type "slice", none, .fields ⟨[v1, v2, v3]⟩, #[]⟩

theorem pick_upto (items : Array Value) (b : Nat) : slicePick items none (some b) none = ⟨items.toList.take b⟩ := by
  by_cases hb : b ≤ items.size
  · rw [slicePick_upto items b hb]
  · have e : sliceBounds none (some (b : Int)) none items.size = sliceBounds none none none items.size := by
      simp only [sliceBounds, Option.getD_none]
      have h2 : ¬ ((b : Int) < 0) := by omega
      simp only [h2, if_false, show (1 : Int) > 0 by decide, if_true]
      congr 1
      congr 1; omega
    have z : slicePick items none (some b) none = slicePick items none none none := by unfold slicePick; rw [e]
    rw [z, slicePick_all]
    apply Array.ext'
    show items.toList = items.toList.take b
    rw [List.take_of_length_le (by simp; omega)]

noncomputable def hkUpto (j jb : Nat) (l b : Addr) (its : List Value) (n k : Nat) (t : Tok) : Hook :=
  ⟨.call (.builtin "list.__getitem__") ⟨[.ref l, .ref b], []⟩, [(j, l, listO its n, none), (jb, b, sliceO .none (.int k t) .none, none)], fun _ a => .ok (.ret (.ref a)), fun _ => [listO (its.take k) 0], 0⟩
theorem ok_slice {X : Cx} {cls : Value} {d : Option Addr} {sl : Array (Option Value)} {A : Around} {Q E : Value → Shared → Prop} {s : Shared} {l b : Addr} {its : List Value} {n : Nat} {vl vu : Value} {lo hi : Option Int}
    (hT : s.TypeIs (.ref l) "list") (hl : s.heap.get? l = some ⟨cls, d, .seq ⟨its⟩ n, sl⟩) (hb : s.heap.get? b = some (sliceO vl vu .none)) (pl : IsPart vl lo) (pu : IsPart vu hi) (hz : its.length ≤ sizeLine)
    (h : Q (.ref s.heap.objs.size) { s with heap := s.heap.push ⟨.type "list", none, .seq (slicePick ⟨its⟩ lo hi none) 0, #[]⟩ }) : wpAny (model X.prog X.w) A (call (.builtin "list.__getitem__") [.ref l, .ref b]) Q E s := by
  have hTs : s.TypeIs (.ref b) "slice" := ⟨_, hb, rfl⟩
  refine wpAny_call_entry F.slot_list_getitem hT F.entry_list_getitem ?_ (F.args_list_getitem_2 _ _)
  show wpAny _ _ (Builtin.List.listSubscript? (.ref b) >>= _) _ _ s
  refine wpAny_bind ?_
  unfold Builtin.List.listSubscript?
  refine wpAny_bind (wpAny_specialOf hTs slice_no_index ?_)
  simp only [Option.isNone_none, if_true]
  refine wpAny_pure ?_
  show wpAny _ _ (typeOf (.ref b) >>= _) _ _ s
  refine wpAny_bind (wpAny_typeOf hTs ?_)
  rw [if_neg (by decide)]
  rw [listSliceParts_eq]
  refine wpAny_bind (wpAny_bind (wpAny_field hb (vs := #[vl, vu, .none]) rfl (x := .none) rfl (wpAny_bind (wpAny_listPart .none ?_))))
  rw [if_neg (show ¬ ((rawPart none == rawInt 0) = true) from Bool.false_ne_true)]
  refine wpAny_bind (wpAny_field hb (vs := #[vl, vu, .none]) rfl (x := vl) rfl (wpAny_bind (wpAny_listPart pl ?_)))
  refine wpAny_bind (wpAny_field hb (vs := #[vl, vu, .none]) rfl (x := vu) rfl (wpAny_bind (wpAny_listPart pu (wpAny_pure ?_))))
  refine wpAny_bind (m := Builtin.List.listItems (.ref l)) ?_
  unfold Builtin.List.listItems
  refine wpAny_bind (wpAny_seqItems hl (items := ⟨its⟩) rfl (wpAny_pure ?_))
  refine wpAny_bind (wpAny_of_eq (sliceIndices_raw lo hi none its.length (by simp)) ?_)
  exact wpAny_bind (wpAny_newObj_type (wpAny_pure ⟨_, rfl, h⟩) (Nat.le_trans (slicePick_size_le ⟨its⟩ lo hi none) (by simpa using hz)))
theorem ok_upto {X : Cx} {j jb : Nat} {l b : Addr} {its : List Value} {n k : Nat} {t : Tok} (hz : its.length ≤ sizeLine) : HookOk X (hkUpto j jb l b its n k t) := by
  refine hook_ok (v := fun _ a => .ref a) fun A Q E s _ _ hp hq => ?_
  obtain ⟨hl, hb, _⟩ := hp
  refine ok_slice ⟨_, hl, rfl⟩ hl hb .none (.int k t) hz ?_
  rw [pick_upto]
  exact hq
end
end Mine

namespace Mine
noncomputable section
open PySem PySem.W PySem.W.X

noncomputable def dfltE : PySem.Expr := .Constant .none 0 default
noncomputable def retE : Stmt → PySem.Expr
  | .Return (some e) _ => e
  | _ => dfltE
noncomputable def binR : PySem.Expr → PySem.Expr
  | .BinOp _ _ r _ => r
  | _ => dfltE
noncomputable def scopeOf : PySem.Expr → Scope
  | .ListComp _ _ sc _ => sc
  | .GeneratorExp _ _ sc _ => sc
  | _ => default
noncomputable def compEnv (sc : Scope) (L : Addr) (cells : List (Str × Addr)) (env : Env) : Env :=
  { scope := { sc with names := sc.names.map fun x => if (x.2 == .free && env.scope.kind == .function && env.kindOf x.1 == some .cell) then (x.1, .cell) else x }, locals := L, globals := env.globals, cells := cells, qual := env.qual, func := none, code := env.code, frame := env.frame, builtins := env.builtins }
noncomputable def dictO (es : List DictEntry) (n : Nat) : Obj := ⟨.type "dict", none, .dict ⟨es⟩ n, #[]⟩

noncomputable def mkK (h : Nat → Int) (k : Nat → Tok) : Nat → List (Str × Value) → List DictEntry
  | _, [] => []
  | i, (s, v) :: l => ⟨h i, .str s (k i), v⟩ :: mkK h k (i + 1) l
noncomputable def kvL (l : List (Str × Value)) : List (Option Str × Value) := l.map fun x => (some x.1, x.2)
theorem mkK_of : ∀ {l : List (Str × Value)} {es : List DictEntry} (i : Nat), kvs es = kvL l → ∃ h k, es = mkK h k i l
  | [], es, i, e => ⟨fun _ => 0, fun _ => 0, kvs_nil e⟩
  | (s, v) :: l, es, i, e => by
    obtain ⟨hs, t, r, rfl, e1⟩ := kvs_cons e
    obtain ⟨h, k, e2⟩ := mkK_of (l := l) (i + 1) e1
    refine ⟨fun j => if j = i then hs else h j, fun j => if j = i then t else k j, ?_⟩
    have key : ∀ (l : List (Str × Value)) (j : Nat), i < j → mkK (fun j => if j = i then hs else h j) (fun j => if j = i then t else k j) j l = mkK h k j l := by
      intro l
      induction l with
      | nil => intro j _; rfl
      | cons x l ih =>
        intro j hj
        simp only [mkK]
        rw [ih (j + 1) (by omega), if_neg (by omega), if_neg (by omega)]
    simp only [mkK]
    rw [key l (i + 1) (by omega), ← e2]
    simp
theorem byC {P : Prop} (h : ¬ P → False) : P := Classical.byContradiction h
theorem pr2 {A B : Type} {a a' : A} {b b' : B} (h : (a, b) = (a', b')) : a = a' ∧ b = b' := ⟨congrArg Prod.fst h, congrArg Prod.snd h⟩
theorem pr3 {A B C : Type} {a a' : A} {b b' : B} {c c' : C} (h : (a, b, c) = (a', b', c')) : a = a' ∧ b = b' ∧ c = c' := ⟨congrArg Prod.fst h, pr2 (congrArg Prod.snd h)⟩
theorem pr4 {A B C D : Type} {a a' : A} {b b' : B} {c c' : C} {d d' : D} (h : (a, b, c, d) = (a', b', c', d')) : a = a' ∧ b = b' ∧ c = c' ∧ d = d' := ⟨congrArg Prod.fst h, pr3 (congrArg Prod.snd h)⟩
theorem pr5 {A B C D E : Type} {a a' : A} {b b' : B} {c c' : C} {d d' : D} {e e' : E} (h : (a, b, c, d, e) = (a', b', c', d', e')) : a = a' ∧ b = b' ∧ c = c' ∧ d = d' ∧ e = e' := ⟨congrArg Prod.fst h, pr4 (congrArg Prod.snd h)⟩
theorem pr6 {A B C D E F : Type} {a a' : A} {b b' : B} {c c' : C} {d d' : D} {e e' : E} {f f' : F} (h : (a, b, c, d, e, f) = (a', b', c', d', e', f')) : a = a' ∧ b = b' ∧ c = c' ∧ d = d' ∧ e = e' ∧ f = f' := ⟨congrArg Prod.fst h, pr5 (congrArg Prod.snd h)⟩
theorem apart_of {env : List Ent} (nd : (env.map (·.a)).Nodup) : env.Pairwise fun e f => (e.own = true ∨ f.own = true) → e.a ≠ f.a := by
  have : env.Pairwise fun e f => e.a ≠ f.a := List.pairwise_map.mp nd
  exact List.Pairwise.imp (S := fun (e f : Ent) => (e.own = true ∨ f.own = true) → e.a ≠ f.a) (fun h _ => h) this
theorem on_mk {X : Cx} {Γ : Ctx} {p : Pos} {t : Sem Fin} {κ : List Fr} {env : List Ent} {gl : List GenState} {N T : Nat} {E : List (Addr × Addr)} {C : List (Code × Code)} {O : List (Obj × Obj)} {h : Heap}
    (hs : h.objs.size = N + 292) (g : Glob X h) (he : ∀ e ∈ env, h.get? e.a = some e.o) (nd : (env.map (·.a)).Nodup) (hi : ∀ e ∈ env, 292 ≤ e.a) : On X ⟨Γ, p, t, κ, env, gl, N, 0, T, 0, E, C, O⟩ h :=
  ⟨by rw [hs]; rfl, he, apart_of nd, fun e h1 _ => .inl (hi e h1), g⟩
theorem On.at {X : Cx} {st : St} {h : Heap} (D : On X st h) {j : Nat} {e : Ent} (hj : nth st.env j = some e) : h.get? e.a = some e.o := D.env e (nth_mem hj)
theorem le_size {h : Heap} {a : Addr} {o : Obj} (h1 : h.get? a = some o) (h2 : 292 ≤ a) : ∃ N, h.objs.size = N + 292 := ⟨h.objs.size - 292, (Nat.sub_add_cancel (Nat.le_trans h2 (Nat.le_of_lt (Heap.lt_size h1)))).symm⟩
theorem hooks1 {X : Cx} {a : Hook} (h : X.hooks = [a]) (ha : HookOk X a) : ∀ j k, hookAt X.hooks j = some k → HookOk X k := by
  intro j k hk
  rw [h] at hk
  cases j with
  | zero => cases hk; exact ha
  | succ j => cases hk
noncomputable def AllOk (X : Cx) : List Hook → Prop
  | [] => True
  | a :: l => HookOk X a ∧ AllOk X l
theorem hooksL {X : Cx} : ∀ {l : List Hook}, AllOk X l → ∀ j k, hookAt l j = some k → HookOk X k
  | [], _, _, _, hk => nomatch hk
  | a :: l, h, 0, k, hk => by cases hk; exact h.1
  | a :: l, h, j + 1, k, hk => hooksL h.2 j k hk
theorem hooksX {X : Cx} (h : AllOk X X.hooks) : ∀ j k, hookAt X.hooks j = some k → HookOk X k := hooksL h
theorem Ext.trans2 {a : List Addr} {h h' h'' : Heap} (x : Ext a h h') (y : Ext a h' h'') : Ext a h h'' := (x.trans y).mono fun c hc => .inl ((List.mem_append.mp hc).elim id id)
theorem all2 {P : Ent → Prop} {a b : Ent} (ha : P a) (hb : P b) : ∀ e ∈ [a, b], P e := List.forall_mem_cons.mpr ⟨ha, List.forall_mem_cons.mpr ⟨hb, fun _ h => nomatch h⟩⟩
end
end Mine

namespace Mine
noncomputable section
open PySem PySem.W PySem.W.X PySem.Calls PyProof.Rows

theorem code_of_wp {prog : Program} {w : World} {Γ : PySem.Ctx} {R : Result → Shared → Prop} {p : Pos} {s : Shared} (h : Sem.wp (model prog w) Γ (denote table Γ.code) (Sem.finPost (model prog w) Γ R) (fun e _ s' => R (.error e) s') p s) : wpCode (model prog w) Γ R p s :=
  (Sem.wp_iff_runs _ _ _ _ _ _).mp h

theorem comp_start {prog : Program} {w : World} {e : PySem.Expr} {it : Addr} {acc : Value} {env : Env} {below : List (Code × Pos)} {R : Result → Shared → Prop} {p : Pos} {s : Shared}
    (hfr : (Code.compStart e 0 (.ref it) acc env).isFrame = false) (hcl : ((clausesOf e)[0]?).elim false (fun g => g.is_async != 0) = false)
    (hq : (Code.compLoop e 0 (.ref it) acc env).quiet = true)
    (hit : ∀ (A : Around) (Q : Value → Shared → Prop) (E : Value → Shared → Prop), Q (.ref it) s → wpAny (model prog w) A (pyIter (.ref it)) Q E s)
    (h : ∀ p', wpCode (model prog w) (ctxIn (.compLoop e 0 (.ref it) acc env) below) R p' s) : wpCode (model prog w) (ctxIn (.compStart e 0 (.ref it) acc env) below) R p s := by
  refine code_of_wp ?_
  show Sem.wp _ _ (if (Code.compStart e 0 (.ref it) acc env).isFrame then _ else (compStart e 0 (.ref it) acc env).onRaise _) _ _ _ _
  rw [hfr, if_neg Bool.false_ne_true, Sem.wp_onRaise]
  unfold compStart
  rw [hcl]
  simp only [Bool.false_eq_true, if_false]
  show Sem.wp _ _ (ask >>= _) _ _ _ _
  rw [Sem.wp_bind']
  show Sem.wp _ _ (Sem.ask Sem.pure) _ _ _ _
  rw [Sem.wp_ask, Sem.wp_pure]
  split
  · first
      | (show Sem.wp _ _ (again _) _ _ _ _; unfold again; rw [Sem.wp_pure']; exact ⟨hq, h _⟩)
      | (rw [Sem.wp_bind']; show Sem.wp _ _ (again _) _ _ _ _; unfold again; rw [Sem.wp_pure', Sem.wp_pure']; exact ⟨hq, h _⟩)
  · have key : ∀ p', Sem.wp (model prog w) (ctxIn (.compStart e 0 (.ref it) acc env) below) (pyIter (.ref it)) (fun v p'' s' => v = .ref it ∧ s' = s) (fun _ _ _ => False) p' s := fun p' =>
      hit (aroundOf _) (fun v s' => v = .ref it ∧ s' = s) (fun _ _ => False) ⟨rfl, rfl⟩ _ p' (in_around _)
    have fin : ∀ (F : PySem.Value → Sem Fin), (∀ v, F v = again (.compLoop e 0 v acc env)) → ∀ p' E, Sem.wp (model prog w) (ctxIn (.compStart e 0 (.ref it) acc env) below) (pyIter (.ref it) >>= F) (Sem.finPost (model prog w) (ctxIn (.compStart e 0 (.ref it) acc env) below) R) E p' s := by
      intro F hF p' E
      rw [Sem.wp_bind']
      refine Sem.wp_mono _ _ _ (fun v p'' s' q => ?_) (fun _ _ _ q => q.elim) _ _ (key p')
      obtain ⟨rfl, rfl⟩ := q
      rw [hF]
      unfold again
      rw [Sem.wp_pure']
      exact ⟨hq, h _⟩
    simp only [Sem.wp_bind', PySem.rule, Sem.wp_rule, Sem.wp_pure]
    split
    all_goals simp only [Sem.wp_bind', standAt, Sem.wp_at, Sem.wp_pure, Sem.wp_pure']
    all_goals refine Sem.wp_mono _ _ _ (fun v p'' s' q => ?_) (fun _ _ _ q => q.elim) _ _ (key _)
    all_goals (obtain ⟨rfl, rfl⟩ := q; unfold again; rw [Sem.wp_pure']; exact ⟨hq, h _⟩)

theorem iter_list {prog : Program} {w : World} {s : Shared} {it l : Addr} {i : Nat} (h : s.heap.get? it = some (iterO l i)) : ∀ (A : Around) (Q : Value → Shared → Prop) (E : Value → Shared → Prop), Q (.ref it) s → wpAny (model prog w) A (pyIter (.ref it)) Q E s := fun A Q E q =>
  wpAny_pyIter_listiter (l := l) (i := i) ⟨_, h, rfl, rfl⟩ q
end
end Mine

namespace Mine
noncomputable section
open PySem PySem.W PySem.W.X

noncomputable def posO : Option St → Pos
  | some s => s.p
  | none => default
theorem resume_eq {o : Option St} {s : St} (h : o = some s) (r : Result) (env : List Ent) (gl : List GenState) (N T : Nat) : resumeO o r env gl N T = resume s r env gl N T := by rw [h]; rfl
theorem means_resume {M : Model} {Post : End → Shared → Prop} {s : St} {r : Result} {env : List Ent} {gl : List GenState} {N T : Nat} {h : Heap} {d : Drawn} {ox : OsState} (H : Means M Post (resume s r env gl N T) h d ox) :
    MeansK M Post s.κ s.Γ s.p (kOf s.t r) ⟨h, ⟨gl⟩, d, T, ox⟩ := H
theorem sizeL : sizeLine = 16777216 := by decide
theorem geN (N k : Nat) (h : 292 ≤ k) : 292 ≤ N + k := Nat.le_trans h (Nat.le_add_left k N)

noncomputable def AllE (P : Ent → Prop) : List Ent → Prop
  | [] => True
  | e :: l => P e ∧ AllE P l
theorem allE {P : Ent → Prop} : ∀ {l : List Ent}, AllE P l → ∀ e ∈ l, P e
  | [], _, _, h => nomatch h
  | a :: l, q, e, h => by
    rcases List.mem_cons.mp h with rfl | h
    · exact q.1
    · exact allE q.2 e h
theorem on_at {X : Cx} {Γ : Ctx} {p : Pos} {t : Sem Fin} {κ : List Fr} {env : List Ent} {gl : List GenState} {N T : Nat} {E : List (Addr × Addr)} {C : List (Code × Code)} {O : List (Obj × Obj)} {h : Heap}
    (hs : h.objs.size = N + 292) (g : Glob X h) (he : AllE (fun e => h.get? e.a = some e.o) env) (nd : (env.map (·.a)).Nodup) (hi : AllE (fun e => 292 ≤ e.a) env) : On X ⟨Γ, p, t, κ, env, gl, N, 0, T, 0, E, C, O⟩ h :=
  on_mk hs g (allE he) nd (allE hi)

section
variable {X : Cx} {os : List Nat} {st : St} {β : Type} {V : List Ent → β} {es : β} {Γ' : Ctx} {gl' : List GenState} {m i : Nat} {h : Heap} {d : Drawn} {ox : OsState} {R : Result → Shared → Prop}
theorem means_of_done {f : Flow} (hsn : seen V (run X os st) = some (toldA (run X os st), toldC (run X os st), toldO (run X os st), .done f, Γ', es, gl', m, i, true)) (hk : AllOk X X.hooks) (D : On X st h)
    (K : ∀ h' T' st', V st'.env = es → On X st' h' → Ext (ownOf st.env) h h' → R (.ok f) ⟨h', ⟨gl'⟩, d, T', ox⟩) : Means (model X.prog X.w) (PostR R) st h d ox := by
  obtain ⟨st', hrun, good, hstop, hctx, hv, hgl, hm, hi, hfl⟩ := seen_ok hsn
  refine seg (hooksX hk) hrun good D fun h' E D' => means_done hstop hfl ?_
  show R _ ⟨h', ⟨st'.gl⟩, d, _, ox⟩
  rw [hgl]; exact K h' _ st' hv D' E
theorem means_of_loop {c : Code} (hsn : seen V (run X os st) = some (toldA (run X os st), toldC (run X os st), toldO (run X os st), .again c, Γ', es, gl', m, i, true)) (hk : AllOk X X.hooks) (D : On X st h) (hq : c.quiet = true)
    (K : ∀ h' T' p' st', V st'.env = es → On X st' h' → Ext (ownOf st.env) h h' → wpCode (model X.prog X.w) Γ' R p' ⟨h', ⟨gl'⟩, d, T', ox⟩) : Means (model X.prog X.w) (PostR R) st h d ox := by
  obtain ⟨st', hrun, good, hstop, hctx, hv, hgl, hm, hi, hfl⟩ := seen_ok hsn
  refine seg (hooksX hk) hrun good D fun h' E D' => means_loop hstop hfl hq ?_
  rw [hctx]
  show wpCode _ _ R _ ⟨h', ⟨st'.gl⟩, d, _, ox⟩
  rw [hgl]; exact K h' _ _ st' hv D' E
theorem means_of_cut {Post : End → Shared → Prop} {c : Code} {b : Bool} (hsn : seen V (run X os st) = some (toldA (run X os st), toldC (run X os st), toldO (run X os st), .call c, Γ', es, gl', m, i, b)) (hk : AllOk X X.hooks) (D : On X st h)
    (K : ∀ h' T' st', run X os st = some st' → V st'.env = es → On X st' h' → Ext (ownOf st.env) h h' → wpCode (model X.prog X.w) Γ' (fun r s' => MeansK (model X.prog X.w) Post st'.κ st'.Γ st'.p (kOf st'.t r) s') st'.p ⟨h', ⟨gl'⟩, d, T', ox⟩) : Means (model X.prog X.w) Post st h d ox := by
  obtain ⟨st', hrun, good, hstop, hctx, hv, hgl, hm, hi, hfl⟩ := seen_ok hsn
  refine seg (hooksX hk) hrun good D fun h' E D' => means_cut hstop ?_
  rw [hctx]
  show wpCode _ _ _ _ ⟨h', ⟨st'.gl⟩, d, _, ox⟩
  rw [hgl]; exact K h' _ st' hrun hv D' E
end

noncomputable def forT : Stmt → PySem.Expr
  | .For t _ _ _ _ => t
  | _ => dfltE
noncomputable def forB : Stmt → List Stmt
  | .For _ _ b _ _ => b
  | _ => []
noncomputable def forCode (w : World) (f j : Nat) (it L : Addr) : Code := .forLoop (forT (stmtAt w f j)) (.ref it) (forB (stmtAt w f j)) [] (cenv w f L)
noncomputable def frameO (es : List DictEntry) (n : Nat) : Obj := ⟨.type "frame", none, .dict ⟨es⟩ n, #[]⟩
end
end Mine

namespace Mine
noncomputable section
open PySem PySem.W PySem.W.X PySem.Calls PyProof.Rows
noncomputable def hkItem (j : Nat) (l : Addr) (its : List Value) (n : Nat) (k : Int) (t : Tok) (v : Value) : Hook :=
  ⟨.call (.builtin "list.__getitem__") ⟨[.ref l, .int k t], []⟩, [(j, l, listO its n, none)], fun _ _ => .ok (.ret v), fun _ => [], 0⟩
theorem ok_item {X : Cx} {j : Nat} {l : Addr} {its : List Value} {n : Nat} {k : Int} {t : Tok} {v : Value} (h0 : 0 ≤ k) (hfit : k < 2 ^ 63) (hx : its[k.toNat]? = some v) : HookOk X (hkItem j l its n k t v) := by
  refine hook_ok (v := fun _ _ => v) fun A Q E s _ _ hp hq => ?_
  obtain ⟨hl, _⟩ := hp
  have hT : s.TypeIs (.ref l) "list" := ⟨_, hl, rfl⟩
  refine wpAny_call_entry F.slot_list_getitem hT F.entry_list_getitem ?_ (F.args_list_getitem_2 _ _)
  show wpAny _ _ (Builtin.List.listSubscript? (.int k t) >>= _) _ _ s
  refine wpAny_bind (wpAny_listSubscript_int (fitsIndex_of h0 hfit) ?_)
  clear hfit
  obtain ⟨i, rfl⟩ := Int.eq_ofNat_of_zero_le h0
  have hx' : (⟨its⟩ : Array Value)[i]? = some v := by simpa using hx
  show wpAny _ _ ((seqItemAt l i >>= fun r => pure (r.map (i, ·))) >>= _) _ _ s
  refine wpAny_bind (wpAny_bind (wpAny_seqItemAt hl rfl (wpAny_pure ?_)))
  rw [hx']
  first
    | exact wpAny_bind (wpAny_pure (wpAny_pure ⟨v, rfl, hq⟩))
    | exact wpAny_pure ⟨v, rfl, hq⟩
theorem ok_last {X : Cx} {j : Nat} {l : Addr} {its : List Value} {n : Nat} {t : Tok} {v : Value} : HookOk X (hkItem j l (its ++ [v]) n (-1) t v) := by
  refine hook_ok (v := fun _ _ => v) fun A Q E s _ _ hp hq => ?_
  obtain ⟨hl, _⟩ := hp
  have hT : s.TypeIs (.ref l) "list" := ⟨_, hl, rfl⟩
  refine wpAny_call_entry F.slot_list_getitem hT F.entry_list_getitem ?_ (F.args_list_getitem_2 _ _)
  show wpAny _ _ (Builtin.List.listSubscript? (.int (-1) t) >>= _) _ _ s
  refine wpAny_bind (wpAny_listSubscript_int (fitsIndex_neg (by decide) (by decide)) ?_)
  have hidx : seqIndex? (Int.negSucc 0) (⟨its ++ [v]⟩ : Array Value).size = some (its.length) := by
    rw [seqIndex_neg (by decide) (by simp; omega)]
    congr 1
    simp
    omega
  show wpAny _ _ ((Builtin.List.listItems (.ref l) >>= fun xs => pure ((seqIndex? (Int.negSucc 0) xs.size).bind fun i => xs[i]?.map (i, ·))) >>= _) _ _ s
  refine wpAny_bind (wpAny_bind ?_)
  show wpAny _ _ (seqItems? (.ref l) >>= _) _ _ s
  refine wpAny_bind (wpAny_seqItems hl (items := ⟨its ++ [v]⟩) rfl (wpAny_pure (wpAny_pure ?_)))
  have hx : (⟨its ++ [v]⟩ : Array Value)[its.length]? = some v := by simp
  rw [hidx]
  simp only [Option.bind_some, hx, Option.map_some]
  exact wpAny_pure ⟨v, rfl, hq⟩
end
end Mine

namespace Mine
noncomputable section
open PySem PySem.W PySem.W.X

noncomputable def toldM : Option St → Nat
  | none => 0
  | some s => s.m
noncomputable def toldI : Option St → Nat
  | none => 0
  | some s => s.i
theorem loop_rule {M : Model} {Γ : Ctx} {R : Result → Shared → Prop} {gl : List GenState} {d : Drawn} {ox : OsState} (I : Nat → Heap → Prop) (n : Nat)
    (turn : ∀ i, i < n → ∀ p T h, I i h → (∀ p' T' h', I (i + 1) h' → wpCode M Γ R p' ⟨h', ⟨gl⟩, d, T', ox⟩) → wpCode M Γ R p ⟨h, ⟨gl⟩, d, T, ox⟩)
    (fin : ∀ p T h, I n h → wpCode M Γ R p ⟨h, ⟨gl⟩, d, T, ox⟩) : ∀ k i, i + k = n → ∀ p T h, I i h → wpCode M Γ R p ⟨h, ⟨gl⟩, d, T, ox⟩
  | 0, i, e, p, T, h, H => by cases e; exact fin p T h H
  | k + 1, i, e, p, T, h, H => turn i (by omega) p T h H fun p' T' h' H' => loop_rule I n turn fin k (i + 1) (by omega) p' T' h' H'
theorem loop0 {M : Model} {Γ : Ctx} {R : Result → Shared → Prop} {gl : List GenState} {d : Drawn} {ox : OsState} (I : Nat → Heap → Prop) (n : Nat) {p : Pos} {T : Nat} {h : Heap} (H : I 0 h)
    (turn : ∀ i, i < n → ∀ p T h, I i h → (∀ p' T' h', I (i + 1) h' → wpCode M Γ R p' ⟨h', ⟨gl⟩, d, T', ox⟩) → wpCode M Γ R p ⟨h, ⟨gl⟩, d, T, ox⟩)
    (fin : ∀ p T h, I n h → wpCode M Γ R p ⟨h, ⟨gl⟩, d, T, ox⟩) : wpCode M Γ R p ⟨h, ⟨gl⟩, d, T, ox⟩ := loop_rule I n turn fin n 0 (by omega) p T h H

theorem Ext.drop {own keep : List Addr} {h h' : Heap} (x : Ext own h h') (hs : ∀ c : Nat, c ∈ own → c ∈ keep ∨ h.objs.size ≤ c) : Ext keep h h' := x.mono fun c hc => by
  rcases hs c hc with k | k
  · exact .inl k
  · right
    cases hg : h.get? c with
    | none => rfl
    | some o => exact absurd (Heap.lt_size hg) (Nat.not_lt.mpr k)
theorem Ext.new {own : List Addr} {h h' : Heap} (x : Ext own h h') (hs : ∀ c : Nat, c ∈ own → h.objs.size ≤ c) : Ext [] h h' := x.drop fun c hc => .inr (hs c hc)
theorem Ext.keepT {own : List Addr} {h h' : Heap} (x : Ext own h h') {a : Addr} {o : Obj} (ha : h.get? a = some o) (hown : ∀ c ∈ own, h.get? c ≠ some o) : h'.get? a = some o := x.keep _ _ ha fun hc => hown a hc ha

noncomputable def All2 {α β : Type} (P : α → β → Prop) : List α → List β → Prop
  | [], [] => True
  | a :: l, b :: r => P a b ∧ All2 P l r
  | _, _ => False
section
variable {α β : Type} {P Q : α → β → Prop}
theorem All2.length : ∀ {l : List α} {r : List β}, All2 P l r → l.length = r.length
  | [], [], _ => rfl
  | _ :: _, _ :: _, h => by simp [All2.length h.2]
  | [], _ :: _, h => h.elim
  | _ :: _, [], h => h.elim
theorem All2.app : ∀ {l l' : List α} {r r' : List β}, All2 P l r → All2 P l' r' → All2 P (l ++ l') (r ++ r')
  | [], _, [], _, _, h => h
  | _ :: _, _, _ :: _, _, h, h' => ⟨h.1, All2.app h.2 h'⟩
  | [], _, _ :: _, _, h, _ => h.elim
  | _ :: _, _, [], _, h, _ => h.elim
theorem All2.mono (f : ∀ a b, P a b → Q a b) : ∀ {l : List α} {r : List β}, All2 P l r → All2 Q l r
  | [], [], _ => trivial
  | _ :: _, _ :: _, h => ⟨f _ _ h.1, All2.mono f h.2⟩
  | [], _ :: _, h => h.elim
  | _ :: _, [], h => h.elim
theorem All2.get : ∀ {l : List α} {r : List β}, All2 P l r → ∀ (i : Nat) {b : β}, r[i]? = some b → ∃ a, l[i]? = some a ∧ P a b
  | a :: l, b :: r, h, 0, _, e => by cases e; exact ⟨a, rfl, h.1⟩
  | a :: l, b :: r, h, i + 1, _, e => All2.get h.2 i e
  | [], [], h, _, _, e => nomatch e
  | [], _ :: _, h, _, _, _ => h.elim
  | _ :: _, [], h, _, _, _ => h.elim
theorem All2.snoc {l : List α} {r : List β} {a : α} {b : β} (h : All2 P l r) (p : P a b) : All2 P (l ++ [a]) (r ++ [b]) := h.app ⟨p, trivial⟩
theorem All2.last : ∀ {l : List α} {r : List β} {b : β}, All2 P l (r ++ [b]) → ∃ l' a, l = l' ++ [a] ∧ All2 P l' r ∧ P a b
  | [a], [], b, h => ⟨[], a, rfl, trivial, h.1⟩
  | a :: l, b' :: r, b, h => by
    obtain ⟨l', a', rfl, h1, h2⟩ := All2.last (l := l) (r := r) h.2
    exact ⟨a :: l', a', rfl, ⟨h.1, h1⟩, h2⟩
  | a :: a' :: l, [], b, h => h.2.elim
  | [], r, b, h => by cases r <;> exact h.elim
end
end
end Mine
namespace Mine
noncomputable section
open PySem PySem.W PySem.W.X
noncomputable def kindOf (o : Obj) : String := match o.cls with
  | .type s => s
  | _ => ""
theorem ne_kind {h : Heap} {a b : Addr} {o o' : Obj} (h1 : h.get? a = some o) (h2 : h.get? b = some o') (hk : kindOf o ≠ kindOf o') : a ≠ b := by
  rintro rfl
  rw [h1] at h2
  exact hk (congrArg kindOf (Option.some.inj h2))
noncomputable def DifE (e : Ent) : List Ent → Prop
  | [] => True
  | f :: l => (kindOf e.o ≠ kindOf f.o ∨ e.a ≠ f.a) ∧ DifE e l
noncomputable def Dif : List Ent → Prop
  | [] => True
  | e :: l => DifE e l ∧ Dif l
theorem difE_mem {h : Heap} {e : Ent} (h1 : h.get? e.a = some e.o) : ∀ {l : List Ent}, AllE (fun e => h.get? e.a = some e.o) l → DifE e l → e.a ∉ l.map (·.a)
  | [], _, _, hm => nomatch hm
  | f :: l, he, hd, hm => by
    rcases List.mem_cons.mp hm with q | q
    · rcases hd.1 with k | k
      · exact ne_kind h1 he.1 k q
      · exact k q
    · exact difE_mem h1 he.2 hd.2 q
theorem dif_nodup {h : Heap} : ∀ {l : List Ent}, AllE (fun e => h.get? e.a = some e.o) l → Dif l → (l.map (·.a)).Nodup
  | [], _, _ => List.nodup_nil
  | e :: l, he, hd => List.nodup_cons.mpr ⟨difE_mem he.1 he.2 hd.1, dif_nodup he.2 hd.2⟩
theorem on_dif {X : Cx} {Γ : Ctx} {p : Pos} {t : Sem Fin} {κ : List Fr} {env : List Ent} {gl : List GenState} {N T : Nat} {E : List (Addr × Addr)} {C : List (Code × Code)} {O : List (Obj × Obj)} {h : Heap}
    (hs : h.objs.size = N + 292) (g : Glob X h) (he : AllE (fun e => h.get? e.a = some e.o) env) (nd : Dif env) (hi : AllE (fun e => 292 ≤ e.a) env) : On X ⟨Γ, p, t, κ, env, gl, N, 0, T, 0, E, C, O⟩ h :=
  on_at hs g he (dif_nodup he nd) hi
theorem means_back {M : Model} {Post : End → Shared → Prop} {o : Option St} {s : St} {r : Result} {env : List Ent} {gl : List GenState} {N T : Nat} {h : Heap} {d : Drawn} {ox : OsState} (e : o = some s) (H : Means M Post (resumeO o r env gl N T) h d ox) :
    MeansK M Post s.κ s.Γ s.p (kOf s.t r) ⟨h, ⟨gl⟩, d, T, ox⟩ := by rw [resume_eq e] at H; exact means_resume H
theorem on_back {X : Cx} {o : Option St} {s : St} {r : Result} {env : List Ent} {gl : List GenState} {N T : Nat} {h : Heap} (e : o = some s)
    (hs : h.objs.size = N + 292) (g : Glob X h) (he : AllE (fun e => h.get? e.a = some e.o) env) (nd : Dif env) (hi : AllE (fun e => 292 ≤ e.a) env) : On X (resumeO o r env gl N T) h := by
  rw [resume_eq e]; exact on_dif hs g he nd hi
theorem own_back {o : Option St} {s : St} {r : Result} {env : List Ent} {gl : List GenState} {N T : Nat} (e : o = some s) : ownOf (resumeO o r env gl N T).env = ownOf env := by rw [resume_eq e]; rfl
theorem ext_back {o : Option St} {s : St} {r : Result} {env : List Ent} {gl : List GenState} {N T : Nat} {h h' : Heap} (e : o = some s) (E : Ext (ownOf (resumeO o r env gl N T).env) h h') : Ext (ownOf env) h h' := by rw [own_back e] at E; exact E
end
end Mine

namespace Mine
noncomputable section
open PySem PySem.W PySem.W.X
theorem adne {a b : Nat} (h : a ≠ b) : a + 292 ≠ b + 292 := fun e => h (Nat.add_right_cancel e)
theorem adns {a b : Nat} (h : b ≠ a) : a + 292 ≠ b + 292 := fun e => h (Nat.add_right_cancel e).symm
theorem nmem_nil {a : Nat} : a ∉ ([] : List Nat) := List.not_mem_nil
theorem nmem_cons {a c : Nat} {l : List Nat} (h : a ≠ c) (h' : a ∉ l) : a ∉ c :: l := fun m => by
  rcases List.mem_cons.mp m with e | e
  · exact h e
  · exact h' e
theorem fa_nil {α : Type} {P : α → Prop} : ∀ c ∈ ([] : List α), P c := fun _ h => nomatch h
theorem fa_cons {α : Type} {P : α → Prop} {a : α} {l : List α} (h : P a) (h' : ∀ c ∈ l, P c) : ∀ c ∈ a :: l, P c := List.forall_mem_cons.mpr ⟨h, h'⟩
theorem fa_app {α : Type} {P : α → Prop} {l l' : List α} (h : ∀ c ∈ l, P c) (h' : ∀ c ∈ l', P c) : ∀ c ∈ l ++ l', P c := fun c m => (List.mem_append.mp m).elim (h c) (h' c)
theorem nw0 {n N k : Nat} (hN : n = N + 292) (h : Nat.ble 292 k = true) : n ≤ N + k := hN ▸ Nat.add_le_add_left (Nat.le_of_ble_eq_true h) N
theorem nw1 {n N M k : Nat} (hN : n = N + 292) (hM : N ≤ M) (h : Nat.ble 292 k = true) : n ≤ M + k := hN ▸ Nat.add_le_add hM (Nat.le_of_ble_eq_true h)
theorem nw2 {n N M i k : Nat} (hN : n = N + 292) (hM : N ≤ M) (h : Nat.ble 292 k = true) : n ≤ M + i + k := nw1 hN (Nat.le_trans hM (Nat.le_add_right M i)) h
theorem le_NN {n m N M : Nat} (hN : n = N + 292) (hM : m = M + 292) (e : n ≤ m) : N ≤ M := by omega
theorem kneB {o o' : Obj} (h : (kindOf o == kindOf o') = false) : kindOf o ≠ kindOf o' := by simpa using h
theorem kneS {o : Obj} {s : String} (h : (kindOf o == s) = false) : kindOf o ≠ s := by simpa using h
noncomputable def kindsDif (k : String) : List Ent → Bool
  | [] => true
  | e :: l => !(k == kindOf e.o) && kindsDif k l
noncomputable def kindsOk : List Ent → Bool
  | [] => true
  | e :: l => kindsDif (kindOf e.o) l && kindsOk l
theorem difE_kinds {e : Ent} : ∀ {l : List Ent}, kindsDif (kindOf e.o) l = true → DifE e l
  | [], _ => trivial
  | f :: l, h => by
    simp only [kindsDif, Bool.and_eq_true, Bool.not_eq_true', beq_eq_false_iff_ne] at h
    exact ⟨.inl h.1, difE_kinds h.2⟩
theorem dif_kinds : ∀ {l : List Ent}, kindsOk l = true → Dif l
  | [], _ => trivial
  | e :: l, h => by
    simp only [kindsOk, Bool.and_eq_true] at h
    exact ⟨difE_kinds h.1, dif_kinds h.2⟩
noncomputable def bare (X : Cx) : Cx := ⟨X.prog, X.w, X.kt, X.tabs, []⟩
section
variable {X X0 : Cx} {os : List Nat} {o o0 : Option St} {s0 : St} {β : Type} {V : List Ent → β} {es : β} {Γ Γ' : Ctx} {gl gl' : List GenState} {m i N T : Nat} {h : Heap} {d : Drawn} {ox : OsState} {R : Result → Shared → Prop} {r : Result} {env : List Ent} {own : List Addr} {p : Pos}
theorem back_cut {Post : End → Shared → Prop} {c : Code} {b : Bool} (e : o0 = some s0) (hsn : seen V o = some (toldA o, toldC o, toldO o, .call c, Γ', es, gl', m, i, b)) (ho : o = run X os (resumeO o0 r env gl N T)) (hw : ownOf env = own) (hx : bare X = X0) (hk : AllOk X X.hooks) (hs : h.objs.size = N + 292) (g : Glob X0 h)
    (he : AllE (fun e => h.get? e.a = some e.o) env) (nd : Dif env) (hi : AllE (fun e => 292 ≤ e.a) env)
    (K : ∀ h' T' st', o = some st' → V st'.env = es → On X0 st' h' → Ext own h h' → ¬ (wpCode (model X0.prog X0.w) Γ' (fun r s' => MeansK (model X0.prog X0.w) Post st'.κ st'.Γ st'.p (kOf st'.t r) s') st'.p ⟨h', ⟨gl'⟩, d, T', ox⟩) → False) : MeansK (model X0.prog X0.w) Post s0.κ s0.Γ s0.p (kOf s0.t r) ⟨h, ⟨gl⟩, d, T, ox⟩ := by
  subst ho hw hx
  exact means_back e (means_of_cut (X := X) hsn hk (on_back e hs g he nd hi) fun h' T' st' q v D E => byC fun n => K h' T' st' q v ⟨D.size, D.env, D.apart, D.high, D.glob⟩ (ext_back e E) n)
theorem back_loop {c : Code} (e : o0 = some s0) (hsn : seen V o = some (toldA o, toldC o, toldO o, .again c, Γ', es, gl', m, i, true)) (ho : o = run X os (resumeO o0 r env gl N T)) (hw : ownOf env = own) (hx : bare X = X0) (hk : AllOk X X.hooks) (hs : h.objs.size = N + 292) (g : Glob X0 h)
    (he : AllE (fun e => h.get? e.a = some e.o) env) (nd : Dif env) (hi : AllE (fun e => 292 ≤ e.a) env) (hq : c.quiet = true)
    (K : ∀ h' T' p' st', V st'.env = es → On X0 st' h' → Ext own h h' → ¬ (wpCode (model X0.prog X0.w) Γ' R p' ⟨h', ⟨gl'⟩, d, T', ox⟩) → False) : MeansK (model X0.prog X0.w) (PostR R) s0.κ s0.Γ s0.p (kOf s0.t r) ⟨h, ⟨gl⟩, d, T, ox⟩ := by
  subst ho hw hx
  exact means_back e (means_of_loop (X := X) hsn hk (on_back e hs g he nd hi) hq fun h' T' p' st' v D E => byC fun n => K h' T' p' st' v ⟨D.size, D.env, D.apart, D.high, D.glob⟩ (ext_back e E) n)
theorem back_done {f : Flow} (e : o0 = some s0) (hsn : seen V o = some (toldA o, toldC o, toldO o, .done f, Γ', es, gl', m, i, true)) (ho : o = run X os (resumeO o0 r env gl N T)) (hw : ownOf env = own) (hx : bare X = X0) (hk : AllOk X X.hooks) (hs : h.objs.size = N + 292) (g : Glob X0 h)
    (he : AllE (fun e => h.get? e.a = some e.o) env) (nd : Dif env) (hi : AllE (fun e => 292 ≤ e.a) env)
    (K : ∀ h' T' st', V st'.env = es → On X0 st' h' → Ext own h h' → ¬ (R (.ok f) ⟨h', ⟨gl'⟩, d, T', ox⟩) → False) : MeansK (model X0.prog X0.w) (PostR R) s0.κ s0.Γ s0.p (kOf s0.t r) ⟨h, ⟨gl⟩, d, T, ox⟩ := by
  subst ho hw hx
  exact means_back e (means_of_done (X := X) hsn hk (on_back e hs g he nd hi) fun h' T' st' v D E => byC fun n => K h' T' st' v ⟨D.size, D.env, D.apart, D.high, D.glob⟩ (ext_back e E) n)
theorem code_cut {c : Code} {b : Bool} (hsn : seen V o = some (toldA o, toldC o, toldO o, .call c, Γ', es, gl', m, i, b)) (ho : o = run X os (begin Γ p env gl N T)) (hw : ownOf env = own) (hx : bare X = X0) (hk : AllOk X X.hooks) (hs : h.objs.size = N + 292) (g : Glob X0 h)
    (he : AllE (fun e => h.get? e.a = some e.o) env) (nd : Dif env) (hi : AllE (fun e => 292 ≤ e.a) env)
    (K : ∀ h' T' st', o = some st' → V st'.env = es → On X0 st' h' → Ext own h h' → ¬ (wpCode (model X0.prog X0.w) Γ' (fun r s' => MeansK (model X0.prog X0.w) (PostR R) st'.κ st'.Γ st'.p (kOf st'.t r) s') st'.p ⟨h', ⟨gl'⟩, d, T', ox⟩) → False) : wpCode (model X0.prog X0.w) Γ R p ⟨h, ⟨gl⟩, d, T, ox⟩ := by
  subst ho hw hx
  exact code_of_means (X := X) (env := env) (N := N) (means_of_cut hsn hk (on_dif hs g he nd hi) fun h' T' st' q v D E => byC fun n => K h' T' st' q v ⟨D.size, D.env, D.apart, D.high, D.glob⟩ E n)
theorem code_loop {c : Code} (hsn : seen V o = some (toldA o, toldC o, toldO o, .again c, Γ', es, gl', m, i, true)) (ho : o = run X os (begin Γ p env gl N T)) (hw : ownOf env = own) (hx : bare X = X0) (hk : AllOk X X.hooks) (hs : h.objs.size = N + 292) (g : Glob X0 h)
    (he : AllE (fun e => h.get? e.a = some e.o) env) (nd : Dif env) (hi : AllE (fun e => 292 ≤ e.a) env) (hq : c.quiet = true)
    (K : ∀ h' T' p' st', V st'.env = es → On X0 st' h' → Ext own h h' → ¬ (wpCode (model X0.prog X0.w) Γ' R p' ⟨h', ⟨gl'⟩, d, T', ox⟩) → False) : wpCode (model X0.prog X0.w) Γ R p ⟨h, ⟨gl⟩, d, T, ox⟩ := by
  subst ho hw hx
  exact code_of_means (X := X) (env := env) (N := N) (means_of_loop hsn hk (on_dif hs g he nd hi) hq fun h' T' p' st' v D E => byC fun n => K h' T' p' st' v ⟨D.size, D.env, D.apart, D.high, D.glob⟩ E n)
theorem code_done {f : Flow} (hsn : seen V o = some (toldA o, toldC o, toldO o, .done f, Γ', es, gl', m, i, true)) (ho : o = run X os (begin Γ p env gl N T)) (hw : ownOf env = own) (hx : bare X = X0) (hk : AllOk X X.hooks) (hs : h.objs.size = N + 292) (g : Glob X0 h)
    (he : AllE (fun e => h.get? e.a = some e.o) env) (nd : Dif env) (hi : AllE (fun e => 292 ≤ e.a) env)
    (K : ∀ h' T' st', V st'.env = es → On X0 st' h' → Ext own h h' → ¬ (R (.ok f) ⟨h', ⟨gl'⟩, d, T', ox⟩) → False) : wpCode (model X0.prog X0.w) Γ R p ⟨h, ⟨gl⟩, d, T, ox⟩ := by
  subst ho hw hx
  exact code_of_means (X := X) (env := env) (N := N) (means_of_done hsn hk (on_dif hs g he nd hi) fun h' T' st' v D E => byC fun n => K h' T' st' v ⟨D.size, D.env, D.apart, D.high, D.glob⟩ E n)
end
end
end Mine

local macro_rules | `(tactic| tlg_ne) => `(tactic| first | exact Mine.adne (by assumption) | exact Mine.adns (by assumption) | (refine Mine.adne ?_; omega) | omega | (dsimp +zetaDelta only <;> omega) | (simp +zetaDelta <;> omega))
local macro_rules | `(tactic| kt_eqs) => `(tactic| first | exact Mine.nmem_nil | (refine Mine.nmem_cons (by tlg_ne) ?_; kt_eqs))
local macro_rules | `(tactic| k_mem) => `(tactic| first | exact List.Mem.head _ | (refine List.Mem.tail _ ?_; k_mem))
local macro_rules | `(tactic| kt_ors) => `(tactic| first | exact Mine.fa_nil | (refine Mine.fa_cons (by first | omega | exact Or.inl (by k_mem) | (refine Or.inr ?_; omega)) ?_; kt_ors) | (refine Mine.fa_app (by kt_ors) ?_; kt_ors))
local macro_rules | `(tactic| kt_len) => `(tactic| first | exact trivial | exact Mine.fa_nil | (refine And.intro (Nat.le_add_left _ _) ?_; kt_len) | (refine Mine.fa_cons (Nat.le_add_left _ _) ?_; kt_len) | exact Nat.le_add_left _ _)
local macro_rules | `(tactic| ktd_rel) => `(tactic| first | exact Mine.dif_kinds (by kernel_rfl!) | exact trivial | (intro h9; cases h9 <;> first | (rename_i h9; cases h9; done) | skip; done) | (intro h9; clear h9; ktd_rel) | exact Or.inl (Mine.kneB (by kernel_rfl!)) | (refine Or.inr ?_; tlg_ne) | (refine And.intro (by ktd_rel) ?_; ktd_rel))
local macro_rules | `(tactic| ktr_rel) => `(tactic| first | exact Mine.fa_nil | (refine Mine.fa_cons ⟨_, by assumption, Mine.kneS (by kernel_rfl!)⟩ ?_; ktr_rel))

namespace Mine
noncomputable section
open PySem PySem.W PySem.W.X

noncomputable def lt4 : Nat → Str
  | 0 => ⟨⟨[66]⟩⟩
  | 1 => ⟨⟨[97]⟩⟩
  | 2 => ⟨⟨[98]⟩⟩
  | _ => ⟨⟨[65]⟩⟩

noncomputable def wE (w : World) : PySem.Expr := binR (retE (stmtAt w 262 0))
noncomputable def wEnv (w : World) (L Lc : Addr) : Env := compEnv (scopeOf (wE w)) Lc [] (cenv w 262 L)
noncomputable def wLoop (w : World) (it acc L Lc : Addr) : Code := .compLoop (wE w) 0 (.ref it) (.ref acc) (wEnv w L Lc)
noncomputable def wBelow (w : World) (L0 L : Addr) (p0 p1 : Pos) : List (Code × Pos) := (fcode w 262 L, p1) :: belowLaw w L0 p0
noncomputable def stW1 (w : World) (L0 L it acc Lc l : Addr) (p0 p1 p : Pos) (its : List Value) (n : Nat) (i : Nat) (accs : List Value) (na : Nat) (es : List DictEntry) (ne : Nat) (N T : Nat) : St :=
  begin (ctxIn (wLoop w it acc L Lc) (wBelow w L0 L p0 p1)) p [⟨it, iterO l i, true⟩, ⟨acc, listO accs na, true⟩, ⟨Lc, dictO es ne, true⟩, ⟨l, listO its n, false⟩] [] N T
noncomputable def xW1 (w : World) (b1 b2 : Bool) (it acc l : Addr) (its : List Value) (n i : Nat) (x : Int) (tx : Tok) (r : Nat) (accs : List Value) (na T : Nat) : Cx :=
  XX w b1 b2 tb [hkNext 0 3 it l its n i (.int x tx), hkInt "int.__mod__" [.int x tx, .int 4 (T + 2)] r, hkApp 1 acc accs na (.str (lt4 r) (T + 4))]
noncomputable def vW1 (env : List Ent) := (nth env 0, nth env 1, shape (nth env 2))

theorem word_run0 (w : World) (b1 b2 : Bool) (L0 L it acc Lc l : Addr) (p0 p1 p : Pos) (its : List Value) (n i : Nat) (x : Int) (tx : Tok) (accs : List Value) (na N T r ne : Nat) (hr : r = 0 ∨ r = 1 ∨ r = 2 ∨ r = 3) :
    let o := run (xW1 w b1 b2 it acc l its n i x tx r accs na T) [1, 1, 3, 3, 3, 2, 0, 0, 3] (stW1 w L0 L it acc Lc l p0 p1 p its n i accs na [] ne N T)
    seen vW1 o = some (toldA o, toldC o, toldO o, .again (wLoop w it acc L Lc), ctxIn (wLoop w it acc L Lc) (wBelow w L0 L p0 p1),
      (some ⟨it, iterO l (i + 1), true⟩, some ⟨acc, listO (accs ++ [.str (lt4 r) (T + 4)]) (na + 1), true⟩, some (Lc, some (.type "dict", none, #[], [(some (nm "x"), .int x tx)]))), [], 0, 5, true) := by
  rcases hr with rfl | rfl | rfl | rfl <;> kernel_rfl
theorem word_run1 (w : World) (b1 b2 : Bool) (L0 L it acc Lc l : Addr) (p0 p1 p : Pos) (its : List Value) (n i : Nat) (x : Int) (tx : Tok) (accs : List Value) (na N T r : Nat) (hs : Int) (tk : Tok) (v : Value) (ne : Nat) (hr : r = 0 ∨ r = 1 ∨ r = 2 ∨ r = 3) :
    let o := run (xW1 w b1 b2 it acc l its n i x tx r accs na T) [1, 1, 3, 3, 3, 2, 0, 0, 3] (stW1 w L0 L it acc Lc l p0 p1 p its n i accs na [⟨hs, .str (nm "x") tk, v⟩] ne N T)
    seen vW1 o = some (toldA o, toldC o, toldO o, .again (wLoop w it acc L Lc), ctxIn (wLoop w it acc L Lc) (wBelow w L0 L p0 p1),
      (some ⟨it, iterO l (i + 1), true⟩, some ⟨acc, listO (accs ++ [.str (lt4 r) (T + 4)]) (na + 1), true⟩, some (Lc, some (.type "dict", none, #[], [(some (nm "x"), .int x tx)]))), [], 0, 5, true) := by
  rcases hr with rfl | rfl | rfl | rfl <;> kernel_rfl
theorem word_run2 (w : World) (b1 b2 : Bool) (L0 L it acc Lc l : Addr) (p0 p1 p : Pos) (its : List Value) (n i : Nat) (accs : List Value) (na N T : Nat) (es : List DictEntry) (ne : Nat) :
    let o := run (XX w b1 b2 tb [hkEnd 0 3 it l its n i]) [1, 1, 1] (stW1 w L0 L it acc Lc l p0 p1 p its n i accs na es ne N T)
    seen (fun env => (nth env 3, nth env 4)) o = some (toldA o, toldC o, toldO o, .done .next, ctxIn (wLoop w it acc L Lc) (wBelow w L0 L p0 p1),
      (some ⟨acc, listO accs na, true⟩, some ⟨Lc, dictO es ne, true⟩), [], 2, 0, true) := by
  kernel_rfl
end
end Mine
namespace Mine
noncomputable section
open PySem PySem.W PySem.W.X
inductive Signs : List Value → List Value → Prop
  | nil : Signs [] []
  | cons (x : Int) (t k : Tok) (r : Nat) {l l' : List Value} (hr : x.fmod 4 = r) (h4 : r = 0 ∨ r = 1 ∨ r = 2 ∨ r = 3) (h : Signs l l') : Signs (.int x t :: l) (.str (lt4 r) k :: l')
noncomputable def AreInts (l : List Value) : Prop := ∀ v ∈ l, ∃ x t, v = Value.int x t
theorem fmod4 (x : Int) : ∃ r : Nat, x.fmod 4 = r ∧ (r = 0 ∨ r = 1 ∨ r = 2 ∨ r = 3) := by
  have e := Int.fmod_eq_emod_of_nonneg x (show (0 : Int) ≤ 4 by decide)
  refine ⟨(x % 4).toNat, ?_, ?_⟩
  · rw [e]; omega
  · omega
noncomputable def OneKey (es : List DictEntry) : Prop := es = [] ∨ ∃ hs tk v, es = [⟨hs, .str (nm "x") tk, v⟩]


theorem word_loop (w : World) (b1 b2 : Bool) (L0 L it acc Lc l : Addr) (p0 p1 : Pos) (its : List Value) (n : Nat) (d : Drawn) (ox : OsState) (R : Result → Shared → Prop) (nd : [it, acc, Lc, l].Nodup) (hi4 : ∀ a ∈ [it, acc, Lc, l], 292 ≤ a) (hz : its.length ≤ 63) :
    ∀ (rest pre : List Value) (p : Pos) (accs : List Value) (na : Nat) (es : List DictEntry) (ne : Nat) (h : Heap) (T : Nat), its = pre ++ rest → AreInts rest → OneKey es → accs.length + rest.length ≤ 63 →
      Glob (XX w b1 b2 tb []) h → h.get? it = some (iterO l pre.length) → h.get? acc = some (listO accs na) → h.get? Lc = some (dictO es ne) → h.get? l = some (listO its n) →
      (∀ h' T' accs' na' es' ne', Ext [it, acc, Lc] h h' → h'.get? acc = some (listO (accs ++ accs') na') → Signs rest accs' → OneKey es' → h'.get? Lc = some (dictO es' ne') → R (.ok .next) ⟨h', ⟨[]⟩, d, T', ox⟩) →
      wpCode (model PySem.Challenge.pw_pe0217_01 (setW w b1 b2)) (ctxIn (wLoop w it acc L Lc) (wBelow w L0 L p0 p1)) R p ⟨h, ⟨[]⟩, d, T, ox⟩
  | [], pre, p, accs, na, es, ne, h, T, hits, hi, hk, hl, G, f1, f2, f3, f4, K => by
    obtain ⟨N, hN⟩ := le_size f1 (hi4 it (.head _))
    have hx : its[pre.length]? = none := by rw [hits]; simp
    obtain ⟨st', hrun, good, hstop, hctx, hv, hgl, hm, hi', hfl⟩ := seen_ok (word_run2 w b1 b2 L0 L it acc Lc l p0 p1 p its n pre.length accs na N T es ne)
    have D : On (XX w b1 b2 tb [hkEnd 0 3 it l its n pre.length]) (stW1 w L0 L it acc Lc l p0 p1 p its n pre.length accs na es ne N T) h :=
      on_mk hN G (List.forall_mem_cons.mpr ⟨f1, List.forall_mem_cons.mpr ⟨f2, List.forall_mem_cons.mpr ⟨f3, List.forall_mem_cons.mpr ⟨f4, fun _ h => nomatch h⟩⟩⟩⟩) nd
        (fun e he => hi4 e.a (List.mem_map_of_mem (f := Ent.a) he))
    refine code_of_means (X := XX w b1 b2 tb [hkEnd 0 3 it l its n pre.length]) (N := N) (seg (hooksX (X := XX w b1 b2 tb [hkEnd 0 3 it l its n pre.length]) ⟨hkEnd_ok hx, trivial⟩) hrun good D fun h' E D' => ?_)
    simp only [Prod.mk.injEq] at hv
    refine means_done hstop hfl ?_
    show R (.ok .next) ⟨h', ⟨st'.gl⟩, d, _, ox⟩
    rw [hgl]
    refine K h' _ [] na es ne E ?_ .nil hk (D'.at hv.2)
    rw [List.append_nil]; exact D'.at hv.1
  | v :: rest, pre, p, accs, na, es, ne, h, T, hits, hi, hk, hl, G, f1, f2, f3, f4, K => by
    obtain ⟨N, hN⟩ := le_size f1 (hi4 it (.head _))
    obtain ⟨x, tx, rfl⟩ := hi v (.head _)
    obtain ⟨r, hr, h4⟩ := fmod4 x
    have hx : its[pre.length]? = some (.int x tx) := by rw [hits]; simp
    have hooks : AllOk (xW1 w b1 b2 it acc l its n pre.length x tx r accs na T) (xW1 w b1 b2 it acc l its n pre.length x tx r accs na T).hooks :=
      ⟨hkNext_ok hx, by rw [← hr]; exact ok_mod (by decide), ok_app (by rw [sizeL]; simp at hl; omega), trivial⟩
    have step : ∀ st', run (xW1 w b1 b2 it acc l its n pre.length x tx r accs na T) [1, 1, 3, 3, 3, 2, 0, 0, 3] (stW1 w L0 L it acc Lc l p0 p1 p its n pre.length accs na es ne N T) = some st' → Good st' →
        stopOf st'.t = .again (wLoop w it acc L Lc) → ctxOf st' = ctxIn (wLoop w it acc L Lc) (wBelow w L0 L p0 p1) →
        vW1 st'.env = (some ⟨it, iterO l (pre.length + 1), true⟩, some ⟨acc, listO (accs ++ [.str (lt4 r) (T + 4)]) (na + 1), true⟩, some (Lc, some (.type "dict", none, #[], [(some (nm "x"), .int x tx)]))) → st'.gl = [] → flat st'.κ = true →
        wpCode (model PySem.Challenge.pw_pe0217_01 (setW w b1 b2)) (ctxIn (wLoop w it acc L Lc) (wBelow w L0 L p0 p1)) R p ⟨h, ⟨[]⟩, d, T, ox⟩ := by
      intro st' hrun good hstop hctx hv hgl hfl
      have D : On (xW1 w b1 b2 it acc l its n pre.length x tx r accs na T) (stW1 w L0 L it acc Lc l p0 p1 p its n pre.length accs na es ne N T) h :=
        on_mk hN G (List.forall_mem_cons.mpr ⟨f1, List.forall_mem_cons.mpr ⟨f2, List.forall_mem_cons.mpr ⟨f3, List.forall_mem_cons.mpr ⟨f4, fun _ h => nomatch h⟩⟩⟩⟩) nd
          (fun e he => hi4 e.a (List.mem_map_of_mem (f := Ent.a) he))
      refine code_of_means (X := xW1 w b1 b2 it acc l its n pre.length x tx r accs na T) (N := N) (seg (hooksX hooks) hrun good D fun h' E D' => ?_)
      obtain ⟨v1, v2, v3⟩ := pr3 hv
      obtain ⟨es', n', own', e3, hkv⟩ := shape_ok v3
      obtain ⟨hs, tk, r', rfl, hnil⟩ := kvs_cons hkv
      cases kvs_nil hnil
      refine means_loop hstop hfl rfl ?_
      rw [hctx]
      show wpCode _ _ R st'.p ⟨h', ⟨st'.gl⟩, d, _, ox⟩
      rw [hgl]
      have E3 : Ext [it, acc, Lc] h h' := E
      have nl : l ∉ [it, acc, Lc] := by
        have := nd
        simp only [List.nodup_cons, List.mem_cons, List.not_mem_nil, or_false, not_or, List.nodup_nil, and_true, not_false_eq_true] at this ⊢
        obtain ⟨⟨_, _, q1⟩, ⟨_, q2⟩, q3⟩ := this
        exact ⟨Ne.symm q1, Ne.symm q2, Ne.symm q3⟩
      have e1 : pre.length + 1 = (pre ++ [Value.int x tx]).length := by simp
      refine word_loop w b1 b2 L0 L it acc Lc l p0 p1 its n d ox R nd hi4 hz rest (pre ++ [.int x tx]) st'.p (accs ++ [.str (lt4 r) (T + 4)]) (na + 1) _ n' h' _ (by rw [hits]; simp) (fun v hv => hi v (.tail _ hv)) (.inr ⟨_, _, _, rfl⟩) (by simp at hl ⊢; omega)
        (E3.glob (X := XX w b1 b2 tb []) (by intro a ha; left; refine hi4 a ?_; simp only [List.mem_cons, List.not_mem_nil, or_false] at ha ⊢; rcases ha with rfl | rfl | rfl <;> simp) G) (by rw [← e1]; exact D'.at v1) (D'.at v2) (D'.at e3) (E3.keep _ _ f4 nl) ?_
      intro h'' T'' accs' na' es'' ne'' E2 q1 q2 q3 q4
      refine K h'' T'' (.str (lt4 r) (T + 4) :: accs') na' es'' ne'' ?_ (by rw [List.append_assoc] at q1; exact q1) (.cons x tx _ r hr h4 q2) q3 q4
      exact E3.trans2 E2
    rcases hk with rfl | ⟨hs, tk, v, rfl⟩
    · obtain ⟨st', hrun, good, hstop, hctx, hv, hgl, hm, hi', hfl⟩ := seen_ok (word_run0 w b1 b2 L0 L it acc Lc l p0 p1 p its n pre.length x tx accs na N T r ne h4)
      exact step st' hrun good hstop hctx hv hgl hfl
    · obtain ⟨st', hrun, good, hstop, hctx, hv, hgl, hm, hi', hfl⟩ := seen_ok (word_run1 w b1 b2 L0 L it acc Lc l p0 p1 p its n pre.length x tx accs na N T r hs tk v ne h4)
      exact step st' hrun good hstop hctx hv hgl hfl
end
end Mine

namespace Mine
noncomputable section
open PySem PySem.W PySem.W.X
noncomputable def stW0 (w : World) (L0 : Addr) (p0 p : Pos) (a : Addr) (its : List Value) (n N T : Nat) : St :=
  begin (ctxIn (.call (.ref 262) ⟨[.ref a], []⟩) (belowLaw w L0 p0)) p [⟨a, listO its n, false⟩] [] N T
noncomputable def four (T : Nat) : List Value := [.str ⟨⟨[97]⟩⟩ (T + 1), .str ⟨⟨[66]⟩⟩ (T + 2), .str ⟨⟨[98]⟩⟩ (T + 3), .str ⟨⟨[98]⟩⟩ (T + 4)]
noncomputable def rW0 (w : World) (b1 b2 : Bool) (L0 : Addr) (p0 p : Pos) (a : Addr) (its : List Value) (n N T : Nat) : Option St :=
  run (XX w b1 b2 tb [hkUpto 3 0 a (N + 294) its n 20 (T + 5)]) [0, 0, 1, 1, 0, 0, 2, 4, 4, 4, 1, 1, 1, 0, 1, 0, 1] (stW0 w L0 p0 p a its n N T)
noncomputable def wStart (w : World) (it acc L Lc : Addr) : Code := .compStart (wE w) 0 (.ref it) (.ref acc) (wEnv w L Lc)
theorem word_seg0 (w : World) (b1 b2 : Bool) (L0 : Addr) (p0 p : Pos) (a : Addr) (its : List Value) (n N T : Nat) :
    let o := rW0 w b1 b2 L0 p0 p a its n N T
    seen (fun env => (nth env 0, nth env 1, nth env 2, nth env 3, nth env 5)) o = some (toldA o, toldC o, toldO o, .call (wStart w (N + 296) (N + 297) (N + 292) (N + 298)), ctxIn (wStart w (N + 296) (N + 297) (N + 292) (N + 298)) (wBelow w L0 (N + 292) p0 (posO o)),
      (some ⟨N + 298, dictO [] 0, true⟩, some ⟨N + 297, listO [] 0, true⟩, some ⟨N + 296, iterO (N + 295) 0, true⟩, some ⟨N + 295, listO (its.take 20) 0, true⟩, some ⟨N + 293, listO (four T) 0, true⟩), [], 7, 6, true) := by
  cases b1 <;> kernel_rfl
noncomputable def stW3 (w : World) (b1 b2 : Bool) (L0 : Addr) (p0 p : Pos) (a : Addr) (its : List Value) (n N T : Nat) (ws : List Value) (nw : Nat) (es : List DictEntry) (ne : Nat) (N' T' : Nat) : St :=
  resumeO (rW0 w b1 b2 L0 p0 p a its n N T) (.ok .next) [⟨N + 297, listO ws nw, true⟩, ⟨N + 298, dictO es ne, true⟩, ⟨N + 293, listO (four T) 0, true⟩] [] N' T'
noncomputable def xW3 (w : World) (b1 b2 : Bool) (N T : Nat) (ws : List Value) (nw : Nat) : Cx := XX w b1 b2 tb [hkCat 2 0 (N + 293) (N + 297) (four T) ws 0 nw]
theorem word_seg3 (w : World) (b1 b2 : Bool) (L0 : Addr) (p0 p : Pos) (a : Addr) (its : List Value) (n N T : Nat) (ws : List Value) (nw ne N' T' : Nat) :
    let o := run (xW3 w b1 b2 N T ws nw) [2, 3, 1, 3, 1] (stW3 w b1 b2 L0 p0 p a its n N T ws nw [] ne N' T')
    seen (fun env => nth env 0) o = some (toldA o, toldC o, toldO o, .done (.ret (.ref (N' + 292))), ctxIn (fcode w 262 (N + 292)) (belowLaw w L0 p0), some ⟨N' + 292, listO (four T ++ ws) 0, true⟩, [], 1, 0, true) := by
  cases b1 <;> kernel_rfl
theorem word_seg4 (w : World) (b1 b2 : Bool) (L0 : Addr) (p0 p : Pos) (a : Addr) (its : List Value) (n N T : Nat) (ws : List Value) (nw : Nat) (hs : Int) (tk : Tok) (v : Value) (ne N' T' : Nat) :
    let o := run (xW3 w b1 b2 N T ws nw) [2, 2, 2, 3, 1, 3, 1] (stW3 w b1 b2 L0 p0 p a its n N T ws nw [⟨hs, .str (nm "x") tk, v⟩] ne N' T')
    seen (fun env => nth env 0) o = some (toldA o, toldC o, toldO o, .done (.ret (.ref (N' + 292))), ctxIn (fcode w 262 (N + 292)) (belowLaw w L0 p0), some ⟨N' + 292, listO (four T ++ ws) 0, true⟩, [], 1, 0, true) := by
  cases b1 <;> kernel_rfl
end
end Mine

namespace Mine
noncomputable section
open PySem PySem.W PySem.W.X
theorem Signs.length : ∀ {l l' : List Value}, Signs l l' → l'.length = l.length
  | _, _, .nil => rfl
  | _, _, .cons _ _ _ _ _ _ h => by simp [h.length]

theorem word_call (w : World) (b1 b2 : Bool) (L0 : Addr) (p0 p : Pos) (a : Addr) (its : List Value) (n T : Nat) (d : Drawn) (ox : OsState) (R : Result → Shared → Prop) (h : Heap) (ha : 292 ≤ a) (hz : its.length ≤ 63) (hint : AreInts its)
    (G : Glob (XX w b1 b2 tb []) h) (f1 : h.get? a = some (listO its n))
    (K : ∀ h' T' lw ws, Ext [] h h' → h.objs.size ≤ lw → h'.get? lw = some (listO (four T ++ ws) 0) → Signs (its.take 20) ws → R (.ok (.ret (.ref lw))) ⟨h', ⟨[]⟩, d, T', ox⟩) :
    wpCode (model PySem.Challenge.pw_pe0217_01 (setW w b1 b2)) (ctxIn (.call (.ref 262) ⟨[.ref a], []⟩) (belowLaw w L0 p0)) R p ⟨h, ⟨[]⟩, d, T, ox⟩ := by
  obtain ⟨N, hN⟩ := le_size f1 ha
  obtain ⟨st1, hrun, good, hstop, hctx, hv, hgl, hm, hi', hfl⟩ := seen_ok (word_seg0 w b1 b2 L0 p0 p a its n N T)
  have D : On (XX w b1 b2 tb [hkUpto 3 0 a (N + 294) its n 20 (T + 5)]) (stW0 w L0 p0 p a its n N T) h :=
    on_mk hN G (List.forall_mem_cons.mpr ⟨f1, fun _ h => nomatch h⟩) (by simp) (List.forall_mem_cons.mpr ⟨ha, fun _ h => nomatch h⟩)
  refine code_of_means (X := XX w b1 b2 tb [hkUpto 3 0 a (N + 294) its n 20 (T + 5)]) (N := N) (seg (hooksX (X := XX w b1 b2 tb [hkUpto 3 0 a (N + 294) its n 20 (T + 5)]) ⟨ok_upto (by rw [sizeL]; omega), trivial⟩) hrun good D fun h1 E1 D1 => ?_)
  obtain ⟨v0, v1, v2, v3, v5⟩ := pr5 hv
  have g0 := D1.at v0; have g1 := D1.at v1; have g2 := D1.at v2; have g3 := D1.at v3; have g5 := D1.at v5
  have E1' : Ext [] h h1 := E1
  refine means_cut hstop ?_
  rw [hctx]
  show wpCode _ _ _ st1.p ⟨h1, ⟨st1.gl⟩, d, _, ox⟩
  rw [hgl]
  refine comp_start (by kernel_rfl) (by kernel_rfl) rfl (iter_list (l := N + 295) (i := 0) g2) fun p' => ?_
  refine word_loop w b1 b2 L0 (N + 292) (N + 296) (N + 297) (N + 298) (N + 295) p0 _ (its.take 20) 0 d ox _ (by simp) (by simp) (by simp; omega) (its.take 20) [] p' [] 0 [] 0 h1 _ rfl (fun v hv => hint v (List.mem_of_mem_take hv)) (.inl rfl) (by simp; omega) D1.glob g2 g1 g0 g3 ?_
  intro h2 T2 ws nw es ne E2 q1 q2 q3 q4
  rw [List.nil_append] at q1
  have g5' : h2.get? (N + 293) = some (listO (four T) 0) := E2.keep _ _ g5 (by kt_eqs)
  obtain ⟨N2, hN2⟩ := le_size q1 (Nat.le_trans (by decide) (Nat.le_add_left 297 N))
  have G2 : Glob (XX w b1 b2 tb []) h2 := E2.glob (X := XX w b1 b2 tb []) (by intro c hc; left; simp only [List.mem_cons, List.not_mem_nil, or_false] at hc; rcases hc with rfl | rfl | rfl <;> exact Nat.le_trans (by decide) (Nat.le_add_left _ N)) D1.glob
  have len : ws.length ≤ 63 := by rw [q2.length]; simp; omega
  have hook : AllOk (xW3 w b1 b2 N T ws nw) (xW3 w b1 b2 N T ws nw).hooks := ⟨ok_cat (by rw [sizeL]; simp [four]; omega), trivial⟩
  have D2 : On (xW3 w b1 b2 N T ws nw) (stW3 w b1 b2 L0 p0 p a its n N T ws nw es ne N2 T2) h2 := by
    unfold stW3
    rw [resume_eq hrun]
    exact on_mk hN2 G2 (List.forall_mem_cons.mpr ⟨q1, List.forall_mem_cons.mpr ⟨q4, List.forall_mem_cons.mpr ⟨g5', fun _ h => nomatch h⟩⟩⟩) (by simp)
      (List.forall_mem_cons.mpr ⟨Nat.le_trans (by decide) (Nat.le_add_left _ N), List.forall_mem_cons.mpr ⟨Nat.le_trans (by decide) (Nat.le_add_left _ N), List.forall_mem_cons.mpr ⟨Nat.le_trans (by decide) (Nat.le_add_left _ N), fun _ h => nomatch h⟩⟩⟩)
  have fin : ∀ (os : List Nat) (st2 : St), run (xW3 w b1 b2 N T ws nw) os (stW3 w b1 b2 L0 p0 p a its n N T ws nw es ne N2 T2) = some st2 → Good st2 → stopOf st2.t = .done (.ret (.ref (N2 + 292))) → nth st2.env 0 = some ⟨N2 + 292, listO (four T ++ ws) 0, true⟩ → st2.gl = [] → flat st2.κ = true →
      MeansK (model PySem.Challenge.pw_pe0217_01 (setW w b1 b2)) (PostR R) st1.κ st1.Γ st1.p (kOf st1.t (.ok .next)) ⟨h2, ⟨[]⟩, d, T2, ox⟩ := by
    intro os st2 hrun2 good2 hstop2 hv2 hgl2 hfl2
    have z : Means (model PySem.Challenge.pw_pe0217_01 (setW w b1 b2)) (PostR R) (stW3 w b1 b2 L0 p0 p a its n N T ws nw es ne N2 T2) h2 d ox := by
      refine seg (X := xW3 w b1 b2 N T ws nw) (hooksX hook) hrun2 good2 D2 fun h3 E3 D3 => ?_
      refine means_done hstop2 hfl2 ?_
      show R _ ⟨h3, ⟨st2.gl⟩, d, _, ox⟩
      rw [hgl2]
      refine K h3 _ (N2 + 292) ws ?_ ?_ (D3.at hv2) q2
      · have e3 : ownOf (stW3 w b1 b2 L0 p0 p a its n N T ws nw es ne N2 T2).env = [N + 297, N + 298, N + 293] := by unfold stW3; rw [resume_eq hrun]; rfl
        rw [e3] at E3
        refine ((E1'.trans E2).trans E3).mono fun c hc => .inr ?_
        cases hg : h.get? c with
        | none => rfl
        | some o =>
          have lt : c < N + 292 := by have := Heap.lt_size hg; rw [hN] at this; exact this
          simp only [List.mem_append, List.mem_cons, List.not_mem_nil, or_false, false_or] at hc
          exfalso
          rcases hc with (rfl | rfl | rfl) | rfl | rfl | rfl <;> exact absurd lt (Nat.not_lt.mpr (Nat.add_le_add_left (by decide) N))
      · have := E1.size; have := E2.size; rw [← hN2]; omega
    unfold stW3 at z
    rw [resume_eq hrun] at z
    exact means_resume z
  rcases q3 with rfl | ⟨hs, tk, v, rfl⟩
  · obtain ⟨st2, hrun2, good2, hstop2, hctx2, hv2, hgl2, hm2, hi2, hfl2⟩ := seen_ok (word_seg3 w b1 b2 L0 p0 p a its n N T ws nw ne N2 T2)
    exact fin _ st2 hrun2 good2 hstop2 hv2 hgl2 hfl2
  · obtain ⟨st2, hrun2, good2, hstop2, hctx2, hv2, hgl2, hm2, hi2, hfl2⟩ := seen_ok (word_seg4 w b1 b2 L0 p0 p a its n N T ws nw hs tk v ne N2 T2)
    exact fin _ st2 hrun2 good2 hstop2 hv2 hgl2 hfl2
end
end Mine

namespace Mine
noncomputable section
open PySem PySem.W PySem.W.X
noncomputable abbrev M4 := Int × Int × Int × Int
noncomputable def mv : Nat → M4 → M4
  | 1, (p, q, r, s) => (p, q + 2 * p, r, s + 2 * r)
  | 3, (p, q, r, s) => (p, q - 2 * p, r, s - 2 * r)
  | 2, (p, q, r, s) => (p + 2 * q, q, r + 2 * s, s)
  | _, (p, q, r, s) => (p - 2 * q, q, r - 2 * s, s)
noncomputable def spot (ws : List Nat) : M4 := ws.foldl (fun m x => mv x m) (1, 0, 0, 1)
noncomputable def spotsTo (ws : List Nat) (i : Nat) : List M4 := (List.range (i + 1)).map fun j => spot (ws.take j)
theorem spotsTo_succ (ws : List Nat) (i : Nat) : spotsTo ws (i + 1) = spotsTo ws i ++ [spot (ws.take (i + 1))] := by
  unfold spotsTo
  rw [List.range_succ, List.map_append]; rfl
theorem spotsTo_last (ws : List Nat) (i : Nat) : ∃ l, spotsTo ws i = l ++ [spot (ws.take i)] := by
  unfold spotsTo
  rw [List.range_succ, List.map_append]; exact ⟨_, rfl⟩
theorem spot_succ {ws : List Nat} {i x : Nat} (h : ws[i]? = some x) : spot (ws.take (i + 1)) = mv x (spot (ws.take i)) := by
  unfold spot
  rw [List.take_add_one, h, Option.toList_some, List.foldl_append]; rfl
theorem spotsTo_len (ws : List Nat) (i : Nat) : (spotsTo ws i).length = i + 1 := by simp [spotsTo]
theorem spotsTo_get (ws : List Nat) {i j : Nat} (h : j ≤ i) : (spotsTo ws i)[j]? = some (spot (ws.take j)) := by
  unfold spotsTo
  rw [List.getElem?_map, List.getElem?_range (by omega)]; rfl

noncomputable def SignV (v : Value) (r : Nat) : Prop := ∃ t, v = .str (lt4 r) t ∧ (r = 0 ∨ r = 1 ∨ r = 2 ∨ r = 3)
noncomputable def lets (xs : List Int) : List Nat := xs.map fun x => (x.fmod 4).toNat
theorem Signs.all2 : ∀ {l l' : List Value}, Signs l l' → ∃ rs, All2 SignV l' rs
  | _, _, .nil => ⟨[], trivial⟩
  | _, _, .cons x t k r hr h4 h => by
    obtain ⟨rs, q⟩ := h.all2
    exact ⟨r :: rs, ⟨k, rfl, h4⟩, q⟩
theorem four_all2 (T : Nat) : All2 SignV (four T) [1, 0, 2, 2] := ⟨⟨_, rfl, by simp⟩, ⟨_, rfl, by simp⟩, ⟨_, rfl, by simp⟩, ⟨_, rfl, by simp⟩, trivial⟩
noncomputable def SpotV (h : Heap) (v : Value) (m : M4) : Prop := ∃ a t1 t2 t3 t4, v = .ref a ∧ 292 ≤ a ∧ h.get? a = some (tupO [.int m.1 t1, .int m.2.1 t2, .int m.2.2.1 t3, .int m.2.2.2 t4])
end
end Mine

namespace Mine
noncomputable section
open PySem PySem.W PySem.W.X PySem.Calls
noncomputable def WA {α : Type} (M : Model) (Γ : Ctx) (t : Sem α) (Q : α → Shared → Prop) (E : Value → Shared → Prop) (s : Shared) : Prop := ∀ p, Sem.wp M Γ t (fun a _ s' => Q a s') (fun e _ s' => E e s') p s
section
variable {α β : Type} {M : Model} {Γ : Ctx} {E : Value → Shared → Prop} {s : Shared}
theorem WA.mono {t : Sem α} {Q Q' : α → Shared → Prop} {E' : Value → Shared → Prop} (h : WA M Γ t Q E s) (hq : ∀ a s', Q a s' → Q' a s') (he : ∀ e s', E e s' → E' e s') : WA M Γ t Q' E' s := fun p => Sem.wp_mono M Γ t (fun a _ s' => hq a s') (fun e _ s' => he e s') p s (h p)
theorem WA.bind {m : Sem α} {f : α → Sem β} {Q : β → Shared → Prop} (h : WA M Γ m (fun a s' => WA M Γ (f a) Q E s') E s) : WA M Γ (m >>= f) Q E s := fun p => by
  rw [Sem.wp_bind']
  exact Sem.wp_mono M Γ m (fun a p' s' h' => h' p') (fun _ _ _ h' => h') p s (h p)
theorem WA.unbind {m : Sem α} {f : α → Sem β} {Q : β → Shared → Prop} {p : Pos} (h : Sem.wp M Γ (m >>= f) (fun a _ s' => Q a s') (fun e _ s' => E e s') p s) : Sem.wp M Γ m (fun a p' s' => Sem.wp M Γ (f a) (fun a _ s' => Q a s') (fun e _ s' => E e s') p' s') (fun e _ s' => E e s') p s := by
  rw [Sem.wp_bind'] at h; exact h
theorem WA.any {t : Sem α} {Q : α → Shared → Prop} (h : wpAny M (aroundOf Γ) t Q E s) : WA M Γ t Q E s := fun p => h Γ p (in_around Γ)
theorem WA.pure {a : α} {Q : α → Shared → Prop} (h : Q a s) : WA M Γ (Pure.pure a) Q E s := fun p => by rw [Sem.wp_pure']; exact h
theorem WA.onRaise {m : Sem α} {k : Value → Sem Unit} {Q : α → Shared → Prop} (h : WA M Γ m Q (fun _ _ => False) s) : WA M Γ (m.onRaise k) Q E s := fun p => by
  rw [Sem.wp_onRaise]
  exact Sem.wp_mono M Γ m (fun _ _ _ h' => h') (fun e p' s' h' => h'.elim) p s (h p)
end
theorem code_of_body {prog : Program} {w : World} {body : List Stmt} {env : Env} {below : List (Code × Pos)} {R : Result → Shared → Prop} {p : Pos} {s : Shared}
    (h : WA (model prog w) (ctxIn (.func body env) below) (execs body env) (fun f s' => R (.ok (.ret (match f with | .ret v => v | _ => .none))) s') (fun _ _ => False) s) : wpCode (model prog w) (ctxIn (.func body env) below) R p s := by
  refine code_of_wp ?_
  show Sem.wp _ _ (do point; match ← (execs body env).onRaise (leaving env) with | .ret v => ret v | _ => ret .none) _ _ _ _
  have z : WA (model prog w) (ctxIn (.func body env) below) (do point; match ← (execs body env).onRaise (leaving env) with | .ret v => ret v | _ => ret .none) (fun fin s' => ∀ p', Sem.finPost (model prog w) (ctxIn (.func body env) below) R fin p' s') (fun e s' => R (.error e) s') s := by
    refine WA.bind (WA.any (wpAny_point (WA.bind (WA.onRaise (h.mono (fun f s' q => ?_) fun _ _ q => q)))))
    cases f <;> exact WA.pure fun _ => q
  exact Sem.wp_mono _ _ _ (fun fin p' s' q => q p') (fun _ _ _ q => q) _ _ (z p)
theorem WA.execs_cons {M : Model} {Γ : Ctx} {st : Stmt} {rest : List Stmt} {env : Env} {Q : Flow → Shared → Prop} {E : Value → Shared → Prop} {s : Shared}
    (h : WA M Γ (execs [st] env) (fun f s' => match f with | .next => WA M Γ (execs rest env) Q E s' | f => Q f s') E s) : WA M Γ (execs (st :: rest) env) Q E s := fun p => by
  have h' := h p
  rw [PySem.execs_cons] at h' ⊢
  rw [Sem.wp_bind'] at h' ⊢
  refine Sem.wp_mono M Γ _ (fun f p' s' q => ?_) (fun _ _ _ q => q) _ _ h'
  cases f with
  | next =>
    have q' : Sem.wp M Γ (Pure.pure Flow.next) _ _ p' s' := q
    rw [Sem.wp_pure'] at q'
    exact q' p'
  | ret v =>
    have q' : Sem.wp M Γ (Pure.pure (Flow.ret v)) _ _ p' s' := q
    rw [Sem.wp_pure'] at q'
    show Sem.wp M Γ (Pure.pure (Flow.ret v)) _ _ p' s'
    rw [Sem.wp_pure']
    exact q'
  | brk =>
    have q' : Sem.wp M Γ (Pure.pure Flow.brk) _ _ p' s' := q
    rw [Sem.wp_pure'] at q'
    show Sem.wp M Γ (Pure.pure Flow.brk) _ _ p' s'
    rw [Sem.wp_pure']
    exact q'
  | cont =>
    have q' : Sem.wp M Γ (Pure.pure Flow.cont) _ _ p' s' := q
    rw [Sem.wp_pure'] at q'
    show Sem.wp M Γ (Pure.pure Flow.cont) _ _ p' s'
    rw [Sem.wp_pure']
    exact q'

noncomputable def superTree (env : Env) (first : Str) : Sem Value := do
  let g ← loadName env "super"
  let cls ← loadName env "__class__"
  let self ← loadName env first
  let aType ← isType cls
  if g == .type "super" && aType then call g [cls, self] else holding [cls, self] (call g [])
theorem no_comps {M : Model} {body : List Stmt} {env : Env} {below : List (Code × Pos)} {Q : List Env → Pos → Shared → Prop} {E : Value → Pos → Shared → Prop} {p : Pos} {s : Shared} (h : Q [] p s) : Sem.wp M (ctxIn (.func body env) below) comprehensionsAround Q E p s := by
  unfold comprehensionsAround callersCodes
  rw [Sem.wp_bind', Sem.wp_bind']
  show Sem.wp M _ (Sem.stack Sem.pure) _ _ _ _
  rw [Sem.wp_stack, Sem.wp_pure]
  dsimp only
  split
  · rename_i hc
    exact absurd (show (some env.frame != some env.frame) = true from hc) (by simp)
  · first
      | (rw [Sem.wp_pure', Sem.wp_pure']; exact h)
      | (rw [Sem.wp_bind', Sem.wp_pure', Sem.wp_pure', Sem.wp_pure']; exact h)
theorem bind_any {α β : Type} {M : Model} {Γ : Ctx} {s : Shared} {m : Sem α} {f : α → Sem β} {Q : β → Pos → Shared → Prop} {E : Value → Pos → Shared → Prop} (h : wpAny M (aroundOf Γ) m (fun a s' => ∀ p, Sem.wp M Γ (f a) Q E p s') (fun _ _ => False) s) : ∀ p, Sem.wp M Γ (m >>= f) Q E p s := fun p => by
  rw [Sem.wp_bind']
  exact Sem.wp_mono M Γ m (fun a p' s' h' => h' p') (fun _ _ _ h' => h'.elim) p s (h Γ p (in_around Γ))
theorem super_raw {prog : Program} {w : World} {body : List Stmt} {env : Env} {below : List (Code × Pos)} {s : Shared} {p0 p1 : Pos} {attr : Str} {whole : Sem Value} {f cc : Addr} {of oc : Obj} {fd : FuncData} {ar : Arg} {vs : Array Value} {file : Str} {tf : Tok} {Q : Value → Pos → Shared → Prop} {E : Value → Pos → Shared → Prop}
    (hks : env.kindOf "super" = some .globalImplicit) (hkc : env.kindOf "__class__" = some .free) (hat : (attr == ("__class__" : Str)) = false) (hfu : env.func = some f) (hf : s.heap.get? f = some of) (hfd : of.data = .func fd)
    (hp : (fd.params.posonlyargs ++ fd.params.args).head? = some ar) (hco : env.code = .ref cc) (hcc : s.heap.get? cc = some oc) (hoc : oc.data = .fields vs) (hvs : vs[2]? = some (.str file tf))
    (hfile : ((prog.main.file : Str) == file) = true) (htop : (prog.main.scope.names.lookup ("super" : Str)).isSome = false)
    (h : ∀ p, Sem.wp (model prog w) (ctxIn (.func body env) below) (superTree env ar.arg) Q E p s) : ∀ p, Sem.wp (model prog w) (ctxIn (.func body env) below) (attributeBase (.Call (.Name "super" p0) [] [] p1) attr env whole) Q E p s := by
  unfold attributeBase
  simp only [bne_self_eq_false, hat, hks, hkc, hfu, hco, Bool.or_self, Bool.false_eq_true, if_false, Option.isSome_some, if_true, pure_bind]
  unfold funcData
  refine bind_any (wpAny_bind (wpAny_load hf ?_))
  rw [hfd]
  refine wpAny_pure ?_
  simp only [hp]
  refine bind_any (wpAny_askSetting ?_)
  refine bind_any (wpAny_field hcc hoc hvs ?_)
  have hfile' : ((model prog w).prog.main.file == file) = true := hfile
  have htop' : (List.lookup (Str.ofString "super") (model prog w).prog.main.scope.names).isSome = false := htop
  simp only [hfile', htop', if_true, Bool.false_eq_true, if_false]
  refine bind_any (wpAny_rule ?_)
  refine bind_any (wpAny_standAt ?_)
  intro p
  have hh := h p
  unfold superTree at hh
  rw [Sem.wp_bind'] at hh ⊢
  refine Sem.wp_mono _ _ _ (fun g p₁ s₁ q₁ => ?_) (fun _ _ _ q => q) _ _ hh
  rw [Sem.wp_bind'] at q₁ ⊢
  refine Sem.wp_mono _ _ _ (fun cls p₂ s₂ q₂ => ?_) (fun _ _ _ q => q) _ _ q₁
  rw [Sem.wp_bind']
  exact no_comps q₂
noncomputable def superCall (env : Env) (first : Str) (o : PySem.Expr) (name : Str) (apos pos : Pos) : Sem Value := do
  let ov ← superTree env first
  standAt apos.atName
  methodCall o name apos pos env ov 0 [] []
theorem WA.superCall {prog : Program} {w : World} {body : List Stmt} {env : Env} {below : List (Code × Pos)} {s : Shared} {p0 p1 : Pos} {attr : Str} {apos pos : Pos} {f cc : Addr} {of oc : Obj} {fd : FuncData} {ar : Arg} {vs : Array Value} {file : Str} {tf : Tok} {Q : Value → Shared → Prop} {E : Value → Shared → Prop}
    (hks : env.kindOf "super" = some .globalImplicit) (hkc : env.kindOf "__class__" = some .free) (hat : (attr == ("__class__" : Str)) = false) (hfu : env.func = some f) (hf : s.heap.get? f = some of) (hfd : of.data = .func fd)
    (hp : (fd.params.posonlyargs ++ fd.params.args).head? = some ar) (hco : env.code = .ref cc) (hcc : s.heap.get? cc = some oc) (hoc : oc.data = .fields vs) (hvs : vs[2]? = some (.str file tf))
    (hfile : ((prog.main.file : Str) == file) = true) (htop : (prog.main.scope.names.lookup ("super" : Str)).isSome = false)
    (h : WA (model prog w) (ctxIn (.func body env) below) (Mine.superCall env ar.arg (.Call (.Name "super" p0) [] [] p1) attr apos pos) Q E s) :
    WA (model prog w) (ctxIn (.func body env) below) (eval (.Call (.Attribute (.Call (.Name "super" p0) [] [] p1) attr apos) [] [] pos) env) Q E s := by
  have he : eval (.Call (.Attribute (.Call (.Name "super" p0) [] [] p1) attr apos) [] [] pos) env = (do
    let ov ← attributeBase (.Call (.Name "super" p0) [] [] p1) attr env (eval (.Call (.Name "super" p0) [] [] p1) env)
    standAt apos.atName
    methodCall (.Call (.Name "super" p0) [] [] p1) attr apos pos env ov 0 [] []) := rfl
  rw [he]
  intro p
  rw [Sem.wp_bind']
  refine super_raw hks hkc hat hfu hf hfd hp hco hcc hoc hvs hfile htop (fun p => ?_) p
  have := h p
  unfold Mine.superCall at this
  rw [Sem.wp_bind'] at this
  exact this
theorem WA.flow {prog : Program} {w : World} {Γ : Ctx} {t : Sem Flow} {tT : Sem Fin} {Q : Flow → Shared → Prop} {E : Value → Shared → Prop} {env : List Ent} {gl : List GenState} {N T : Nat} {h : Heap} {d : Drawn} {ox : OsState} (ht : (t >>= fun f => Pure.pure (Fin.done f)) = tT)
    (H : ∀ p, Means (model prog w) (PostR fun r s' => match r with | .ok f => Q f s' | .error e => E e s') ⟨Γ, p, tT, [], env, gl, N, 0, T, 0, [], [], []⟩ h d ox) : WA (model prog w) Γ t Q E ⟨h, ⟨gl⟩, d, T, ox⟩ := fun p => by
  obtain ⟨e, s', r, q⟩ := H p
  cases e with
  | susp => exact q.elim
  | ret r' =>
    have z := (Sem.wp_iff_runs (M := model prog w) (Γ := Γ) tT (fun r s' => match r with | .ok f => Q f s' | .error e => E e s') p ⟨h, ⟨gl⟩, d, T, ox⟩).mpr ⟨r', s', r, q⟩
    rw [← ht, Sem.wp_bind'] at z
    refine Sem.wp_mono _ _ _ (fun f p' s' q => ?_) (fun _ _ _ q => q) _ _ z
    rw [Sem.wp_pure'] at q
    exact q
theorem WA.val {prog : Program} {w : World} {Γ : Ctx} {t : Sem Value} {tT : Sem Fin} {Q : Value → Shared → Prop} {E : Value → Shared → Prop} {env : List Ent} {gl : List GenState} {N T : Nat} {h : Heap} {d : Drawn} {ox : OsState} (ht : (t >>= fun v => Pure.pure (Fin.done (.ret v))) = tT)
    (H : ∀ p, Means (model prog w) (PostR fun r s' => match r with | .ok (.ret v) => Q v s' | .ok _ => False | .error e => E e s') ⟨Γ, p, tT, [], env, gl, N, 0, T, 0, [], [], []⟩ h d ox) : WA (model prog w) Γ t Q E ⟨h, ⟨gl⟩, d, T, ox⟩ := fun p => by
  obtain ⟨e, s', r, q⟩ := H p
  cases e with
  | susp => exact q.elim
  | ret r' =>
    have z := (Sem.wp_iff_runs (M := model prog w) (Γ := Γ) tT (fun r s' => match r with | .ok (.ret v) => Q v s' | .ok _ => False | .error e => E e s') p ⟨h, ⟨gl⟩, d, T, ox⟩).mpr ⟨r', s', r, q⟩
    rw [← ht, Sem.wp_bind'] at z
    refine Sem.wp_mono _ _ _ (fun f p' s' q => ?_) (fun _ _ _ q => q) _ _ z
    rw [Sem.wp_pure'] at q
    exact q
end
end Mine

namespace Mine
noncomputable section
open PySem PySem.W PySem.W.X PySem.Calls
noncomputable abbrev lnT := PySem.W.Fast.tw8468629109055619292
noncomputable abbrev isTypeT := PySem.W.Fast.tw10380811246957099773
noncomputable abbrev callT : Value → List Value → Sem Value := fun f l => PySem.W.Fast.tw11478286150595567475 f l
noncomputable abbrev mcT := PySem.W.Fast.tw13401596951702201221
noncomputable abbrev execsT := PySem.W.Fast.tw12563942051412417395
noncomputable def superTreeT (env : Env) (first : Str) : Sem Value :=
  PySem.W.R.bindR (lnT env ⟨⟨[115, 117, 112, 101, 114]⟩⟩) fun g => PySem.W.R.bindR (lnT env ⟨⟨[95, 95, 99, 108, 97, 115, 115, 95, 95]⟩⟩) fun cls => PySem.W.R.bindR (lnT env first) fun self => PySem.W.R.bindR (isTypeT cls) fun aType =>
    if g == .type "super" && aType then callT g [cls, self] else holding [cls, self] (callT g [])
noncomputable def superCallT (env : Env) (first : Str) (o : PySem.Expr) (name : Str) (apos pos : Pos) : Sem Fin :=
  PySem.W.R.bindR (PySem.W.R.bindR (superTreeT env first) fun ov => PySem.W.R.bindR (standAt apos.atName) fun _ => mcT o name apos pos env ov 0 [] []) fun v => .pure (.done (.ret v))
theorem superCallT_eq (env : Env) (first : Str) (o : PySem.Expr) (name : Str) (apos pos : Pos) : (superCall env first o name apos pos >>= fun v => Pure.pure (Fin.done (.ret v))) = superCallT env first o name apos pos := by
  have e1 : Str.ofString "super" = ⟨⟨[115, 117, 112, 101, 114]⟩⟩ := by decide +kernel
  have e2 : Str.ofString "__class__" = ⟨⟨[95, 95, 99, 108, 97, 115, 115, 95, 95]⟩⟩ := by decide +kernel
  unfold superCallT superTreeT lnT isTypeT callT mcT
  rw [← PySem.W.R.bindR_eq, ← PySem.W.Fast.te8468629109055619292, ← PySem.W.Fast.te10380811246957099773, ← PySem.W.Fast.te11478286150595567475, ← PySem.W.Fast.te13401596951702201221, ← e1, ← e2]
  rfl
noncomputable def execsF (body : List Stmt) (env : Env) : Sem Fin := PySem.W.R.bindR (execsT body env) fun f => .pure (.done f)
theorem execsF_eq (body : List Stmt) (env : Env) : (execs body env >>= fun f => Pure.pure (Fin.done f)) = execsF body env := by
  unfold execsF execsT
  rw [← PySem.W.R.bindR_eq, ← PySem.W.Fast.te12563942051412417395]
  rfl
end
end Mine

namespace Mine
noncomputable section
open PySem PySem.W PySem.W.X
noncomputable def pileO (dd : Addr) (its : List Value) (n : Nat) : Obj := ⟨.ref 253, some dd, .seq ⟨its⟩ n, #[]⟩
noncomputable def belowRun (w : World) (L0 Lr : Addr) (p0 p1 : Pos) : List (Code × Pos) := (fcode w 269 Lr, p1) :: belowLaw w L0 p0
noncomputable def rnLoop (w : World) (it L : Addr) : Code := forCode w 269 2 it L
noncomputable def belowTurn (w : World) (L0 Lr it : Addr) (pt p0 p1 : Pos) : List (Code × Pos) := (rnLoop w it Lr, pt) :: belowRun w L0 Lr p0 p1
noncomputable def belowPop (w : World) (L0 Lr Lp it : Addr) (pt p0 p1 p2 : Pos) : List (Code × Pos) := (fcode w 213 Lp, p2) :: belowTurn w L0 Lr it pt p0 p1
noncomputable def obOf (w : World) (a : Nat) : Obj := match (kt w).get a with
  | some o => o
  | none => default
noncomputable def vsOf (w : World) (a : Nat) : Array Value := match (obOf w a).data with
  | .fields vs => vs
  | _ => #[]
noncomputable def fileOf (w : World) (a : Nat) : Str := match ((vsOf w a)[2]? : Option Value) with
  | some (Value.str f _) => f
  | _ => nm ""
noncomputable def fileTok (w : World) (a : Nat) : Tok := match ((vsOf w a)[2]? : Option Value) with
  | some (Value.str _ t) => t
  | _ => 0
noncomputable def ln (l c l' c' : Nat) : Pos := ⟨l, c, l', c'⟩
noncomputable def supE (p0 p1 : Pos) : PySem.Expr := .Call (.Name (nm "super") p0) [] [] p1
theorem WA.ret {M : Model} {Γ : Ctx} {e : PySem.Expr} {pos : Pos} {env : Env} {Q : Flow → Shared → Prop} {E : Value → Shared → Prop} {s : Shared} (h : WA M Γ (eval e env) (fun v s' => Q (.ret v) s') E s) : WA M Γ (execs [.Return (some e) pos] env) Q E s := fun p => by
  rw [PySem.execs_cons, exec_Return_some]
  simp only [Sem.wp_bind', Sem.wp_cmd_standAt, Sem.wp_pure']
  exact h _
theorem WA.expr {M : Model} {Γ : Ctx} {e : PySem.Expr} {pos : Pos} {env : Env} {Q : Flow → Shared → Prop} {E : Value → Shared → Prop} {s : Shared} (hi : interactive env = false) (hs : swapsWith e none pos.line env = Pure.pure false) (h : WA M Γ (eval e env) (fun v s' => WA M Γ (dropValue e pos v) (fun f s'' => match f with | .next => Q .next s'' | f => Q f s'') E s') E s) : WA M Γ (execs [.Expr e pos] env) Q E s := fun p => by
  rw [PySem.execs_cons, exec_Expr env e pos hi hs]
  simp only [Sem.wp_bind', Sem.wp_cmd_standAt]
  refine Sem.wp_mono _ _ _ (fun v p' s' q => Sem.wp_mono _ _ _ (fun f p'' s'' q => ?_) (fun _ _ _ q => q) _ _ (q _)) (fun _ _ _ q => q) _ _ (h _)
  cases f with
  | next => exact q
  | ret v => exact q
  | brk => exact q
  | cont => exact q
theorem WA.sup (w : World) (b1 b2 : Bool) (a cc : Nat) (L : Addr) {below : List (Code × Pos)} {s : Shared} {p0 p1 : Pos} {attr : Str} {apos pos : Pos} {ar : Arg} {Q : Value → Shared → Prop} {E : Value → Shared → Prop} (G : Glob (XX w b1 b2 tb []) s.heap)
    (hks : (cenv w a L).kindOf "super" = some .globalImplicit) (hkc : (cenv w a L).kindOf "__class__" = some .free) (hat : (attr == ("__class__" : Str)) = false) (hfu : (cenv w a L).func = some a) (la : low (XX w b1 b2 tb []) a = true) (lc : low (XX w b1 b2 tb []) cc = true)
    (ka : (kt w).get a = some (obOf w a)) (kd : (obOf w a).data = .func (fdOf w a)) (hp : ((fdOf w a).params.posonlyargs ++ (fdOf w a).params.args).head? = some ar) (hco : (cenv w a L).code = .ref cc) (kc : (kt w).get cc = some (obOf w cc)) (hoc : (obOf w cc).data = .fields (vsOf w cc))
    (hvs : (vsOf w cc)[2]? = some (.str (fileOf w cc) (fileTok w cc))) (hfile : ((PySem.Challenge.pw_pe0217_01.main.file : Str) == fileOf w cc) = true) (htop : (PySem.Challenge.pw_pe0217_01.main.scope.names.lookup ("super" : Str)).isSome = false)
    (h : WA (model PySem.Challenge.pw_pe0217_01 (setW w b1 b2)) (ctxIn (fcode w a L) below) (Mine.superCall (cenv w a L) ar.arg (supE p0 p1) attr apos pos) Q E s) :
    WA (model PySem.Challenge.pw_pe0217_01 (setW w b1 b2)) (ctxIn (fcode w a L) below) (eval (.Call (.Attribute (supE p0 p1) attr apos) [] [] pos) (cenv w a L)) Q E s :=
  WA.superCall hks hkc hat hfu (G a _ la ka) kd hp hco (G cc _ lc kc) hoc hvs hfile htop h
end
end Mine

namespace Mine
noncomputable section
open PySem PySem.W PySem.W.X
noncomputable def stC0 (w : World) (below : List (Code × Pos)) (pl dd : Nat) (p : Pos) (its : List Value) (n N T : Nat) (gl : List GenState) : St :=
  begin (ctxIn (.call (.ref 250) ⟨[.ref (pl+292)], []⟩) below) p [⟨pl+292, pileO dd its n, false⟩] gl N T
noncomputable def cntT (w : World) (L : Addr) : Sem Fin := superCallT (cenv w 250 L) (nm "self") (supE (ln 113 15 113 20) (ln 113 15 113 22)) (nm "__len__") (ln 113 15 113 30) (ln 113 15 113 32)
noncomputable def stC1 (w : World) (below : List (Code × Pos)) (pl dd L : Nat) (p : Pos) (its : List Value) (n : Nat) (es : List DictEntry) (ne N T : Nat) (gl : List GenState) : St :=
  ⟨ctxIn (fcode w 250 (L+292)) below, p, cntT w (L+292), [], [⟨L+292, frameO es ne, true⟩, ⟨pl+292, pileO dd its n, false⟩], gl, N, 0, T, 0, [], [], []⟩
structure CountOk (w : World) (b1 b2 : Bool) (below : List (Code × Pos)) : Prop where
  r0 : ∀ (pl dd : Nat) (p : Pos) (its : List Value) (n N T : Nat) (gl : List GenState), let o := run (XX w b1 b2 tb []) [0, 0, 1, 1, 0] (stC0 w below pl dd p its n N T gl)
    seen (fun env => shape (nth env 0)) o = some (toldA o, toldC o, toldO o, .again (fcode w 250 (N + 292)), ctxIn (fcode w 250 (N + 292)) below, some (N + 292, some (.type "frame", none, #[], [(some (nm "self"), .ref (pl+292))])), gl, toldM o, toldI o, true)
  r1 : ∀ (pl dd L : Nat) (p : Pos) (its : List Value) (n : Nat) (h1 : Int) (k1 : Tok) (ne N T : Nat) (gl : List GenState), let o := run (XX w b1 b2 tb []) [0, 0, 0, 1, 0, 0, 0, 0, 0, 0, 1, 1, 0, 1, 0, 0, 3, 3, 0, 1, 1, 1, 1, 1, 1, 1, 1, 0, 1, 0, 1, 1, 1, 0, 0, 0, 0, 3, 0, 1, 0, 1, 0, 4] (stC1 w below pl dd L p its n [⟨h1, .str (nm "self") k1, .ref (pl+292)⟩] ne N T gl)
    seen (fun _ => ()) o = some (toldA o, toldC o, toldO o, .done (.ret (.int (⟨its⟩ : Array Value).size (T + 1))), ctxIn (fcode w 250 (L + 292)) below, (), gl, toldM o, toldI o, true)
theorem count_pop (w : World) (b1 b2 : Bool) (L0 Lr Lp it : Nat) (pt p0 p1 p2 : Pos) : CountOk w b1 b2 (belowPop w (L0+292) (Lr+292) (Lp+292) (it+292) pt p0 p1 p2) :=
  ⟨by intros; cases b1 <;> kernel_rfl, by intros; cases b1 <;> kernel_rfl⟩
theorem count_law (w : World) (b1 b2 : Bool) (L0 : Nat) (p0 : Pos) : CountOk w b1 b2 (belowLaw w (L0+292) p0) :=
  ⟨by intros; cases b1 <;> kernel_rfl, by intros; cases b1 <;> kernel_rfl⟩
theorem count_call (w : World) (b1 b2 : Bool) (below : List (Code × Pos)) (C : CountOk w b1 b2 below) (pl dd : Nat) (p : Pos) (its : List Value) (n T : Nat) {gl : List GenState} (d : Drawn) (ox : OsState) (R : Result → Shared → Prop) (h : Heap)
    (G : Glob (XX w b1 b2 tb []) h) (f1 : h.get? (pl+292) = some (pileO dd its n))
    (K : ∀ h' T' t, Ext [] h h' → R (.ok (.ret (.int its.length t))) ⟨h', ⟨gl⟩, d, T', ox⟩) :
    wpCode (model PySem.Challenge.pw_pe0217_01 (setW w b1 b2)) (ctxIn (.call (.ref 250) ⟨[.ref (pl+292)], []⟩) below) R p ⟨h, ⟨gl⟩, d, T, ox⟩ := by
  obtain ⟨N, hN⟩ := le_size f1 (Nat.le_add_left _ _)
  refine code_loop (X0 := XX w b1 b2 tb []) (X := XX w b1 b2 tb []) (N := N) (own := []) (C.r0 pl dd p its n N T gl) rfl rfl rfl trivial hN G ⟨f1, trivial⟩ ⟨trivial, trivial⟩ ⟨Nat.le_add_left _ _, trivial⟩ (by kernel_rfl) fun h1 T1 p1 st1 hV D1 E1' hnQ => ?_
  obtain ⟨es, ne, own, e3, hkv⟩ := shape_ok hV
  obtain ⟨z1, k1, r1, rfl, hk1⟩ := kvs_cons hkv
  cases kvs_nil hk1
  have g3 := D1.at e3
  have f1' := E1'.keep _ _ f1 (by kt_eqs)
  obtain ⟨N1, hN1⟩ := le_size f1' (Nat.le_add_left _ _)
  refine hnQ ?_
  refine code_of_body ?_
  have hb : bodyOf w 250 = [.Return (some (.Call (.Attribute (supE (ln 113 15 113 20) (ln 113 15 113 22)) (nm "__len__") (ln 113 15 113 30)) [] [] (ln 113 15 113 32))) (ln 113 8 113 32)] := by kernel_rfl
  show WA _ (ctxIn (fcode w 250 (N + 292)) below) (execs (bodyOf w 250) (cenv w 250 (N + 292))) _ _ _
  rw [hb]
  refine WA.ret (WA.sup w b1 b2 250 249 (N + 292) (ar := ⟨nm "self", none, ln 112 19 112 23⟩) D1.glob (by kernel_rfl) (by kernel_rfl) (by kernel_rfl) rfl rfl rfl (by kernel_rfl) (by kernel_rfl) (by kernel_rfl) (by kernel_rfl) (by kernel_rfl) (by kernel_rfl) (by kernel_rfl) (by kernel_rfl) (by kernel_rfl) ?_)
  refine WA.val (superCallT_eq _ _ _ _ _ _) (N := N1) (gl := gl) (env := [⟨N+292, frameO [⟨z1, .str (nm "self") k1, .ref (pl+292)⟩] ne, true⟩, ⟨pl+292, pileO dd its n, false⟩]) fun p2 => ?_
  have lta : pl < N := by have := Heap.lt_size f1; rw [hN] at this; exact Nat.lt_of_add_lt_add_right this
  refine means_of_done (X := XX w b1 b2 tb []) (C.r1 pl dd N p2 its n z1 k1 ne N1 T1 gl) trivial (on_dif hN1 D1.glob ⟨g3, f1', trivial⟩ ⟨⟨.inr (show (N + 292 : Nat) ≠ pl + 292 by omega), trivial⟩, trivial, trivial⟩ ⟨Nat.le_add_left _ _, Nat.le_add_left _ _, trivial⟩) fun h2 T2 st2 _ D2 E2 => ?_
  refine K h2 T2 _ ((E1'.trans (show Ext [N + 292] h1 h2 from E2)).new ?_)
  intro c hc
  simp only [List.mem_append, List.mem_cons, List.not_mem_nil, or_false, false_or] at hc
  rw [hN]; omega
end
end Mine

namespace Mine
noncomputable section
open PySem PySem.W PySem.W.X PySem.Calls PyProof.Rows
theorem pop_last (c : Value) (dd : Option Addr) (l : Addr) (items : Array Value) (n : Nat) (y : Value) (hy : items[items.size - 1]? = some y) (hs1 : items.size ≤ sizeLine) :
    Meets (Builtin.«list.pop» ⟨[.ref l], []⟩)
      (fun _ R s => s.heap.get? l = some { cls := c, dict := dd, data := .seq items n, slots := #[] } ∧ R (.ok (.ret y)) { s with heap := s.heap.update l (Obj.mapSeq fun xs => xs.eraseIdxIfInBounds (items.size - 1)) }) :=
  .of_wp fun prog w A R s h => by
    obtain ⟨hp, g, d, tk, os⟩ := s; obtain ⟨hl, h⟩ := h
    have hpos : 0 < items.size := by
      rcases Nat.eq_zero_or_pos items.size with h0 | h0
      · simp [h0] at hy
      · exact h0
    have hne : ¬ items.isEmpty = true := by simp; intro he; simp [he] at hpos
    have hk : seqIndex? (-1) items.size = some (items.size - 1) := by
      unfold seqIndex?
      simp
      omega
    wp_walk using wpAny_loadPart' hl
    simp only [hk, hy, Option.bind_some, Option.map_some]
    have hz' : (items.eraseIdxIfInBounds (items.size - 1)).size ≤ sizeLine + 1 := Nat.le_trans (PySem.MeetsSeq.size_erased items _) (Nat.le_succ_of_le hs1)
    wp_walk using (wpAny_updateSeq hl rfl (hz := hs1) (_hz' := hz')), wpAny_loadPart' hl
    exact ⟨_, rfl, h⟩
end
end Mine
namespace Mine
noncomputable section
open PySem PySem.W PySem.W.X PySem.Calls PyProof.Rows
theorem code_of_meets {prog : Program} {w : World} {id : String} {args : Args} {B : Builtin} {S : PySem.Spec} {Γ : Ctx} {R : Result → Shared → Prop} {p : Pos} {s : Shared} (hc : Γ.code = .builtin id args) (plain : plainId id = true) (entry : entryFor table id = some B) (g : Meets (B args) S)
    (h : ∀ A : Around, A.handled = Γ.handled → S A R s) : wpCode (model prog w) Γ R p s := by
  refine (codeAny_builtin (A := { handled := Γ.handled, depth := frameCount Γ.below, frames := none, guards := none, units := unitsOf Γ.below }) entry ?_) Γ p hc ⟨rfl, Nat.le_refl _, fun _ h => (nomatch h), fun _ h => (nomatch h), Nat.le_refl _⟩
  rw [Around.under_plainId plain args]
  exact g prog w _ R s (h _ rfl)
noncomputable def flatO : Option St → Bool
  | none => false
  | some s => flat s.κ
noncomputable def stPop0 (w : World) (L0 Lr pl dd : Nat) (it : Nat) (pt p0 p1 p : Pos) (its : List Value) (n N T : Nat) : St :=
  begin (ctxIn (.call (.ref 213) ⟨[.ref (pl+292)], []⟩) (belowTurn w (L0+292) (Lr+292) (it+292) pt p0 p1)) p [⟨pl+292, pileO (dd+292) its n, false⟩] [] N T
noncomputable def stPop1 (w : World) (L0 Lr pl dd L : Nat) (it : Nat) (pt p0 p1 p : Pos) (its : List Value) (n : Nat) (es : List DictEntry) (ne : Nat) (ds : List DictEntry) (nd N T : Nat) : St :=
  ⟨ctxIn (fcode w 213 (L+292)) (belowTurn w (L0+292) (Lr+292) (it+292) pt p0 p1), p, execsF [stmtAt w 213 0] (cenv w 213 (L+292)), [], [⟨L+292, frameO es ne, true⟩, ⟨pl+292, pileO (dd+292) its n, false⟩, ⟨dd+292, dictO ds nd, false⟩], [], N, 0, T, 0, [], [], []⟩
noncomputable def popT (w : World) (L : Addr) : Sem Fin := superCallT (cenv w 213 L) (nm "self") (supE (ln 98 15 98 20) (ln 98 15 98 22)) (nm "pop") (ln 98 15 98 26) (ln 98 15 98 28)
noncomputable def rPop1 (w : World) (b1 b2 : Bool) (L0 Lr pl dd L : Nat) (it : Nat) (pt p0 p1 p : Pos) (its : List Value) (n : Nat) (h1 h2 : Int) (k1 k2 : Tok) (v2 : Value) (ne nd N T : Nat) : Option St :=
  run (XX w b1 b2 tb []) [1, 2, 0, 0, 0, 2, 0, 0, 0, 2, 0, 0, 0, 0, 2, 3, 0] (stPop1 w L0 Lr pl dd L it pt p0 p1 p its n [⟨h1, .str (nm "self") k1, .ref (pl+292)⟩] ne [⟨h2, .str (nm "_initial_size") k2, v2⟩] nd N T)
theorem pop_seg0 (w : World) (b1 b2 : Bool) (L0 Lr pl dd : Nat) (it : Nat) (pt p0 p1 p : Pos) (its : List Value) (n N T : Nat) : let o := run (XX w b1 b2 tb []) [0, 0, 1, 1, 0] (stPop0 w L0 Lr pl dd it pt p0 p1 p its n N T)
    seen (fun env => shape (nth env 0)) o = some (toldA o, toldC o, toldO o, .again (fcode w 213 (N + 292)), ctxIn (fcode w 213 (N + 292)) (belowTurn w (L0+292) (Lr+292) (it+292) pt p0 p1), some (N + 292, some (.type "frame", none, #[], [(some (nm "self"), .ref (pl+292))])), [], toldM o, toldI o, true) := by
  cases b1 <;> kernel_rfl
theorem pop_seg1 (w : World) (b1 b2 : Bool) (L0 Lr pl dd L : Nat) (it : Nat) (pt p0 p1 p : Pos) (its : List Value) (n : Nat) (h1 h2 : Int) (k1 k2 : Tok) (v2 : Value) (ne nd N T : Nat) : let o := rPop1 w b1 b2 L0 Lr pl dd L it pt p0 p1 p its n h1 h2 k1 k2 v2 ne nd N T
    seen (fun env => nth env 0) o = some (toldA o, toldC o, toldO o, .call (.call (.ref 250) ⟨[.ref (pl+292)], []⟩), ctxIn (.call (.ref 250) ⟨[.ref (pl+292)], []⟩) (belowPop w (L0+292) (Lr+292) (L+292) (it+292) pt p0 p1 (posO o)), some ⟨L+292, frameO [⟨h1, .str (nm "self") k1, .ref (pl+292)⟩] ne, true⟩, [], toldM o, toldI o, flatO o) := by
  cases b1 <;> kernel_rfl
end
end Mine
namespace Mine
noncomputable section
open PySem PySem.W PySem.W.X PySem.Calls PyProof.Rows
noncomputable def stPop2 (w : World) (b1 b2 : Bool) (L0 Lr pl dd L : Nat) (it : Nat) (pt p0 p1 p : Pos) (its : List Value) (n : Nat) (h1 h2 : Int) (k1 k2 : Tok) (v2 : Value) (ne nd N T : Nat) (c : Int) (t : Tok) (N' T' : Nat) : St :=
  resumeO (rPop1 w b1 b2 L0 Lr pl dd L it pt p0 p1 p its n h1 h2 k1 k2 v2 ne nd N T) (.ok (.ret (.int c t))) [⟨L+292, frameO [⟨h1, .str (nm "self") k1, .ref (pl+292)⟩] ne, true⟩, ⟨pl+292, pileO (dd+292) its n, false⟩] [] N' T'
noncomputable def xPop (w : World) (b1 b2 : Bool) (c : Int) (t : Tok) (T' : Nat) (r : Bool) : Cx := XX w b1 b2 tb [hkVal "int.__eq__" [.int c t, .int 0 T'] (.bool r)]
theorem pop_seg2 (w : World) (b1 b2 : Bool) (L0 Lr pl dd L : Nat) (it : Nat) (pt p0 p1 p : Pos) (its : List Value) (n : Nat) (h1 h2 : Int) (k1 k2 : Tok) (v2 : Value) (ne nd N T : Nat) (c : Int) (t : Tok) (N' T' : Nat) :
    let o := run (xPop w b1 b2 c t T' true) [1] (stPop2 w b1 b2 L0 Lr pl dd L it pt p0 p1 p its n h1 h2 k1 k2 v2 ne nd N T c t N' T')
    seen (fun env => nth env 0) o = some (toldA o, toldC o, toldO o, .done (.ret (.ref (N' + 292))), ctxIn (fcode w 213 (L + 292)) (belowTurn w (L0+292) (Lr+292) (it+292) pt p0 p1), some ⟨N' + 292, tupO [.str ⟨⟨[]⟩⟩ (T' + 1), .str ⟨⟨[]⟩⟩ (T' + 2)], true⟩, [], toldM o, toldI o, true) := by
  cases b1 <;> kernel_rfl
theorem pop_seg3 (w : World) (b1 b2 : Bool) (L0 Lr pl dd L : Nat) (it : Nat) (pt p0 p1 p : Pos) (its : List Value) (n : Nat) (h1 h2 : Int) (k1 k2 : Tok) (v2 : Value) (ne nd N T : Nat) (c : Int) (t : Tok) (N' T' : Nat) :
    let o := run (xPop w b1 b2 c t T' false) [1] (stPop2 w b1 b2 L0 Lr pl dd L it pt p0 p1 p its n h1 h2 k1 k2 v2 ne nd N T c t N' T')
    seen (fun env => nth env 0) o = some (toldA o, toldC o, toldO o, .done .next, ctxIn (fcode w 213 (L + 292)) (belowTurn w (L0+292) (Lr+292) (it+292) pt p0 p1), some ⟨L+292, frameO [⟨h1, .str (nm "self") k1, .ref (pl+292)⟩] ne, true⟩, [], toldM o, toldI o, true) := by
  cases b1 <;> kernel_rfl
noncomputable def boundO (id : String) (x : Value) : Obj := ⟨.type "builtin_function_or_method", none, .fields ⟨[.builtin id, x]⟩, #[]⟩
noncomputable def stPop4 (w : World) (L0 Lr pl dd L : Nat) (it : Nat) (pt p0 p1 p : Pos) (its : List Value) (n : Nat) (h1 : Int) (k1 : Tok) (ne N T : Nat) : St :=
  ⟨ctxIn (fcode w 213 (L+292)) (belowTurn w (L0+292) (Lr+292) (it+292) pt p0 p1), p, popT w (L+292), [], [⟨L+292, frameO [⟨h1, .str (nm "self") k1, .ref (pl+292)⟩] ne, true⟩, ⟨pl+292, pileO (dd+292) its n, false⟩], [], N, 0, T, 0, [], [], []⟩
noncomputable def rPop4 (w : World) (b1 b2 : Bool) (L0 Lr pl dd L : Nat) (it : Nat) (pt p0 p1 p : Pos) (its : List Value) (n : Nat) (h1 : Int) (k1 : Tok) (ne N T : Nat) : Option St :=
  run (XX w b1 b2 tb []) [0, 0, 0, 1, 0, 0, 0, 0, 0, 0, 1, 1, 0, 1, 0, 0, 3, 3, 0, 1, 1, 1, 1, 1, 1, 1, 1, 0, 1, 0, 1, 1, 1, 0, 0, 0, 0, 3, 0, 1] (stPop4 w L0 Lr pl dd L it pt p0 p1 p its n h1 k1 ne N T)
theorem pop_seg4 (w : World) (b1 b2 : Bool) (L0 Lr pl dd L : Nat) (it : Nat) (pt p0 p1 p : Pos) (its : List Value) (n : Nat) (h1 : Int) (k1 : Tok) (ne N T : Nat) : let o := rPop4 w b1 b2 L0 Lr pl dd L it pt p0 p1 p its n h1 k1 ne N T
    seen (fun env => nth env 0) o = some (toldA o, toldC o, toldO o, .call (.call (.ref (N + 293)) ⟨[], []⟩), ctxIn (.call (.ref (N + 293)) ⟨[], []⟩) (belowPop w (L0+292) (Lr+292) (L+292) (it+292) pt p0 p1 (posO o)), some ⟨N + 293, boundO "list.pop" (.ref (pl+292)), true⟩, [], toldM o, toldI o, flatO o) := by
  cases b1 <;> kernel_rfl
theorem pop_seg5 (w : World) (b1 b2 : Bool) (L0 Lr pl dd L b : Nat) (it : Nat) (pt p0 p1 p2 p : Pos) (its : List Value) (n N T : Nat) : let o := run (XX w b1 b2 tb []) [1, 2, 0, 2, 2, 0, 0] (begin (ctxIn (.call (.ref (b+292)) ⟨[], []⟩) (belowPop w (L0+292) (Lr+292) (L+292) (it+292) pt p0 p1 p2)) p [⟨b+292, boundO "list.pop" (.ref (pl+292)), true⟩, ⟨pl+292, pileO (dd+292) its n, true⟩] [] N T)
    seen (fun env => nth env 1) o = some (toldA o, toldC o, toldO o, .again (.builtin "list.pop" ⟨[.ref (pl+292)], []⟩), ctxIn (.builtin "list.pop" ⟨[.ref (pl+292)], []⟩) (belowPop w (L0+292) (Lr+292) (L+292) (it+292) pt p0 p1 p2), some ⟨pl+292, pileO (dd+292) its n, true⟩, [], toldM o, toldI o, true) := by
  cases b1 <;> kernel_rfl
theorem pop_seg6 (w : World) (b1 b2 : Bool) (L0 Lr pl dd L : Nat) (it : Nat) (pt p0 p1 p : Pos) (its : List Value) (n : Nat) (h1 : Int) (k1 : Tok) (ne N T : Nat) (a : Nat) (env : List Ent) (N' T' : Nat) : let o := run (XX w b1 b2 tb []) [] (resumeO (rPop4 w b1 b2 L0 Lr pl dd L it pt p0 p1 p its n h1 k1 ne N T) (.ok (.ret (.ref a))) env [] N' T')
    seen (fun _ => ()) o = some (toldA o, toldC o, toldO o, .done (.ret (.ref a)), ctxIn (fcode w 213 (L + 292)) (belowTurn w (L0+292) (Lr+292) (it+292) pt p0 p1), (), [], toldM o, toldI o, true) := by
  cases b1 <;> kernel_rfl
end
end Mine

namespace Mine
noncomputable section
open PySem PySem.W PySem.W.X PySem.Calls PyProof.Rows
theorem ext_update {h : Heap} {a : Addr} {f : Obj → Obj} : Ext [a] h (h.update a f) := by
  have hs : Heap.SameBut a h (h.update a f) := Heap.SameBut.update ..
  refine ⟨fun c o e hc => ?_, Nat.le_of_eq hs.1.symm⟩
  exact hs.extBut c o (by simpa using hc) e
theorem mapSeq_pop (c : Value) (d : Option Addr) (its : List Value) (n : Nat) (sl : Array (Option Value)) (x : Value) :
    ∃ n', Obj.mapSeq (fun xs => xs.eraseIdxIfInBounds ((⟨its ++ [x]⟩ : Array Value).size - 1)) ⟨c, d, .seq ⟨its ++ [x]⟩ n, sl⟩ = ⟨c, d, .seq ⟨its⟩ n', sl⟩ := by
  have e : (⟨its ++ [x]⟩ : Array Value).eraseIdxIfInBounds ((⟨its ++ [x]⟩ : Array Value).size - 1) = ⟨its⟩ := by
    apply Array.ext'
    simp [Array.eraseIdxIfInBounds]
    rw [List.eraseIdx_append_of_length_le (by omega)]
    simp
  refine ⟨if ((⟨its ++ [x]⟩ : Array Value).eraseIdxIfInBounds ((⟨its ++ [x]⟩ : Array Value).size - 1)).size == (⟨its ++ [x]⟩ : Array Value).size then n else n + 1, ?_⟩
  show (⟨c, d, .seq ((⟨its ++ [x]⟩ : Array Value).eraseIdxIfInBounds ((⟨its ++ [x]⟩ : Array Value).size - 1)) (if ((⟨its ++ [x]⟩ : Array Value).eraseIdxIfInBounds ((⟨its ++ [x]⟩ : Array Value).size - 1)).size == (⟨its ++ [x]⟩ : Array Value).size then n else n + 1), sl⟩ : Obj) = _
  rw [e]
theorem pop_call (w : World) (b1 b2 : Bool) (L0 Lr pl dd : Nat) (it : Nat) (pt p0 p1 p : Pos) (its : List Value) (n : Nat) (h2 : Int) (k2 : Tok) (v2 : Value) (nd T : Nat) (d : Drawn) (ox : OsState) (R : Result → Shared → Prop) (h : Heap)
    (hz : its.length ≤ 1000) (hr : ∀ v ∈ its, ∃ a : Nat, v = .ref a) (G : Glob (XX w b1 b2 tb []) h) (f1 : h.get? (pl+292) = some (pileO (dd+292) its n)) (f2 : h.get? (dd+292) = some (dictO [⟨h2, .str (nm "_initial_size") k2, v2⟩] nd))
    (K0 : its = [] → ∀ h' T' (a : Nat) t1 t2, Ext [] h h' → h.objs.size ≤ a → h'.get? a = some (tupO [.str ⟨⟨[]⟩⟩ t1, .str ⟨⟨[]⟩⟩ t2]) → R (.ok (.ret (.ref a))) ⟨h', ⟨[]⟩, d, T', ox⟩)
    (K1 : ∀ its' (a : Nat), its = its' ++ [.ref a] → ∀ h' T' n', Ext [pl+292] h h' → h'.get? (pl+292) = some (pileO (dd+292) its' n') → R (.ok (.ret (.ref a))) ⟨h', ⟨[]⟩, d, T', ox⟩) :
    wpCode (model PySem.Challenge.pw_pe0217_01 (setW w b1 b2)) (ctxIn (.call (.ref 213) ⟨[.ref (pl+292)], []⟩) (belowTurn w (L0+292) (Lr+292) (it+292) pt p0 p1)) R p ⟨h, ⟨[]⟩, d, T, ox⟩ := by
  obtain ⟨N, hN⟩ := le_size f1 (Nat.le_add_left _ _)
  have ltp : pl < N := by have := Heap.lt_size f1; rw [hN] at this; exact Nat.lt_of_add_lt_add_right this
  have ltd : dd < N := by have := Heap.lt_size f2; rw [hN] at this; exact Nat.lt_of_add_lt_add_right this
  refine code_loop (X0 := XX w b1 b2 tb []) (X := XX w b1 b2 tb []) (N := N) (own := []) (pop_seg0 w b1 b2 L0 Lr pl dd it pt p0 p1 p its n N T) rfl rfl rfl trivial hN G ⟨f1, trivial⟩ ⟨trivial, trivial⟩ ⟨Nat.le_add_left _ _, trivial⟩ (by kernel_rfl) fun h1 T1 p' st1 hV D1 E1' hnQ => ?_
  obtain ⟨es, ne, own, e3, hkv⟩ := shape_ok hV
  obtain ⟨z1, k1, r1, rfl, hk1⟩ := kvs_cons hkv
  cases kvs_nil hk1
  have g3 := D1.at e3
  have f1' := E1'.keep _ _ f1 (by kt_eqs)
  have f2' := E1'.keep _ _ f2 (by kt_eqs)
  have pd : pl ≠ dd := by
    intro e; rw [e] at f1; rw [f1] at f2
    exact absurd (congrArg Obj.cls (Option.some.inj f2)) (by simp [pileO, dictO])
  obtain ⟨N1, hN1⟩ := le_size f1' (Nat.le_add_left _ _)
  refine hnQ ?_
  refine code_of_body ?_
  have hb : bodyOf w 213 = [stmtAt w 213 0, .Return (some (.Call (.Attribute (supE (ln 98 15 98 20) (ln 98 15 98 22)) (nm "pop") (ln 98 15 98 26)) [] [] (ln 98 15 98 28))) (ln 98 8 98 28)] := by kernel_rfl
  show WA _ (ctxIn (fcode w 213 (N + 292)) (belowTurn w (L0+292) (Lr+292) (it+292) pt p0 p1)) (execs (bodyOf w 213) (cenv w 213 (N + 292))) _ _ _
  rw [hb]
  refine WA.execs_cons (WA.flow (execsF_eq _ _) (N := N1) (env := [⟨N+292, frameO [⟨z1, .str (nm "self") k1, .ref (pl+292)⟩] ne, true⟩, ⟨pl+292, pileO (dd+292) its n, false⟩, ⟨dd+292, dictO [⟨h2, .str (nm "_initial_size") k2, v2⟩] nd, false⟩]) fun p2 => ?_)
  refine means_of_cut (X := XX w b1 b2 tb []) (pop_seg1 w b1 b2 L0 Lr pl dd N it pt p0 p1 p2 its n z1 h2 k1 k2 v2 ne nd N1 T1) trivial (on_dif hN1 D1.glob ⟨g3, f1', f2', trivial⟩ ?_ ⟨Nat.le_add_left _ _, Nat.le_add_left _ _, Nat.le_add_left _ _, trivial⟩) fun h3 T3 st3 hrun hV3 D3 E3 => ?_
  · exact ⟨⟨.inr (show (N + 292 : Nat) ≠ pl + 292 by omega), .inr (show (N + 292 : Nat) ≠ dd + 292 by omega), trivial⟩, ⟨.inr (show (pl + 292 : Nat) ≠ dd + 292 by omega), trivial⟩, trivial, trivial⟩
  have E3' : Ext [N + 292] h1 h3 := E3
  have g3' := D3.at hV3
  have f13 := E3'.keep _ _ f1' (by kt_eqs)
  refine count_call w b1 b2 _ (count_pop w b1 b2 L0 Lr N it pt p0 p1 _) pl (dd+292) _ its n T3 d ox _ h3 D3.glob f13 ?_
  intro h4 T4 t E4
  have f14 := E4.keep _ _ f13 (by kt_eqs)
  have g34 := E4.keep _ _ g3' (by kt_eqs)
  obtain ⟨N4, hN4⟩ := le_size f14 (Nat.le_add_left _ _)
  have G4 : Glob (XX w b1 b2 tb []) h4 := E4.glob (X := XX w b1 b2 tb []) (by simp) D3.glob
  have E04 : Ext [N + 292] h h4 := ((E1'.trans E3').trans E4).mono fun c hc => by simp at hc; left; simp [hc]
  have dif : Dif [⟨N+292, frameO [⟨z1, .str (nm "self") k1, .ref (pl+292)⟩] ne, true⟩, ⟨pl+292, pileO (dd+292) its n, false⟩] := ⟨⟨.inr (show (N + 292 : Nat) ≠ pl + 292 by omega), trivial⟩, trivial, trivial⟩
  have ge : AllE (fun e => 292 ≤ e.a) [⟨N+292, frameO [⟨z1, .str (nm "self") k1, .ref (pl+292)⟩] ne, true⟩, ⟨pl+292, pileO (dd+292) its n, false⟩] := ⟨Nat.le_add_left _ _, Nat.le_add_left _ _, trivial⟩
  have new : ∀ c : Nat, c ∈ [N + 292] ++ [N + 292] → h.objs.size ≤ c := by
    intro c hc
    simp only [List.mem_append, List.mem_cons, List.not_mem_nil, or_false] at hc
    rw [hN]; omega
  rcases List.eq_nil_or_concat its with h0 | ⟨its', v, hv⟩
  · refine back_done (X0 := XX w b1 b2 tb []) (X := xPop w b1 b2 its.length t T4 true) (own := [N + 292]) hrun (pop_seg2 w b1 b2 L0 Lr pl dd N it pt p0 p1 p2 its n z1 h2 k1 k2 v2 ne nd N1 T1 its.length t N4 T4) rfl rfl rfl ⟨ok_eq (by rw [h0]; rfl), trivial⟩ hN4 G4 ⟨g34, f14, trivial⟩ dif ge fun h5 T5 st5 hV5 D5 E5' hnQ => ?_
    refine hnQ ?_
    refine K0 h0 h5 T5 (N4 + 292) _ _ ((E04.trans E5').new new) ?_ (D5.at hV5)
    have := E04.size; omega
  · have hv' : its = its' ++ [v] := by rw [hv]; simp
    obtain ⟨a, rfl⟩ := hr v (by rw [hv']; simp)
    refine back_done (X0 := XX w b1 b2 tb []) (X := xPop w b1 b2 its.length t T4 false) (own := [N + 292]) hrun (pop_seg3 w b1 b2 L0 Lr pl dd N it pt p0 p1 p2 its n z1 h2 k1 k2 v2 ne nd N1 T1 its.length t N4 T4) rfl rfl rfl ⟨ok_eq (by rw [hv']; simp; omega), trivial⟩ hN4 G4 ⟨g34, f14, trivial⟩ dif ge fun h5 T5 st5 hV5 D5 E5' hnQ => ?_
    have f15 := E5'.keep _ _ f14 (by kt_eqs)
    have g35 := D5.at hV5
    obtain ⟨N5, hN5⟩ := le_size f15 (Nat.le_add_left _ _)
    refine hnQ ?_
    refine WA.ret (WA.sup w b1 b2 213 212 (N + 292) (ar := ⟨nm "self", none, ln 95 12 95 16⟩) D5.glob (by kernel_rfl) (by kernel_rfl) (by kernel_rfl) rfl rfl rfl (by kernel_rfl) (by kernel_rfl) (by kernel_rfl) (by kernel_rfl) (by kernel_rfl) (by kernel_rfl) (by kernel_rfl) (by kernel_rfl) (by kernel_rfl) ?_)
    refine WA.val (superCallT_eq _ _ _ _ _ _) (N := N5) (env := [⟨N+292, frameO [⟨z1, .str (nm "self") k1, .ref (pl+292)⟩] ne, true⟩, ⟨pl+292, pileO (dd+292) its n, false⟩]) fun p6 => ?_
    refine means_of_cut (X := XX w b1 b2 tb []) (pop_seg4 w b1 b2 L0 Lr pl dd N it pt p0 p1 p6 its n z1 k1 ne N5 T5) trivial (on_dif hN5 D5.glob ⟨g35, f15, trivial⟩ dif ge) fun h6 T6 st6 hrun6 hV6 D6 E6 => ?_
    have E6' : Ext [N + 292] h5 h6 := E6
    have f16 := E6'.keep _ _ f15 (by kt_eqs)
    have g6 := D6.at hV6
    obtain ⟨N6, hN6⟩ := le_size f16 (Nat.le_add_left _ _)
    have lt5 : pl < N5 := by have := Heap.lt_size f15; rw [hN5] at this; exact Nat.lt_of_add_lt_add_right this
    have hN5N : N ≤ N5 := by have := E04.size; have := E5'.size; omega
    refine code_loop (X0 := XX w b1 b2 tb []) (X := XX w b1 b2 tb []) (N := N6) (own := [N5 + 1 + 292, pl + 292]) (pop_seg5 w b1 b2 L0 Lr pl dd N (N5 + 1) it pt p0 p1 _ _ its n N6 T6) rfl rfl rfl trivial hN6 D6.glob ⟨g6, f16, trivial⟩ ⟨⟨.inr (show (N5 + 1 + 292 : Nat) ≠ pl + 292 by omega), trivial⟩, trivial, trivial⟩ ⟨Nat.le_add_left _ _, Nat.le_add_left _ _, trivial⟩ (by kernel_rfl) fun h7 T7 p7 st7 hV7 D7 E7' hnQ => ?_
    have f17 := D7.at hV7
    refine hnQ ?_
    refine code_of_meets rfl (by decide +kernel) F.entry_list_pop (pop_last (.ref 253) (some (dd+292)) (pl+292) ⟨its⟩ n (.ref a) (by rw [hv']; simp) (by rw [sizeL]; show its.length ≤ _; omega)) fun A hA => ⟨f17, ?_⟩
    obtain ⟨n', hn'⟩ := mapSeq_pop (.ref 253) (some (dd+292)) its' n #[] (.ref a)
    have f18 : (h7.update (pl+292) (Obj.mapSeq fun xs => xs.eraseIdxIfInBounds ((⟨its⟩ : Array Value).size - 1))).get? (pl+292) = some (pileO (dd+292) its' n') := by
      have e : Obj.mapSeq (fun xs => xs.eraseIdxIfInBounds ((⟨its⟩ : Array Value).size - 1)) (pileO (dd+292) its n) = pileO (dd+292) its' n' := by rw [hv']; exact hn'
      rw [Heap.get?_update_self _ f17 (by rw [e]; rfl), e]
    obtain ⟨N8, hN8⟩ := le_size f18 (Nat.le_add_left _ _)
    have E8 : Ext [pl+292] h7 (h7.update (pl+292) (Obj.mapSeq fun xs => xs.eraseIdxIfInBounds ((⟨its⟩ : Array Value).size - 1))) := ext_update
    refine means_back hrun6 (means_of_done (X := XX w b1 b2 tb []) (pop_seg6 w b1 b2 L0 Lr pl dd N it pt p0 p1 p6 its n z1 k1 ne N5 T5 a [⟨pl+292, pileO (dd+292) its' n', false⟩] N8 T7) trivial (on_back hrun6 hN8 ?_ ⟨f18, trivial⟩ ⟨trivial, trivial⟩ ⟨Nat.le_add_left _ _, trivial⟩) fun h9 T9 st9 _ D9 E9 => ?_)
    · exact E8.glob (X := XX w b1 b2 tb []) (by intro c hc; left; simp only [List.mem_cons, List.not_mem_nil, or_false] at hc; rw [hc]; exact Nat.le_add_left _ _) D7.glob
    · have E9' : Ext [] _ h9 := ext_back hrun6 E9
      refine K1 its' a hv' h9 T9 n' ((((((E04.trans E5').trans E6').trans E7').trans E8).trans E9').drop ?_) (E9'.keep _ _ f18 (by kt_eqs))
      have hNN : N ≤ N5 + 1 := by omega
      repeat' first | exact fa_nil | refine fa_app ?_ ?_ | refine fa_cons (Or.inl (by k_mem)) ?_ | refine fa_cons (Or.inr (nw0 hN rfl)) ?_ | refine fa_cons (Or.inr (nw1 hN hNN rfl)) ?_ | refine fa_cons (Or.inr (nw2 hN hNN rfl)) ?_
end
end Mine

namespace Mine
noncomputable section
open PySem PySem.W PySem.W.X PySem.Calls PyProof.Rows
noncomputable def hkLen (j : Nat) (l : Addr) (its : List Value) (n : Nat) : Hook :=
  ⟨.call (.builtin "len") ⟨[.ref l], []⟩, [(j, l, listO its n, none)], fun t _ => .ok (.ret (.int its.length (t + 1))), fun _ => [], 2⟩
theorem ok_len {X : Cx} {j : Nat} {l : Addr} {its : List Value} {n : Nat} (hz : its.length ≤ 1000) : HookOk X (hkLen j l its n) := by
  refine hook_ok (v := fun t _ => .int its.length (t + 1)) fun A Q E s _ _ hp hq => ?_
  obtain ⟨hl, _⟩ := hp
  exact call_len_list (items := ⟨its⟩) ⟨_, hl, rfl, n, rfl⟩ (by show ((⟨its⟩ : Array Value).size : Int) < 2 ^ 63; simp; omega) hq
noncomputable def rngO (a b c : Int) (t u v : Tok) : Obj := ⟨.type "range", none, .fields ⟨[.int a t, .int b u, .int c v]⟩, #[]⟩
noncomputable def rngI (x left : Int) : Obj := ⟨.type "range_iterator", none, .fields ⟨[.int x 0, .int left 0, .int 1 0]⟩, #[]⟩
noncomputable def hkRIter (j : Nat) (r : Addr) (a b : Int) (t u v : Tok) : Hook :=
  ⟨.call (.builtin "range.__iter__") ⟨[.ref r], []⟩, [(j, r, rngO a b 1 t u v, none)], fun _ a => .ok (.ret (.ref a)), fun _ => [rngI a (b - a)], 0⟩
theorem ok_riter {X : Cx} {j : Nat} {r : Addr} {a b : Int} {t u v : Tok} (ha : 0 ≤ a) (hab : a ≤ b) (hb : b ≤ 1000) : HookOk X (hkRIter j r a b t u v) := by
  refine hook_ok (v := fun _ a => .ref a) fun A Q E s _ _ hp hq => ?_
  obtain ⟨hr, _⟩ := hp
  have hT : s.TypeIs (.ref r) "range" := ⟨_, hr, rfl⟩
  have hsmall := small_one (a := a) (b := b) (by omega) (by omega) (by omega) (by omega)
  have hs : Builtin.Range.rangeSize a b 1 = b - a := by rw [rangeSize_one]; split <;> omega
  unfold Builtin.Range.small at hsmall
  refine call_meets F.slot_range_iter hT F.entry_range_iter (F.args_range_iter_1 _) (AutoRange.range___iter___range_1 r a b 1 t u v (by rw [hsmall]; decide)) ⟨hr, ?_⟩
  simp only [hsmall, if_true]
  rw [hs]
  exact hq
noncomputable def hkRNext (j : Nat) (it : Addr) (x left : Int) : Hook :=
  ⟨.call (.builtin "range_iterator.__next__") ⟨[.ref it], []⟩, [(j, it, rngI x left, some (rngI (x + 1) (left - 1)))], fun t _ => .ok (.ret (.int x t)), fun _ => [], 1⟩
theorem ok_rnext {X : Cx} {j : Nat} {it : Addr} {x left : Int} (hl : 0 < left) : HookOk X (hkRNext j it x left) := by
  refine hook_ok (v := fun t _ => .int x t) fun A Q E s _ _ hp hq => ?_
  obtain ⟨hit, _⟩ := hp
  have hT : s.TypeIs (.ref it) "range_iterator" := ⟨_, hit, rfl⟩
  refine call_meets F.slot_range_iterator_next hT F.entry_range_iterator_next (F.args_range_iterator_next_1 _) (AutoRange.range_iterator___next___range_iterator_1 it x left 1 (by omega)) ⟨hit, ?_⟩
  have e1 := update_const (f := Obj.mapFields fun x_1 => x_1.setIfInBounds 0 (rawInt (x + 1))) hit
  have g1 : (s.heap.update it fun _ => Obj.mapFields (fun x_1 => x_1.setIfInBounds 0 (rawInt (x + 1))) (rngI x left)).get? it = some (rngI (x + 1) left) := Heap.get?_update_self _ hit rfl
  have e2 := update_const (f := Obj.mapFields fun x => x.setIfInBounds 1 (rawInt (left - 1))) g1
  have e3 : (s.heap.update it (Obj.mapFields fun x_1 => x_1.setIfInBounds 0 (rawInt (x + 1)))).update it (Obj.mapFields fun x => x.setIfInBounds 1 (rawInt (left - 1))) = s.heap.update it fun _ => rngI (x + 1) (left - 1) := by
    rw [e1, e2, update_twice]; rfl
  show Q (.int x s.toks) { s with heap := (s.heap.update it (Obj.mapFields fun x_1 => x_1.setIfInBounds 0 (rawInt (x + 1)))).update it (Obj.mapFields fun x => x.setIfInBounds 1 (rawInt (left - 1))), toks := s.toks + 1 }
  rw [e3]
  exact hq
noncomputable def hkREnd (j : Nat) (it : Addr) (x left : Int) : Hook :=
  ⟨.call (.builtin "range_iterator.__next__") ⟨[.ref it], []⟩, [(j, it, rngI x left, none)], fun _ a => .error (.ref (a + 1)), fun a => [tupO [], stopO a], 0⟩
theorem ok_rend {X : Cx} {j : Nat} {it : Addr} {x left : Int} (hl : left ≤ 0) : HookOk X (hkREnd j it x left) := by
  refine hook_err (v := fun _ a => .ref (a + 1)) fun A Q E s hh _ hp hq => ?_
  obtain ⟨hit, _⟩ := hp
  have hT : s.TypeIs (.ref it) "range_iterator" := ⟨_, hit, rfl⟩
  refine wpAny_call_entry F.slot_range_iterator_next hT F.entry_range_iterator_next ?_ (F.args_range_iterator_next_1 _)
  show wpAny _ _ (field (.ref it) 0 >>= _) _ _ s
  refine wpAny_bind (wpAny_field hit rfl (x := rawInt x) rfl ?_)
  show wpAny _ _ (field (.ref it) 1 >>= _) _ _ s
  refine wpAny_bind (wpAny_field hit rfl (x := rawInt left) rfl ?_)
  show wpAny _ _ (field (.ref it) 2 >>= _) _ _ s
  refine wpAny_bind (wpAny_field hit rfl (x := rawInt 1) rfl ?_)
  show wpAny _ _ (if left ≤ 0 then _ else _) _ _ s
  rw [if_pos hl]
  refine wpAny_bind (wpAny_rule ?_)
  refine wpAny_bind ?_
  show wpAny _ _ (newExc (.type "StopIteration") [] >>= _) _ _ _
  refine wpAny_bind ?_
  simp only [newExc, newTuple]
  refine wpAny_bind (wpAny_newObj_type ?_ (by size_fits))
  refine wpAny_bind (m := firstArgMember _ _) (wpAny_of_eq (a := Value.none) (by first | rfl | (simp only [firstArgMember]; rfl)) ?_)
  refine wpAny_newObj_type ?_ (by size_fits)
  simp only [raiseNew]
  refine wpAny_bind (wpAny_handled ?_)
  rw [show A.in1.handled = none from hh]
  refine wpAny_bind (wpAny_pure (wpAny_throw ?_))
  have e2 : (s.heap.push (tupO [])).objs.size = s.heap.objs.size + 1 := by rw [Heap.size_push]
  show E (.ref (s.heap.push (tupO [])).objs.size) _
  rw [e2]
  exact hq
end
end Mine
namespace Mine
noncomputable section
open PySem PySem.W PySem.W.X
noncomputable def mini (X : Cx) : Nat → Nat → Sem Fin → Option (Result × Nat)
  | 0, _, _ => none
  | n + 1, T, t => match t with
    | .rule _ k => mini X n T (k ())
    | .at _ k => mini X n T (k ())
    | .point _ k => mini X n T (k ())
    | .ask k => mini X n T (k ⟨X.prog, X.w.params⟩)
    | .fresh k => mini X n (T + 1) (k T)
    | .load a _ k => match low X a with
      | true => match X.kt.get a with
        | some ob => mini X n T (k ob)
        | none => none
      | false => none
    | .call c hd _ _ k => match hd with
      | none => match mini X n T (den c) with
        | some (r, T') => mini X n T' (k r)
        | none => none
      | some _ => none
    | .raise e => some (.error e, T)
    | .pure fin => match fin with
      | .again c => match c.quiet with
        | true => mini X n T (den c)
        | false => none
      | .done f => some (.ok f, T)
    | _ => none
end
end Mine

namespace Mine
noncomputable section
open PySem PySem.W PySem.W.X
theorem mini_sound {X : Cx} : ∀ (n T : Nat) (t : Sem Fin) (r : Result) (T' : Nat), mini X n T t = some (r, T') → ∀ (Γ : Ctx) (p : Pos) (s : Shared), s.toks = T → Glob X s.heap → Runs (model X.prog X.w) Γ p t [] s (.ret r) { s with toks := T' }
  | 0, _, _, _, _, h => nomatch h
  | n + 1, T, t, r, T', h => by
    intro Γ p s hT G
    cases t with
    | rule tag k => exact .rule (mini_sound n T _ r T' h Γ p s hT G)
    | «at» q k => exact .at (mini_sound n T _ r T' h Γ q s hT G)
    | point l k => exact .point (mini_sound n T _ r T' h Γ p s hT G)
    | ask k => exact .ask (mini_sound n T _ r T' h Γ p s hT G)
    | fresh k =>
      refine .fresh ?_
      rw [hT]
      have z := mini_sound n (T + 1) _ r T' h Γ p { s with toks := s.toks + 1 } (by show s.toks + 1 = T + 1; rw [hT]) G
      rw [hT] at z
      exact z
    | load a q k =>
      simp only [mini] at h
      split at h
      · rename_i hl
        split at h
        · rename_i ob hk
          exact .load (G a ob hl hk) (mini_sound n T _ r T' h Γ p s hT G)
        · cases h
      · cases h
    | call c hd g l k =>
      simp only [mini] at h
      split at h
      · split at h
        · rename_i r1 T1 h1
          refine .call (r := r1) (s₁ := { s with toks := T1 }) ?_ ?_
          · show Runs (model X.prog X.w) _ p (denote table c) [] s _ _
            rw [den_eq]
            exact mini_sound n T _ r1 T1 h1 _ p s hT G
          · exact mini_sound n T1 _ r T' h Γ p { s with toks := T1 } rfl G
        · cases h
      · cases h
    | raise e =>
      simp only [mini, Option.some.injEq, Prod.mk.injEq] at h
      obtain ⟨rfl, rfl⟩ := h
      subst hT
      exact .raise
    | pure fin =>
      cases fin with
      | again c =>
        simp only [mini] at h
        split at h
        · rename_i hq
          refine .again hq ?_
          show Runs (model X.prog X.w) _ p (denote table c) [] s _ _
          rw [den_eq]
          exact mini_sound n T _ r T' h _ p s hT G
        · cases h
      | done f =>
        simp only [mini, Option.some.injEq, Prod.mk.injEq] at h
        obtain ⟨rfl, rfl⟩ := h
        subst hT
        exact .done
    | unsupported => cases h
    | finish => cases h
    | loadIfAlive => cases h
    | update => cases h
    | alloc => cases h
    | register => cases h
    | choose => cases h
    | os => cases h
    | handled => cases h
    | stack => cases h
    | newGen => cases h
    | genState => cases h
    | resume => cases h
    | yield => cases h
    | fork => cases h
    | thread => cases h
    | await => cases h
theorem mini_hook {X : Cx} {c : Code} {res : Nat → Result} {k : Nat} (n : Nat) (h : ∀ T, mini X n T (den c) = some (res T, T + k)) : HookOk X ⟨c, [], fun t _ => res t, fun _ => [], k⟩ := by
  intro Γ p s R hh G _ hr
  have z := mini_sound n s.toks _ _ _ (h s.toks) (Γ.enter c none p) p s rfl G
  refine ⟨_, _, ?_, hr⟩
  show Runs (model X.prog X.w) _ p (denote table c) [] s _ _
  rw [den_eq]
  exact z
end
end Mine

namespace Mine
noncomputable section
open PySem PySem.W PySem.W.X PySem.Calls PyProof.Rows
noncomputable def emp : Str := ⟨⟨[]⟩⟩
noncomputable def chr1 (c : Nat) : Str := ⟨⟨[c]⟩⟩
noncomputable def digs (j : Nat) : Str := if j < 10 then ⟨⟨[48 + j]⟩⟩ else ⟨⟨[48 + j / 10, 48 + j % 10]⟩⟩
noncomputable def NameS (x : Str) : Prop := x = emp ∨ x = chr1 97 ∨ x = chr1 65 ∨ x = chr1 98 ∨ x = chr1 66
noncomputable def PlaceS (x : Str) : Prop := x = emp ∨ ∃ j, j < 24 ∧ x = digs j
noncomputable def lowC (c : Nat) : Nat := match Nat.ble 65 c with
  | true => match Nat.ble c 90 with
    | true => c + 32
    | false => c
  | false => c
noncomputable def lowS (x : Str) : Str := ⟨⟨x.cps.toList.map lowC⟩⟩
theorem hook_any {X : Cx} {hs : List Hook} {k : Hook} (h : HookOk { X with hooks := hs } k) : HookOk X k := h
theorem hook_xx {w : World} {b1 b2 : Bool} {hs : List Hook} {k : Hook} (h : HookOk (XX w b1 b2 tb []) k) : HookOk (XX w b1 b2 tb hs) k := h
theorem mini_name (w : World) (b1 b2 : Bool) {x : Str} (hx : NameS x) (t T : Nat) : mini (XX w b1 b2 tb []) 3000 T (den (.call (.builtin "re.Pattern.search") ⟨[.ref 43, .str x t], []⟩)) = some (.ok (.ret .none), T + 0) := by
  rcases hx with rfl | rfl | rfl | rfl | rfl <;> kernel_rfl
theorem lt24a : ∀ j, j < 24 → j = 0 ∨ j = 1 ∨ j = 2 ∨ j = 3 ∨ j = 4 ∨ j = 5 ∨ j = 6 ∨ j = 7 ∨ j = 8 ∨ j = 9 ∨ j = 10 ∨ j = 11 ∨ j = 12 ∨ j = 13 ∨ j = 14 ∨ j = 15 ∨ j = 16 ∨ j = 17 ∨ j = 18 ∨ j = 19 ∨ j = 20 ∨ j = 21 ∨ j = 22 ∨ j = 23 := by decide +kernel
theorem lt24 {j : Nat} (h : j < 24) : j = 0 ∨ j = 1 ∨ j = 2 ∨ j = 3 ∨ j = 4 ∨ j = 5 ∨ j = 6 ∨ j = 7 ∨ j = 8 ∨ j = 9 ∨ j = 10 ∨ j = 11 ∨ j = 12 ∨ j = 13 ∨ j = 14 ∨ j = 15 ∨ j = 16 ∨ j = 17 ∨ j = 18 ∨ j = 19 ∨ j = 20 ∨ j = 21 ∨ j = 22 ∨ j = 23 := lt24a j h
theorem mini_place (w : World) (b1 b2 : Bool) {x : Str} (hx : PlaceS x) (t T : Nat) : mini (XX w b1 b2 tb []) 3000 T (den (.call (.builtin "re.Pattern.search") ⟨[.ref 48, .str x t], []⟩)) = some (.ok (.ret .none), T + 0) := by
  rcases hx with rfl | ⟨j, hj, rfl⟩
  · kernel_rfl
  · rcases lt24 hj with rfl | rfl | rfl | rfl | rfl | rfl | rfl | rfl | rfl | rfl | rfl | rfl | rfl | rfl | rfl | rfl | rfl | rfl | rfl | rfl | rfl | rfl | rfl | rfl <;> kernel_rfl
theorem ok_name {w : World} {b1 b2 : Bool} {hs : List Hook} {x : Str} (hx : NameS x) (t : Nat) : HookOk (XX w b1 b2 tb hs) (hkVal "re.Pattern.search" [.ref 43, .str x t] .none) :=
  hook_xx (mini_hook (res := fun _ => .ok (.ret .none)) 3000 (mini_name w b1 b2 hx t))
theorem ok_place {w : World} {b1 b2 : Bool} {hs : List Hook} {x : Str} (hx : PlaceS x) (t : Nat) : HookOk (XX w b1 b2 tb hs) (hkVal "re.Pattern.search" [.ref 48, .str x t] .none) :=
  hook_xx (mini_hook (res := fun _ => .ok (.ret .none)) 3000 (mini_place w b1 b2 hx t))
theorem mini_lower (w : World) (b1 b2 : Bool) {x : Str} (hx : NameS x) (t T : Nat) : mini (XX w b1 b2 tb []) 3000 T (den (.call (.builtin "str.lower") ⟨[.str x t], []⟩)) = some (.ok (.ret (.str (lowS x) T)), T + 1) := by
  rcases hx with rfl | rfl | rfl | rfl | rfl <;> kernel_rfl
theorem ok_lower {w : World} {b1 b2 : Bool} {hs : List Hook} {x : Str} (hx : NameS x) (t : Nat) : HookOk (XX w b1 b2 tb hs) (hkStr "str.lower" [.str x t] (lowS x)) :=
  hook_xx (mini_hook (res := fun T => .ok (.ret (.str (lowS x) T))) 3000 (mini_lower w b1 b2 hx t))
theorem low_name {x : Str} (hx : NameS x) : NameS (lowS x) := by
  rcases hx with rfl | rfl | rfl | rfl | rfl
  · exact .inl rfl
  · exact .inr (.inl rfl)
  · exact .inr (.inl rfl)
  · exact .inr (.inr (.inr (.inl rfl)))
  · exact .inr (.inr (.inr (.inl rfl)))
section
variable {X : Cx} {x y : Str} {t u : Tok}
theorem ok_seq {r : Bool} (hr : (x.cps.toList == y.cps.toList) = r) : HookOk X (hkVal "str.__eq__" [.str x t, .str y u] (.bool r)) :=
  hook_ok (v := fun _ _ => .bool r) fun A Q E s _ _ _ hq => call_gives F.slot_str_eq (typeIs_str s x t) F.entry_str_eq (F.args_str_eq_2 _ _) (gives_str_eq x y t u) (by rw [hr]; exact hq)
theorem digs_eq {j : Nat} (hj : j < 24) : Str.ofString (toString (j : Int)) = digs j := by
  rcases lt24 hj with rfl | rfl | rfl | rfl | rfl | rfl | rfl | rfl | rfl | rfl | rfl | rfl | rfl | rfl | rfl | rfl | rfl | rfl | rfl | rfl | rfl | rfl | rfl | rfl <;> decide +kernel
noncomputable def hkStrOf (j : Nat) (t : Tok) : Hook := ⟨.call (.type "str") ⟨[.int j t], []⟩, [], fun T _ => .ok (.ret (.str (digs j) T)), fun _ => [], 1⟩
theorem ok_strof {j : Nat} (hj : j < 24) : HookOk X (hkStrOf j t) :=
  hook_ok (v := fun T _ => .str (digs j) T) fun A Q E s _ _ _ hq => P.str_of_int (by rcases lt24 hj with rfl | rfl | rfl | rfl | rfl | rfl | rfl | rfl | rfl | rfl | rfl | rfl | rfl | rfl | rfl | rfl | rfl | rfl | rfl | rfl | rfl | rfl | rfl | rfl <;> decide) (by rw [digs_eq hj]; exact hq)
end
end
end Mine

namespace Mine
noncomputable section
open PySem PySem.W PySem.W.X PySem.Calls PyProof.Rows
noncomputable def peel (X : Cx) (E : List Ent) : Nat → List Nat → List (Addr × Addr) → Sem Fin → Option (Code × List (Addr × Addr))
  | 0, _, _, _ => none
  | n + 1, os, eqs, t => match t with
    | .rule _ k => peel X E n os eqs (k ())
    | .at _ k => peel X E n os eqs (k ())
    | .point _ k => peel X E n os eqs (k ())
    | .ask k => peel X E n os eqs (k ⟨X.prog, X.w.params⟩)
    | .load a _ k => match os with
      | [] => none
      | 0 :: os => match low X a with
        | true => match X.kt.get a with
          | some ob => peel X E n os eqs (k ob)
          | none => none
        | false => none
      | (j + 1) :: os => match nth E j with
        | some e => peel X E n os ((a, e.a) :: eqs) (k e.o)
        | none => none
    | .loadIfAlive a k => match os with
      | [] => none
      | 0 :: os => match low X a with
        | true => match X.kt.get a with
          | some ob => peel X E n os eqs (k (some ob))
          | none => none
        | false => none
      | (j + 1) :: os => match nth E j with
        | some e => peel X E n os ((a, e.a) :: eqs) (k (some e.o))
        | none => none
    | .pure fin => match fin with
      | .again c => match c.quiet with
        | true => some (c, eqs)
        | false => none
      | .done _ => none
    | _ => none
theorem peel_sub {X : Cx} {E : List Ent} : ∀ (n : Nat) (os : List Nat) (eqs : List (Addr × Addr)) (t : Sem Fin) (c : Code) (eqs' : List (Addr × Addr)), peel X E n os eqs t = some (c, eqs') → ∀ x ∈ eqs, x ∈ eqs'
  | 0, _, _, _, _, _, h => nomatch h
  | n + 1, os, eqs, t, c, eqs', h => by
    intro x hx
    cases t with
    | rule tag k => exact peel_sub n _ _ _ _ _ h x hx
    | «at» q k => exact peel_sub n _ _ _ _ _ h x hx
    | point l k => exact peel_sub n _ _ _ _ _ h x hx
    | ask k => exact peel_sub n _ _ _ _ _ h x hx
    | load a q k =>
      simp only [peel] at h
      (repeat' split at h) <;> first | (cases h; done) | exact peel_sub n _ _ _ _ _ h x hx | exact peel_sub n _ _ _ _ _ h x (.tail _ hx)
    | loadIfAlive a k =>
      simp only [peel] at h
      (repeat' split at h) <;> first | (cases h; done) | exact peel_sub n _ _ _ _ _ h x hx | exact peel_sub n _ _ _ _ _ h x (.tail _ hx)
    | pure fin =>
      simp only [peel] at h
      (repeat' split at h) <;> first | (cases h; done) | (cases h; exact hx)
    | _ => cases h
theorem peel_sound {X : Cx} {E : List Ent} : ∀ (n : Nat) (os : List Nat) (eqs : List (Addr × Addr)) (t : Sem Fin) (c : Code) (eqs' : List (Addr × Addr)), peel X E n os eqs t = some (c, eqs') → (∀ x ∈ eqs', x.1 = x.2) →
    ∀ (Γ : Ctx) (p : Pos) (s : Shared), Glob X s.heap → (∀ e ∈ E, s.heap.get? e.a = some e.o) → ∃ q, ∀ e s', Runs (model X.prog X.w) (Γ.goto c) q (den c) [] s e s' → Runs (model X.prog X.w) Γ p t [] s e s'
  | 0, _, _, _, _, _, h, _ => nomatch h
  | n + 1, os, eqs, t, c, eqs', h, good => by
    intro Γ p s G HE
    cases t with
    | rule tag k => obtain ⟨q, z⟩ := peel_sound n _ _ _ _ _ h good Γ p s G HE; exact ⟨q, fun e s' r => .rule (z e s' r)⟩
    | «at» q k => obtain ⟨q, z⟩ := peel_sound n _ _ _ _ _ h good Γ q s G HE; exact ⟨q, fun e s' r => .at (z e s' r)⟩
    | point l k => obtain ⟨q, z⟩ := peel_sound n _ _ _ _ _ h good Γ p s G HE; exact ⟨q, fun e s' r => .point (z e s' r)⟩
    | ask k => obtain ⟨q, z⟩ := peel_sound n _ _ _ _ _ h good Γ p s G HE; exact ⟨q, fun e s' r => .ask (z e s' r)⟩
    | load a l k =>
      simp only [peel] at h
      split at h
      · cases h
      · split at h
        · rename_i hl
          split at h
          · rename_i ob hk
            obtain ⟨q, z⟩ := peel_sound n _ _ _ _ _ h good Γ p s G HE
            exact ⟨q, fun e s' r => .load (G a ob hl hk) (z e s' r)⟩
          · cases h
        · cases h
      · split at h
        · rename_i en hj
          obtain ⟨q, z⟩ := peel_sound n _ _ _ _ _ h good Γ p s G HE
          have ea : a = en.a := good _ (peel_sub n _ _ _ _ _ h _ (.head _))
          exact ⟨q, fun e s' r => .load (by rw [ea]; exact HE en (nth_mem hj)) (z e s' r)⟩
        · cases h
    | loadIfAlive a k =>
      simp only [peel] at h
      split at h
      · cases h
      · split at h
        · rename_i hl
          split at h
          · rename_i ob hk
            obtain ⟨q, z⟩ := peel_sound n _ _ _ _ _ h good Γ p s G HE
            exact ⟨q, fun e s' r => .loadIfAlive (by rw [G a ob hl hk]; exact z e s' r)⟩
          · cases h
        · cases h
      · split at h
        · rename_i en hj
          obtain ⟨q, z⟩ := peel_sound n _ _ _ _ _ h good Γ p s G HE
          have ea : a = en.a := good _ (peel_sub n _ _ _ _ _ h _ (.head _))
          exact ⟨q, fun e s' r => .loadIfAlive (by rw [ea, HE en (nth_mem hj)]; exact z e s' r)⟩
        · cases h
    | pure fin =>
      cases fin with
      | done f => cases h
      | again c' =>
        simp only [peel] at h
        split at h
        · rename_i hq
          simp only [Option.some.injEq, Prod.mk.injEq] at h
          obtain ⟨rfl, _⟩ := h
          refine ⟨p, fun e s' r => .again hq ?_⟩
          show Runs (model X.prog X.w) _ p (denote table c') [] s _ _
          rw [den_eq]; exact r
        · cases h
    | unsupported => cases h
    | finish => cases h
    | fresh => cases h
    | call => cases h
    | raise => cases h
    | update => cases h
    | alloc => cases h
    | register => cases h
    | choose => cases h
    | os => cases h
    | handled => cases h
    | stack => cases h
    | newGen => cases h
    | genState => cases h
    | resume => cases h
    | yield => cases h
    | fork => cases h
    | thread => cases h
    | await => cases h
noncomputable def peelEq (o : Option (Code × List (Addr × Addr))) : List Addr := match o with
  | some x => x.2.map Prod.snd
  | none => []
noncomputable def peelSeen (o : Option (Code × List (Addr × Addr))) : Option (Code × List Addr) := match o with
  | some x => some (x.1, x.2.map Prod.fst)
  | none => none
theorem hook_peel {X : Cx} {E : List Ent} {c : Code} {pre : List (Nat × Addr × Obj × Option Obj)} {res : Nat → Addr → Result} {news : Addr → List Obj} {toks n : Nat} {os : List Nat} {id : String} {args : Args} {B : Builtin} {S : PySem.Spec}
    (hE : ∀ h, PreOk pre h → ∀ e ∈ E, h.get? e.a = some e.o)
    (run : peelSeen (peel X E n os [] (den c)) = some (.builtin id args, peelEq (peel X E n os [] (den c))))
    (plain : plainId id = true) (entry : entryFor table id = some B) (g : Meets (B args) S)
    (fin : ∀ (A : Around) (R : Result → Shared → Prop) (s : Shared), A.handled = none → PreOk pre s.heap → R (res s.toks s.heap.objs.size) { s with heap := pushAll (news s.heap.objs.size) (applyPre pre s.heap), toks := s.toks + toks } → S A R s) :
    HookOk X ⟨c, pre, res, news, toks⟩ := by
  intro Γ p s R hh G hp hr
  cases hpe : peel X E n os [] (den c) with
  | none => rw [hpe] at run; cases run
  | some x =>
    obtain ⟨c', eqs⟩ := x
    rw [hpe] at run
    simp only [peelSeen, peelEq, Option.some.injEq, Prod.mk.injEq] at run
    obtain ⟨rfl, heq⟩ := run
    obtain ⟨q, z⟩ := peel_sound n os [] _ _ _ hpe (all_of_map heq) (Γ.enter c none p) p s G (hE _ hp)
    have w := code_of_meets (prog := X.prog) (w := X.w) (Γ := (Γ.enter c none p).goto (.builtin id args)) (R := R) (p := q) (s := s) rfl plain entry g fun A hA => fin A R s (hA.trans hh) hp hr
    obtain ⟨r, s', hr', hR⟩ := w
    refine ⟨r, s', ?_, hR⟩
    show Runs (model X.prog X.w) _ p (denote table c) [] s _ _
    rw [den_eq]
    refine z _ _ ?_
    have hr'' : Runs (model X.prog X.w) ((Γ.enter c none p).goto (.builtin id args)) q (denote table (.builtin id args)) [] s (.ret r) s' := hr'
    rw [den_eq] at hr''
    exact hr''
end
end Mine

namespace Mine
noncomputable section
open PySem PySem.W PySem.W.X PySem.Calls PyProof.Rows
theorem meets_append (c : Value) (dd : Option Addr) (l : Addr) (items : Array Value) (n : Nat) (x : Value) (hsz : items.size ≤ sizeLine) :
    Meets (Builtin.«list.append» ⟨[.ref l, x], []⟩) (fun _ R s => s.heap.get? l = some { cls := c, dict := dd, data := .seq items n, slots := #[] } ∧ R (.ok (.ret Value.none)) { s with heap := s.heap.update l (Obj.mapSeq fun x_1 => x_1.push x), toks := s.toks }) :=
  .of_wp fun prog w A R s h => by
    obtain ⟨hp, g, d, tk, os⟩ := s; obtain ⟨hl, h⟩ := h
    have hz' : (items.push x).size ≤ sizeLine + 1 := by rw [Array.size_push]; omega
    wp_walk using (wpAny_updateSeq hl rfl (hz := hsz) (_hz' := hz')); exact ⟨_, rfl, h⟩
noncomputable def hkAppP (j : Nat) (l dd : Nat) (its : List Value) (n : Nat) (x : Value) : Hook :=
  ⟨.call (.builtin "list.append") ⟨[.ref (l+292), x], []⟩, [(j, l+292, pileO (dd+292) its n, some (pileO (dd+292) (its ++ [x]) (n + 1)))], fun _ _ => .ok (.ret .none), fun _ => [], 0⟩
theorem peel_append (w : World) (b1 b2 : Bool) (l dd : Nat) (its : List Value) (n : Nat) (x : Value) : let o := peel (XX w b1 b2 tb []) [⟨l+292, pileO (dd+292) its n, true⟩] 400 [1, 0] [] (den (.call (.builtin "list.append") ⟨[.ref (l+292), x], []⟩))
    peelSeen o = some (.builtin "list.append" ⟨[.ref (l+292), x], []⟩, peelEq o) := by
  cases b1 <;> kernel_rfl
theorem ok_appP {w : World} {b1 b2 : Bool} {hs : List Hook} {j l dd : Nat} {its : List Value} {n : Nat} {x : Value} (hz : its.length ≤ 1000) : HookOk (XX w b1 b2 tb hs) (hkAppP j l dd its n x) := by
  refine hook_xx (hook_peel (E := [⟨l+292, pileO (dd+292) its n, true⟩]) (fun h hp e he => ?_) (peel_append w b1 b2 l dd its n x) (by decide +kernel) F.entry_list_append (meets_append (.ref 253) (some (dd+292)) (l+292) ⟨its⟩ n x (by rw [sizeL]; show its.length ≤ _; omega)) fun A R s hh hp hr => ?_)
  · simp only [List.mem_cons, List.not_mem_nil, or_false] at he
    subst he
    exact hp.1
  · refine ⟨hp.1, ?_⟩
    have e := update_const (f := Obj.mapSeq fun a => a.push x) hp.1
    rw [pileO, mapSeq_push] at e
    show R (.ok (.ret .none)) { s with heap := s.heap.update (l+292) (Obj.mapSeq fun a => a.push x), toks := s.toks }
    rw [e]
    exact hr
noncomputable def hkNextP (ji jl : Nat) (it l : Addr) (dd : Addr) (its : List Value) (n i : Nat) (x : Value) : Hook :=
  ⟨.call (.builtin "list_iterator.__next__") ⟨[.ref it], []⟩, [(jl, l, pileO dd its n, none), (ji, it, iterO l i, some (iterO l (i + 1)))], fun _ _ => .ok (.ret x), fun _ => [], 0⟩
theorem hkNextP_ok {X : Cx} {ji jl : Nat} {it l dd : Addr} {its : List Value} {n i : Nat} {x : Value} (hx : its[i]? = some x) : HookOk X (hkNextP ji jl it l dd its n i x) := by
  refine hook_ok (v := fun _ _ => x) fun A Q E s hh _ hp hq => ?_
  obtain ⟨hl, ho, _⟩ := hp
  have hT : s.TypeIs (.ref it) "list_iterator" := ⟨_, ho, rfl⟩
  refine wpAny_call_entry slot_listiter_next hT entry_listiter_next ?_ (args_listiter_next _)
  show wpAny _ _ (field (.ref it) 0 >>= _) _ _ s
  refine wpAny_bind (wpAny_field ho (vs := #[.ref l, .int i 0]) rfl (x := .ref l) rfl ?_)
  show wpAny _ _ (if (Value.ref l == Value.none) = true then _ else _) _ _ s
  rw [if_neg (show ¬ ((Value.ref l == Value.none) = true) from Bool.false_ne_true)]
  show wpAny _ _ (field (.ref it) 1 >>= _) _ _ s
  refine wpAny_bind (wpAny_field ho (vs := #[.ref l, .int i 0]) rfl (x := .int i 0) rfl ?_)
  show wpAny _ _ (seqItems? (.ref l) >>= _) _ _ s
  refine wpAny_bind (wpAny_seqItems hl (items := ⟨its⟩) rfl ?_)
  have hx' : (⟨its⟩ : Array Value)[i]? = some x := by simpa using hx
  simp only [Int.toNat_natCast, hx']
  refine wpAny_bind (wpAny_setField ho (vs := #[.ref l, .int i 0]) rfl (by simp) (wpAny_pure ⟨x, rfl, ?_⟩))
  rw [update_const ho]
  exact hq
noncomputable def hkEndP (ji jl : Nat) (it l : Addr) (dd : Addr) (its : List Value) (n i : Nat) : Hook :=
  ⟨.call (.builtin "list_iterator.__next__") ⟨[.ref it], []⟩, [(jl, l, pileO dd its n, none), (ji, it, iterO l i, some (iterE i))], fun _ a => .error (.ref (a + 1)), fun a => [tupO [], stopO a], 0⟩
theorem hkEndP_ok {X : Cx} {ji jl : Nat} {it l dd : Addr} {its : List Value} {n i : Nat} (hx : its[i]? = none) : HookOk X (hkEndP ji jl it l dd its n i) := by
  refine hook_err (v := fun _ a => .ref (a + 1)) fun A Q E s hh _ hp hq => ?_
  obtain ⟨hl, ho, _⟩ := hp
  have hT : s.TypeIs (.ref it) "list_iterator" := ⟨_, ho, rfl⟩
  refine wpAny_call_entry slot_listiter_next hT entry_listiter_next ?_ (args_listiter_next _)
  show wpAny _ _ (field (.ref it) 0 >>= _) _ _ s
  refine wpAny_bind (wpAny_field ho (vs := #[.ref l, .int i 0]) rfl (x := .ref l) rfl ?_)
  show wpAny _ _ (if (Value.ref l == Value.none) = true then _ else _) _ _ s
  rw [if_neg (show ¬ ((Value.ref l == Value.none) = true) from Bool.false_ne_true)]
  show wpAny _ _ (field (.ref it) 1 >>= _) _ _ s
  refine wpAny_bind (wpAny_field ho (vs := #[.ref l, .int i 0]) rfl (x := .int i 0) rfl ?_)
  show wpAny _ _ (seqItems? (.ref l) >>= _) _ _ s
  refine wpAny_bind (wpAny_seqItems hl (items := ⟨its⟩) rfl ?_)
  have hx' : (⟨its⟩ : Array Value)[i]? = none := by simpa using hx
  simp only [Int.toNat_natCast, hx']
  refine wpAny_bind (wpAny_rule (wpAny_bind (wpAny_setField ho (vs := #[.ref l, .int i 0]) rfl (by simp) ?_)))
  show wpAny _ _ (newExc (.type "StopIteration") [] >>= _) _ _ _
  refine wpAny_bind ?_
  simp only [newExc, newTuple]
  refine wpAny_bind (wpAny_newObj_type ?_ (by size_fits))
  refine wpAny_bind (m := firstArgMember _ _) (wpAny_of_eq (a := Value.none) (by first | rfl | (simp only [firstArgMember]; rfl)) ?_)
  refine wpAny_newObj_type ?_ (by size_fits)
  simp only [raiseNew]
  refine wpAny_bind (wpAny_handled ?_)
  rw [show A.in1.handled = none from hh]
  refine wpAny_bind (wpAny_pure (wpAny_throw ?_))
  rw [update_const ho]
  have hs : Heap.SameBut it s.heap (s.heap.update it fun _ => iterE i) := Heap.SameBut.update ..
  have e1 : (s.heap.update it fun _ => iterE i).objs.size = s.heap.objs.size := hs.1
  have e2 : ((s.heap.update it fun _ => iterE i).push (tupO [])).objs.size = s.heap.objs.size + 1 := by rw [Heap.size_push, e1]
  simp only [pushAll, applyPre] at hq
  show E (.ref ((s.heap.update it fun _ => iterE i).push (tupO [])).objs.size) _
  rw [e2]
  have e3 : s.heap.objs.size = (s.heap.update it fun _ => iterE i).objs.size := e1.symm
  rw [e3] at hq
  rw [e3]
  exact hq
end
end Mine

namespace Mine
noncomputable section
open PySem PySem.W PySem.W.X PySem.Calls PyProof.Rows
theorem size_setGen (s : Shared) (g : Nat) (x : GenState) : (s.setGen g x).heap = s.heap := rfl
theorem runs_size {M : Model} {Γ : Ctx} {p : Pos} {t : Sem Fin} {fs : List Frame} {s s' : Shared} {e : End} (h : Runs M Γ p t fs s e s') : s.heap.objs.size ≤ s'.heap.objs.size := by
  induction h with
  | update _ _ ih => exact Nat.le_trans (Nat.le_of_eq (show _ = _ from ((Heap.SameBut.update ..).1).symm)) ih
  | alloc _ ih => exact Nat.le_trans (by show _ ≤ (Heap.push _ _).objs.size; rw [Heap.size_push]; exact Nat.le_succ _) ih
  | done => exact Nat.le_refl _
  | raise => exact Nat.le_refl _
  | yield => exact Nat.le_refl _
  | _ => first | assumption | (simp only [size_setGen] at *; omega) | (exact Nat.le_trans (by assumption) (by assumption)) | trace_state
theorem call_keep {prog : Program} {w : World} {f : Value} {pos : List Value} {V : Value → Prop} {Γ : PySem.Ctx} {R : Result → Shared → Prop} {p : Pos} {h : Heap} {gl : Array GenState} {d : Drawn} {T : Nat} {ox : OsState}
    (H : wpAny (model prog w) (aroundOf Γ) (call f pos) (fun v s' => ∃ h' tk, s' = ⟨h', gl, d, tk, ox⟩ ∧ (∀ b o, h.get? b = some o → h'.get? b = some o) ∧ V v) (fun _ _ => False) ⟨h, gl, d, T, ox⟩)
    (K : ∀ h' T' v, Ext [] h h' → V v → R (.ok (.ret v)) ⟨h', gl, d, T', ox⟩) : wpCode (model prog w) (Γ.enter (.call f ⟨pos, []⟩) none p) R p ⟨h, gl, d, T, ox⟩ := by
  obtain ⟨r, s', hr, hq⟩ := code_of_call (p := p) (R := fun r s' => match r with | .ok (.ret v) => ∃ h' tk, s' = ⟨h', gl, d, tk, ox⟩ ∧ (∀ b o, h.get? b = some o → h'.get? b = some o) ∧ V v | _ => False) H
  have hsz := runs_size hr
  cases r with
  | error e => exact hq.elim
  | ok f =>
    cases f with
    | ret v =>
      obtain ⟨h', tk, rfl, hk, hv⟩ := hq
      exact ⟨_, _, hr, K h' tk v ⟨fun b o e _ => hk b o e, hsz⟩ hv⟩
    | next => exact hq.elim
    | brk => exact hq.elim
    | cont => exact hq.elim
noncomputable def IntV (v : Value) (n : Int) : Prop := ∃ t, v = .int n t
theorem ints_items : ∀ {vs : List Value} {ns : List Int}, All2 IntV vs ns → ∃ l : List (Int × Tok), vs = l.map (fun p => Value.int p.1 p.2) ∧ l.map (·.1) = ns
  | [], [], _ => ⟨[], rfl, rfl⟩
  | v :: vs, n :: ns, q => by
    obtain ⟨l, e1, e2⟩ := ints_items q.2
    obtain ⟨t, rfl⟩ := q.1
    exact ⟨(n, t) :: l, by rw [e1]; rfl, by rw [← e2]; rfl⟩
  | [], _ :: _, q => q.elim
  | _ :: _, [], q => q.elim
theorem isList_of {h : Heap} {l : Addr} {its : List Value} {n : Nat} (f : h.get? l = some (listO its n)) : h.IsList l ⟨its⟩ := ⟨_, f, rfl, n, rfl⟩
theorem sum_call {prog : Program} {w : World} {c : Code} {b : List (Code × Pos)} {R : Result → Shared → Prop} {p : Pos} {h : Heap} {gl : Array GenState} {d : Drawn} {T : Nat} {ox : OsState} {l : Addr} {vs : List Value} {n : Nat} {ns : List Int}
    (f : h.get? l = some (listO vs n)) (hv : All2 IntV vs ns) (K : ∀ h' T' t, Ext [] h h' → R (.ok (.ret (.int ns.sum t))) ⟨h', gl, d, T', ox⟩) :
    wpCode (model prog w) (ctxIn (.call (.builtin "sum") ⟨[.ref l], []⟩) ((c, p) :: b)) R p ⟨h, gl, d, T, ox⟩ := by
  obtain ⟨xs, rfl, rfl⟩ := ints_items hv
  refine call_keep (Γ := ctxIn c b) (V := fun v => ∃ t, v = .int (xs.map (·.1)).sum t) (sum_intListG (xs := ⟨xs⟩) rfl (by have z := isList_of f; rw [show (⟨xs.map fun p => Value.int p.1 p.2⟩ : Array Value) = intItems ⟨xs⟩ by simp [intItems]] at z; exact z) fun h' tk t' hk => ⟨h', tk, rfl, hk, t', ?_⟩) ?_
  · rw [preSum_eq, List.take_of_length_le (by simp)]
  · rintro h' T' v E ⟨t, rfl⟩; exact K h' T' t E
theorem max_call {prog : Program} {w : World} {c : Code} {b : List (Code × Pos)} {R : Result → Shared → Prop} {p : Pos} {h : Heap} {gl : Array GenState} {d : Drawn} {T : Nat} {ox : OsState} {l : Addr} {vs : List Value} {n : Nat} {ns : List Int}
    (f : h.get? l = some (listO vs n)) (hv : All2 IntV vs ns) (hne : ns ≠ []) (K : ∀ h' T' t M, Ext [] h h' → M ∈ ns → (∀ a ∈ ns, a ≤ M) → R (.ok (.ret (.int M t))) ⟨h', gl, d, T', ox⟩) :
    wpCode (model prog w) (ctxIn (.call (.builtin "max") ⟨[.ref l], []⟩) ((c, p) :: b)) R p ⟨h, gl, d, T, ox⟩ := by
  obtain ⟨xs, rfl, rfl⟩ := ints_items hv
  have hpos : 0 < (⟨xs⟩ : Array (Int × Tok)).size := by
    cases xs with
    | nil => exact absurd rfl hne
    | cons a r => simp
  refine call_keep (Γ := ctxIn c b) (V := fun v => ∃ t M, v = .int M t ∧ M ∈ xs.map (·.1) ∧ ∀ a ∈ xs.map (·.1), a ≤ M) (max_intList (xs := ⟨xs⟩) rfl (by have z := isList_of f; rw [show (⟨xs.map fun p => Value.int p.1 p.2⟩ : Array Value) = intItems ⟨xs⟩ by simp [intItems]] at z; exact z) hpos fun v h' tk hvv hk => ⟨h', tk, rfl, hk, ?_⟩) ?_
  · obtain ⟨t, rfl⟩ := intItems_at hvv
    obtain ⟨h1, h2⟩ := argBest_gt (numAt ⟨xs⟩) ((⟨xs⟩ : Array (Int × Tok)).size - 1)
    refine ⟨t, _, rfl, ?_, fun a ha => ?_⟩
    · rw [numAt_eq]; exact getD_mem (by rw [List.length_map]; show _ < (⟨xs⟩ : Array (Int × Tok)).size; omega)
    · obtain ⟨j, hj, rfl⟩ := mem_getD ha
      rw [List.length_map] at hj
      have := h2 j (by show j ≤ xs.length - 1; omega)
      rw [numAt_eq] at this
      exact this
  · rintro h' T' v E ⟨t, M, rfl, h1, h2⟩; exact K h' T' t M E h1 h2
noncomputable def StrV (v : Value) (x : Str) : Prop := ∃ t, v = .str x t
theorem strs_are : ∀ {vs : List Value} {xs : List Str}, All2 StrV vs xs → StrsAre vs xs
  | [], [], _ => .nil
  | _ :: _, _ :: _, q => by
    obtain ⟨t, rfl⟩ := q.1
    exact .cons _ t (strs_are q.2)
  | [], _ :: _, q => q.elim
  | _ :: _, [], q => q.elim
theorem join_call {prog : Program} {w : World} {c : Code} {b : List (Code × Pos)} {R : Result → Shared → Prop} {p : Pos} {h : Heap} {gl : Array GenState} {d : Drawn} {T : Nat} {ox : OsState} {l : Addr} {vs : List Value} {n : Nat} {xs : List Str} {x : Str} {tx : Tok}
    (f : h.get? l = some (listO vs n)) (hv : All2 StrV vs xs) (hok : (xs.map (·.length)).sum + xs.length * x.length ≤ 16777216) (K : ∀ h' T' t, Ext [] h h' → R (.ok (.ret (.str (Txt.join x xs) t))) ⟨h', gl, d, T', ox⟩) :
    wpCode (model prog w) (ctxIn (.call (.builtin "str.join") ⟨[.str x tx, .ref l], []⟩) ((c, p) :: b)) R p ⟨h, gl, d, T, ox⟩ := by
  refine call_keep (Γ := ctxIn c b) (V := fun v => ∃ t, v = .str (Txt.join x xs) t) (join_list (isList_of f) (strs_are hv) hok fun t' k => ⟨h, k, rfl, fun _ _ e => e, t', rfl⟩) ?_
  rintro h' T' v E ⟨t, rfl⟩; exact K h' T' t E
end
end Mine

namespace Mine
noncomputable section
open PySem PySem.W PySem.W.X
noncomputable def spLoop (w : World) (it L : Addr) : Code := forCode w 276 1 it L
noncomputable def spBelow (w : World) (L0 L : Addr) (p0 p1 : Pos) : List (Code × Pos) := (fcode w 276 L, p1) :: belowLaw w L0 p0
noncomputable def stSp (w : World) (L0 L it l sp tp : Nat) (p0 p1 p : Pos) (its : List Value) (n i : Nat) (rs : List Value) (nr : Nat) (es : List DictEntry) (ne : Nat) (P Q R S : Int) (t1 t2 t3 t4 : Tok) (N T : Nat) : St :=
  begin (ctxIn (spLoop w it L) (spBelow w L0 L p0 p1)) p [⟨it, iterO l i, true⟩, ⟨L, frameO es ne, true⟩, ⟨sp, listO rs nr, true⟩, ⟨l, listO its n, false⟩, ⟨tp, tupO [.int P t1, .int Q t2, .int R t3, .int S t4], false⟩] [] N T
noncomputable def spOps (x : Nat) (P Q R S : Int) (t1 t2 t3 t4 : Tok) (T : Nat) : List Hook := match x with
  | 1 => [hkInt "int.__mul__" [.int 2 (T + 8), .int P t1] (2 * P), hkInt "int.__add__" [.int Q t2, .int (2 * P) (T + 9)] (Q + 2 * P), hkInt "int.__mul__" [.int 2 (T + 11), .int R t3] (2 * R), hkInt "int.__add__" [.int S t4, .int (2 * R) (T + 12)] (S + 2 * R)]
  | 3 => [hkInt "int.__mul__" [.int 2 (T + 9), .int P t1] (2 * P), hkInt "int.__sub__" [.int Q t2, .int (2 * P) (T + 10)] (Q - 2 * P), hkInt "int.__mul__" [.int 2 (T + 12), .int R t3] (2 * R), hkInt "int.__sub__" [.int S t4, .int (2 * R) (T + 13)] (S - 2 * R)]
  | 2 => [hkInt "int.__mul__" [.int 2 (T + 10), .int Q t2] (2 * Q), hkInt "int.__add__" [.int P t1, .int (2 * Q) (T + 11)] (P + 2 * Q), hkInt "int.__mul__" [.int 2 (T + 13), .int S t4] (2 * S), hkInt "int.__add__" [.int R t3, .int (2 * S) (T + 14)] (R + 2 * S)]
  | _ => [hkInt "int.__mul__" [.int 2 (T + 10), .int Q t2] (2 * Q), hkInt "int.__sub__" [.int P t1, .int (2 * Q) (T + 11)] (P - 2 * Q), hkInt "int.__mul__" [.int 2 (T + 13), .int S t4] (2 * S), hkInt "int.__sub__" [.int R t3, .int (2 * S) (T + 14)] (R - 2 * S)]
noncomputable def spTok (x : Nat) (t1 t2 t3 t4 : Tok) (T : Nat) : Tok × Tok × Tok × Tok := match x with
  | 1 => (t1, T + 10, t3, T + 13)
  | 3 => (t1, T + 11, t3, T + 14)
  | _ => (T + 12, t2, T + 15, t4)
noncomputable def spOr (x : Nat) : List Nat := match x with
  | 1 => [1, 1, 2, 2, 2, 0, 0, 3, 3, 3, 2, 5, 5, 5, 0, 5, 0, 1, 1, 0, 1, 0, 1, 1, 6, 1, 1, 1, 0, 1, 0, 1, 1, 6, 1, 1, 1, 0, 1, 0, 1, 1, 6, 1, 1, 1, 0, 1, 0, 1, 1, 6, 1, 1, 1, 0, 1, 0, 1, 1, 6, 1, 1, 1, 5, 5, 5, 5, 5, 5, 5, 5, 5, 0, 0, 5, 6, 6, 6, 6, 5, 5, 5, 3, 4, 5, 5, 5, 5, 6, 7]
  | 3 => [1, 1, 2, 2, 2, 0, 0, 3, 3, 3, 2, 5, 5, 5, 0, 5, 0, 1, 1, 0, 1, 0, 1, 1, 6, 1, 1, 1, 0, 1, 0, 1, 1, 6, 1, 1, 1, 0, 1, 0, 1, 1, 6, 1, 1, 1, 0, 1, 0, 1, 1, 6, 1, 1, 1, 0, 1, 0, 1, 1, 6, 1, 1, 1, 5, 5, 5, 5, 5, 5, 5, 5, 5, 0, 0, 5, 0, 0, 5, 6, 6, 6, 6, 5, 5, 5, 3, 4, 5, 5, 5, 5, 6, 7]
  | _ => [1, 1, 2, 2, 2, 0, 0, 3, 3, 3, 2, 5, 5, 5, 0, 5, 0, 1, 1, 0, 1, 0, 1, 1, 6, 1, 1, 1, 0, 1, 0, 1, 1, 6, 1, 1, 1, 0, 1, 0, 1, 1, 6, 1, 1, 1, 0, 1, 0, 1, 1, 6, 1, 1, 1, 0, 1, 0, 1, 1, 6, 1, 1, 1, 5, 5, 5, 5, 5, 5, 5, 5, 5, 0, 0, 5, 0, 0, 5, 0, 0, 5, 6, 6, 6, 6, 5, 5, 3, 4, 5, 5, 5, 5, 6, 5, 7]
noncomputable def xSp (w : World) (b1 b2 : Bool) (it l sp tp : Addr) (its : List Value) (n i x : Nat) (tx : Tok) (rs : List Value) (nr : Nat) (P Q R S : Int) (t1 t2 t3 t4 : Tok) (N T : Nat) : Cx :=
  XX w b1 b2 tb (hkNext 0 3 it l its n i (.str (lt4 x) tx) :: hkItem 2 sp rs nr (-1) (T + 2) (.ref tp) :: spOps x P Q R S t1 t2 t3 t4 T ++ [hkApp 6 sp rs nr (.ref (N + 295))])
noncomputable def vSp (env : List Ent) := (nth env 0, nth env 4, shape (nth env 5), nth env 6)
noncomputable def spFr (l sp : Addr) : List (Option Str × Value) := [(some (nm "word"), .ref l), (some (nm "spots"), .ref sp)]
noncomputable def spKv (l sp : Addr) (v3 v4 v5 v6 v7 : Value) : List (Option Str × Value) := [(some (nm "word"), .ref l), (some (nm "spots"), .ref sp), (some (nm "sign"), v3), (some (nm "p"), v4), (some (nm "q"), v5), (some (nm "r"), v6), (some (nm "s"), v7)]
noncomputable def m4 (m : M4) (t : Tok × Tok × Tok × Tok) : Obj := tupO [.int m.1 t.1, .int m.2.1 t.2.1, .int m.2.2.1 t.2.2.1, .int m.2.2.2 t.2.2.2]

theorem spots_run0 (w : World) (b1 b2 : Bool) (L0 L it l sp tp : Nat) (p0 p1 p : Pos) (its : List Value) (n i x : Nat) (tx : Tok) (rs : List Value) (nr : Nat) (h1 h2 : Int) (k1 k2 : Tok) (ne : Nat) (P Q R S : Int) (t1 t2 t3 t4 : Tok) (N T : Nat) (hx : x = 0 ∨ x = 1 ∨ x = 2 ∨ x = 3) :
    let o := run (xSp w b1 b2 (it+292) (l+292) (sp+292) (tp+292) its n i x tx rs nr P Q R S t1 t2 t3 t4 N T) (spOr x) (stSp w (L0+292) (L+292) (it+292) (l+292) (sp+292) (tp+292) p0 p1 p its n i rs nr [⟨h1, .str (nm "word") k1, .ref (l+292)⟩, ⟨h2, .str (nm "spots") k2, .ref (sp+292)⟩] ne P Q R S t1 t2 t3 t4 N T)
    seen vSp o = some (toldA o, toldC o, toldO o, .again (spLoop w (it+292) (L+292)), ctxIn (spLoop w (it+292) (L+292)) (spBelow w (L0+292) (L+292) p0 p1),
      (some ⟨N + 295, m4 (mv x (P, Q, R, S)) (spTok x t1 t2 t3 t4 T), true⟩, some ⟨it+292, iterO (l+292) (i + 1), true⟩, some (L+292, some (.type "frame", none, #[], spKv (l+292) (sp+292) (.str (lt4 x) tx) (.int P t1) (.int Q t2) (.int R t3) (.int S t4))),
        some ⟨sp+292, listO (rs ++ [.ref (N + 295)]) (nr + 1), true⟩), [], 4, (match x with | 1 => 14 | 3 => 15 | _ => 16), true) := by
  rcases hx with rfl | rfl | rfl | rfl <;> cases b1 <;> kernel_rfl
theorem spots_run1 (w : World) (b1 b2 : Bool) (L0 L it l sp tp : Nat) (p0 p1 p : Pos) (its : List Value) (n i x : Nat) (tx : Tok) (rs : List Value) (nr : Nat) (h1 h2 h3 h4 h5 h6 h7 : Int) (k1 k2 k3 k4 k5 k6 k7 : Tok) (v3 v4 v5 v6 v7 : Value) (ne : Nat) (P Q R S : Int) (t1 t2 t3 t4 : Tok) (N T : Nat) (hx : x = 0 ∨ x = 1 ∨ x = 2 ∨ x = 3) :
    let o := run (xSp w b1 b2 (it+292) (l+292) (sp+292) (tp+292) its n i x tx rs nr P Q R S t1 t2 t3 t4 N T) (spOr x) (stSp w (L0+292) (L+292) (it+292) (l+292) (sp+292) (tp+292) p0 p1 p its n i rs nr [⟨h1, .str (nm "word") k1, .ref (l+292)⟩, ⟨h2, .str (nm "spots") k2, .ref (sp+292)⟩, ⟨h3, .str (nm "sign") k3, v3⟩, ⟨h4, .str (nm "p") k4, v4⟩, ⟨h5, .str (nm "q") k5, v5⟩, ⟨h6, .str (nm "r") k6, v6⟩, ⟨h7, .str (nm "s") k7, v7⟩] ne P Q R S t1 t2 t3 t4 N T)
    seen vSp o = some (toldA o, toldC o, toldO o, .again (spLoop w (it+292) (L+292)), ctxIn (spLoop w (it+292) (L+292)) (spBelow w (L0+292) (L+292) p0 p1),
      (some ⟨N + 295, m4 (mv x (P, Q, R, S)) (spTok x t1 t2 t3 t4 T), true⟩, some ⟨it+292, iterO (l+292) (i + 1), true⟩, some (L+292, some (.type "frame", none, #[], spKv (l+292) (sp+292) (.str (lt4 x) tx) (.int P t1) (.int Q t2) (.int R t3) (.int S t4))),
        some ⟨sp+292, listO (rs ++ [.ref (N + 295)]) (nr + 1), true⟩), [], 4, (match x with | 1 => 14 | 3 => 15 | _ => 16), true) := by
  rcases hx with rfl | rfl | rfl | rfl <;> cases b1 <;> kernel_rfl
end
end Mine

namespace Mine
noncomputable section
open PySem PySem.W PySem.W.X
noncomputable def stSp0 (w : World) (L0 a : Nat) (p0 p : Pos) (its : List Value) (n N T : Nat) : St :=
  begin (ctxIn (.call (.ref 276) ⟨[.ref a], []⟩) (belowLaw w L0 p0)) p [⟨a, listO its n, false⟩] [] N T
noncomputable def rSp0 (w : World) (b1 b2 : Bool) (L0 a : Nat) (p0 p : Pos) (its : List Value) (n N T : Nat) : Option St :=
  run (XX w b1 b2 tb []) [0, 0, 1, 1, 0, 0, 3, 3, 3, 4, 4, 0, 4, 0, 1] (stSp0 w L0 a p0 p its n N T)
theorem spots_seg0 (w : World) (b1 b2 : Bool) (L0 a : Nat) (p0 p : Pos) (its : List Value) (n N T : Nat) :
    let o := rSp0 w b1 b2 (L0+292) (a+292) p0 p its n N T
    seen (fun env => (nth env 0, nth env 1, nth env 2, shape (nth env 3))) o = some (toldA o, toldC o, toldO o, .call (spLoop w (N + 295) (N + 292)), ctxIn (spLoop w (N + 295) (N + 292)) (spBelow w (L0+292) (N + 292) p0 (posO o)),
      (some ⟨N + 295, iterO (a+292) 0, true⟩, some ⟨N + 294, listO [.ref (N + 293)] 0, true⟩, some ⟨N + 293, m4 (1, 0, 0, 1) (T + 1, T + 2, T + 3, T + 4), true⟩, some (N + 292, some (.type "frame", none, #[], spFr (a+292) (N + 294)))), [], toldM o, toldI o, true) := by
  cases b1 <;> kernel_rfl
theorem spots_end (w : World) (b1 b2 : Bool) (L0 L it l sp : Nat) (p0 p1 p : Pos) (its : List Value) (n i : Nat) (rs : List Value) (nr : Nat) (es : List DictEntry) (ne N T : Nat) :
    let o := run (XX w b1 b2 tb [hkEnd 0 3 it l its n i]) [1, 1, 1, 0] (begin (ctxIn (spLoop w it L) (spBelow w L0 L p0 p1)) p [⟨it, iterO l i, true⟩, ⟨L, frameO es ne, true⟩, ⟨sp, listO rs nr, true⟩, ⟨l, listO its n, false⟩] [] N T)
    seen (fun env => (nth env 3, nth env 4)) o = some (toldA o, toldC o, toldO o, .done .next, ctxIn (.block [] (cenv w 276 L)) (spBelow w L0 L p0 p1), (some ⟨L, frameO es ne, true⟩, some ⟨sp, listO rs nr, true⟩), [], toldM o, toldI o, true) := by
  kernel_rfl
noncomputable def stSp2 (w : World) (b1 b2 : Bool) (L0 a : Nat) (p0 p : Pos) (its : List Value) (n N T : Nat) (es : List DictEntry) (ne : Nat) (rs : List Value) (nr : Nat) (N' T' : Nat) : St :=
  resumeO (rSp0 w b1 b2 L0 a p0 p its n N T) (.ok .next) [⟨N + 292, frameO es ne, true⟩, ⟨N + 294, listO rs nr, true⟩] [] N' T'
theorem spots_seg2 (w : World) (b1 b2 : Bool) (L0 a : Nat) (p0 p : Pos) (its : List Value) (n N T : Nat) (h1 h2 h3 h4 h5 h6 h7 : Int) (k1 k2 k3 k4 k5 k6 k7 : Tok) (v3 v4 v5 v6 v7 : Value) (ne : Nat) (rs : List Value) (nr : Nat) (N' T' : Nat) :
    let o := run (XX w b1 b2 tb []) [1] (stSp2 w b1 b2 (L0+292) (a+292) p0 p its n N T [⟨h1, .str (nm "word") k1, .ref (a+292)⟩, ⟨h2, .str (nm "spots") k2, .ref (N + 294)⟩, ⟨h3, .str (nm "sign") k3, v3⟩, ⟨h4, .str (nm "p") k4, v4⟩, ⟨h5, .str (nm "q") k5, v5⟩, ⟨h6, .str (nm "r") k6, v6⟩, ⟨h7, .str (nm "s") k7, v7⟩] ne rs nr N' T')
    seen (fun env => nth env 1) o = some (toldA o, toldC o, toldO o, .done (.ret (.ref (N + 294))), ctxIn (fcode w 276 (N + 292)) (belowLaw w (L0+292) p0), some ⟨N + 294, listO rs nr, true⟩, [], toldM o, toldI o, true) := by
  cases b1 <;> kernel_rfl
end
end Mine
namespace Mine
noncomputable section
open PySem PySem.W PySem.W.X
theorem SpotV.ext {own : List Addr} {h h' : Heap} {v : Value} {m : M4} (x : Ext own h h') (hown : ∀ c ∈ own, ∀ vs, h.get? c ≠ some (tupO vs)) (q : SpotV h v m) : SpotV h' v m := by
  obtain ⟨a, t1, t2, t3, t4, e, ha, hg⟩ := q
  exact ⟨a, t1, t2, t3, t4, e, ha, x.keepT hg fun c hc => hown c hc _⟩
theorem spOps_ok {X : Cx} {x : Nat} {P Q R S : Int} {t1 t2 t3 t4 : Tok} {T : Nat} (hx : x = 0 ∨ x = 1 ∨ x = 2 ∨ x = 3) {l : List Hook} (hl : AllOk X l) : AllOk X (spOps x P Q R S t1 t2 t3 t4 T ++ l) := by
  have two : Builtin.Int.intBits 2 ≤ 64 := by decide
  rcases hx with rfl | rfl | rfl | rfl
  · exact ⟨ok_mul (.of_left two), ok_sub, ok_mul (.of_left two), ok_sub, hl⟩
  · exact ⟨ok_mul (.of_left two), ok_add, ok_mul (.of_left two), ok_add, hl⟩
  · exact ⟨ok_mul (.of_left two), ok_add, ok_mul (.of_left two), ok_add, hl⟩
  · exact ⟨ok_mul (.of_left two), ok_sub, ok_mul (.of_left two), ok_sub, hl⟩
theorem not_tup {h : Heap} {c : Addr} {o : Obj} (hg : h.get? c = some o) (hk : kindOf o ≠ "tuple") : ∀ vs, h.get? c ≠ some (tupO vs) := fun vs e => by
  rw [hg] at e
  exact hk (congrArg kindOf (Option.some.inj e))

noncomputable def SpI (h0 : Heap) (it L sp l : Addr) (ws : List Nat) (i : Nat) (h : Heap) : Prop :=
  Ext [it, L, sp] h0 h ∧ h.get? it = some (iterO l i) ∧ (∃ es ne, h.get? L = some (frameO es ne) ∧ ((i = 0 ∧ kvs es = spFr l sp) ∨ (0 < i ∧ ∃ v3 v4 v5 v6 v7, kvs es = spKv l sp v3 v4 v5 v6 v7))) ∧
    ∃ rs nr, h.get? sp = some (listO rs nr) ∧ All2 (SpotV h) rs (spotsTo ws i)
theorem spFr_of {l sp : Addr} {es : List DictEntry} (h : kvs es = spFr l sp) : ∃ h1 h2 k1 k2, es = [⟨h1, .str (nm "word") k1, .ref l⟩, ⟨h2, .str (nm "spots") k2, .ref sp⟩] := by
  obtain ⟨h, k, e⟩ := mkK_of (l := [(nm "word", .ref l), (nm "spots", .ref sp)]) 0 h
  exact ⟨h 0, h 1, k 0, k 1, e⟩
theorem spKv_of {l sp : Addr} {v3 v4 v5 v6 v7 : Value} {es : List DictEntry} (h : kvs es = spKv l sp v3 v4 v5 v6 v7) : ∃ h1 h2 h3 h4 h5 h6 h7 k1 k2 k3 k4 k5 k6 k7, es = [⟨h1, .str (nm "word") k1, .ref l⟩, ⟨h2, .str (nm "spots") k2, .ref sp⟩, ⟨h3, .str (nm "sign") k3, v3⟩, ⟨h4, .str (nm "p") k4, v4⟩, ⟨h5, .str (nm "q") k5, v5⟩, ⟨h6, .str (nm "r") k6, v6⟩, ⟨h7, .str (nm "s") k7, v7⟩] := by
  obtain ⟨h, k, e⟩ := mkK_of (l := [(nm "word", .ref l), (nm "spots", .ref sp), (nm "sign", v3), (nm "p", v4), (nm "q", v5), (nm "r", v6), (nm "s", v7)]) 0 h
  exact ⟨h 0, h 1, h 2, h 3, h 4, h 5, h 6, k 0, k 1, k 2, k 3, k 4, k 5, k 6, e⟩
theorem spots_loop (w : World) (b1 b2 : Bool) (L0 L it l sp : Nat) (p0 p1 : Pos) (its : List Value) (n : Nat) (ws : List Nat) (d : Drawn) (ox : OsState) (R : Result → Shared → Prop) (h0 : Heap) (hsl : sp ≠ l)
    (hw : All2 SignV its ws) (hz : its.length ≤ 63) (hn : 0 < its.length) (G : Glob (XX w b1 b2 tb []) h0) (fl : h0.get? (l+292) = some (listO its n)) (hls : l+292 ∉ [it+292, L+292, sp+292])
    (K : ∀ h T es ne, Ext [it+292, L+292, sp+292] h0 h → (∃ v3 v4 v5 v6 v7, kvs es = spKv (l+292) (sp+292) v3 v4 v5 v6 v7) → h.get? (L+292) = some (frameO es ne) → (∃ rs nr, h.get? (sp+292) = some (listO rs nr) ∧ All2 (SpotV h) rs (spotsTo ws its.length)) → R (.ok .next) ⟨h, ⟨[]⟩, d, T, ox⟩)
    {p : Pos} {T : Nat} {h : Heap} (H : SpI h0 (it+292) (L+292) (sp+292) (l+292) ws 0 h) :
    wpCode (model PySem.Challenge.pw_pe0217_01 (setW w b1 b2)) (ctxIn (spLoop w (it+292) (L+292)) (spBelow w (L0+292) (L+292) p0 p1)) R p ⟨h, ⟨[]⟩, d, T, ox⟩ := by
  have hil : ∀ c ∈ [it+292, L+292, sp+292], 292 ≤ c ∨ c ∈ (XX w b1 b2 tb []).tabs := by intro c hc; left; simp only [List.mem_cons, List.not_mem_nil, or_false] at hc; rcases hc with rfl | rfl | rfl <;> exact Nat.le_add_left _ _
  refine loop0 (SpI h0 (it+292) (L+292) (sp+292) (l+292) ws) its.length H ?_ ?_
  · rintro i hi p T h ⟨E, fit, ⟨es, ne, fL, hes⟩, rs, nr, fsp, hrs⟩ K'
    have G' := E.glob (X := XX w b1 b2 tb []) hil G
    have fl' := E.keep _ _ fl hls
    obtain ⟨N, hN⟩ := le_size fit (Nat.le_add_left _ _)
    have hws : ws.length = its.length := hw.length.symm
    obtain ⟨x, hx⟩ : ∃ x, ws[i]? = some x := ⟨ws[i], List.getElem?_eq_getElem (by omega)⟩
    obtain ⟨v, hv, tx, rfl, hx4⟩ := hw.get i hx
    obtain ⟨l0, el⟩ := spotsTo_last ws i
    have hrs0 := hrs
    rw [el] at hrs0
    obtain ⟨rs0, v, ers, hrs1, tp, t1, t2, t3, t4, rfl, htp, ftp⟩ := hrs0.last
    obtain ⟨tp', rfl⟩ : ∃ tp', tp = tp' + 292 := ⟨tp - 292, (Nat.sub_add_cancel htp).symm⟩
    have hlen : rs.length = i + 1 := by rw [hrs.length, spotsTo_len]
    generalize hm : spot (ws.take i) = m at ftp
    obtain ⟨P, Q, R', S⟩ := m
    have hooks : AllOk (xSp w b1 b2 (it+292) (l+292) (sp+292) (tp'+292) its n i x tx rs nr P Q R' S t1 t2 t3 t4 N T) (xSp w b1 b2 (it+292) (l+292) (sp+292) (tp'+292) its n i x tx rs nr P Q R' S t1 t2 t3 t4 N T).hooks :=
      ⟨hkNext_ok hv, by rw [ers]; exact ok_last, spOps_ok hx4 ⟨ok_app (by rw [sizeL]; omega), trivial⟩⟩
    have D : ∀ es, h.get? (L+292) = some (frameO es ne) → On (xSp w b1 b2 (it+292) (l+292) (sp+292) (tp'+292) its n i x tx rs nr P Q R' S t1 t2 t3 t4 N T) (stSp w (L0+292) (L+292) (it+292) (l+292) (sp+292) (tp'+292) p0 p1 p its n i rs nr es ne P Q R' S t1 t2 t3 t4 N T) h := fun es fL =>
      on_dif hN G' ⟨fit, fL, fsp, fl', ftp, trivial⟩ (by ktd_rel) (by kt_len)
    have step : ∀ h' T' p', Ext [it+292, L+292, sp+292] h h' →
        h'.get? (N + 295) = some (m4 (mv x (P, Q, R', S)) (spTok x t1 t2 t3 t4 T)) → h'.get? (it+292) = some (iterO (l+292) (i + 1)) → (∃ es' ne', h'.get? (L+292) = some (frameO es' ne') ∧ kvs es' = spKv (l+292) (sp+292) (.str (lt4 x) tx) (.int P t1) (.int Q t2) (.int R' t3) (.int S t4)) →
        h'.get? (sp+292) = some (listO (rs ++ [.ref (N + 295)]) (nr + 1)) → wpCode (model PySem.Challenge.pw_pe0217_01 (setW w b1 b2)) (ctxIn (spLoop w (it+292) (L+292)) (spBelow w (L0+292) (L+292) p0 p1)) R p' ⟨h', ⟨[]⟩, d, T', ox⟩ := by
      rintro h' T' p' E' g0 g4 ⟨es', ne', g5, hkv⟩ g6
      refine K' p' T' h' ⟨E.trans2 E', g4, ⟨es', ne', g5, .inr ⟨by omega, _, _, _, _, _, hkv⟩⟩, _, _, g6, ?_⟩
      rw [spotsTo_succ, spot_succ hx, hm]
      refine All2.snoc (hrs.mono fun v m q => q.ext E' fun c hc => ?_) ⟨N + 295, _, _, _, _, rfl, Nat.le_trans (by decide) (Nat.le_add_left _ _), g0⟩
      simp only [List.mem_cons, List.not_mem_nil, or_false] at hc
      rcases hc with rfl | rfl | rfl
      · exact not_tup fit (by simp [kindOf, iterO])
      · exact not_tup fL (by simp [kindOf, frameO])
      · exact not_tup fsp (by simp [kindOf, listO])
    rcases hes with ⟨hi0, hk⟩ | ⟨hi0, v3, v4, v5, v6, v7, hk⟩
    · obtain ⟨h1, h2, k1, k2, e⟩ := spFr_of hk
      rw [e] at fL
      refine code_of_means (N := N) (means_of_loop (spots_run0 w b1 b2 L0 L it l sp tp' p0 p1 p its n i x tx rs nr h1 h2 k1 k2 ne P Q R' S t1 t2 t3 t4 N T hx4) hooks (D _ fL) rfl fun h' T' p' st' hV D' E' => ?_)
      obtain ⟨q0, q4, q5, q6⟩ := pr4 hV
      obtain ⟨es', n', own', e3, hkv⟩ := shape_ok q5
      exact step h' T' p' E' (D'.at q0) (D'.at q4) ⟨es', n', D'.at e3, hkv⟩ (D'.at q6)
    · obtain ⟨h1, h2, h3, h4, h5, h6, h7, k1, k2, k3, k4, k5, k6, k7, e⟩ := spKv_of hk
      rw [e] at fL
      refine code_of_means (N := N) (means_of_loop (spots_run1 w b1 b2 L0 L it l sp tp' p0 p1 p its n i x tx rs nr h1 h2 h3 h4 h5 h6 h7 k1 k2 k3 k4 k5 k6 k7 v3 v4 v5 v6 v7 ne P Q R' S t1 t2 t3 t4 N T hx4) hooks (D _ fL) rfl fun h' T' p' st' hV D' E' => ?_)
      obtain ⟨q0, q4, q5, q6⟩ := pr4 hV
      obtain ⟨es', n', own', e3, hkv⟩ := shape_ok q5
      exact step h' T' p' E' (D'.at q0) (D'.at q4) ⟨es', n', D'.at e3, hkv⟩ (D'.at q6)
  · rintro p T h ⟨E, fit, ⟨es, ne, fL, hes⟩, rs, nr, fsp, hrs⟩
    have G' := E.glob (X := XX w b1 b2 tb []) hil G
    have fl' := E.keep _ _ fl hls
    obtain ⟨N, hN⟩ := le_size fit (Nat.le_add_left _ _)
    refine code_done (X0 := XX w b1 b2 tb []) (X := XX w b1 b2 tb [hkEnd 0 3 (it+292) (l+292) its n its.length]) (N := N) (spots_end w b1 b2 (L0+292) (L+292) (it+292) (l+292) (sp+292) p0 p1 p its n its.length rs nr es ne N T) rfl rfl rfl ⟨hkEnd_ok (by simp), trivial⟩ hN G' ⟨fit, fL, fsp, fl', trivial⟩ ?_ ?_ fun h' T' st' hV D' E' hnQ => ?_
    · ktd_rel
    · kt_len
    · obtain ⟨q3, q4⟩ := pr2 hV
      refine hnQ ?_
      rcases hes with ⟨hi0, hk⟩ | ⟨hi0, hk⟩
      · omega
      · have E2 : Ext [it+292, L+292, sp+292] h h' := E'
        refine K h' T' es ne (E.trans2 E2) hk (D'.at q3) ⟨rs, nr, D'.at q4, hrs.mono fun v m q => q.ext E2 fun c hc => ?_⟩
        simp only [List.mem_cons, List.not_mem_nil, or_false] at hc
        rcases hc with rfl | rfl | rfl
        · exact not_tup fit (by simp [kindOf, iterO])
        · exact not_tup fL (by simp [kindOf, frameO])
        · exact not_tup fsp (by simp [kindOf, listO])
end
end Mine

namespace Mine
noncomputable section
open PySem PySem.W PySem.W.X
theorem spots_call (w : World) (b1 b2 : Bool) (L0 a : Nat) (p0 p : Pos) (its : List Value) (n : Nat) (ws : List Nat) (T : Nat) (d : Drawn) (ox : OsState) (R : Result → Shared → Prop) (h : Heap)
    (hw : All2 SignV its ws) (hz : its.length ≤ 63) (hn : 0 < its.length) (G : Glob (XX w b1 b2 tb []) h) (f1 : h.get? (a+292) = some (listO its n))
    (K : ∀ h' T' ls rs nr, Ext [] h h' → h.objs.size ≤ ls → h'.get? ls = some (listO rs nr) → All2 (SpotV h') rs (spotsTo ws its.length) → R (.ok (.ret (.ref ls))) ⟨h', ⟨[]⟩, d, T', ox⟩) :
    wpCode (model PySem.Challenge.pw_pe0217_01 (setW w b1 b2)) (ctxIn (.call (.ref 276) ⟨[.ref (a+292)], []⟩) (belowLaw w (L0+292) p0)) R p ⟨h, ⟨[]⟩, d, T, ox⟩ := by
  obtain ⟨N, hN⟩ := le_size f1 (Nat.le_add_left _ _)
  have lta : a < N := by have := Heap.lt_size f1; rw [hN] at this; exact Nat.lt_of_add_lt_add_right this
  refine code_cut (X0 := XX w b1 b2 tb []) (X := XX w b1 b2 tb []) (N := N) (own := []) (spots_seg0 w b1 b2 L0 a p0 p its n N T) rfl rfl rfl trivial hN G ⟨f1, trivial⟩ ⟨trivial, trivial⟩ ⟨Nat.le_add_left _ _, trivial⟩ fun h1 T1 st1 hrun hV D1 E1' hnQ => ?_
  obtain ⟨v0, v1, v2, v3⟩ := pr4 hV
  obtain ⟨es, ne, own, e3, hkv⟩ := shape_ok v3
  have g0 := D1.at v0; have g1 := D1.at v1; have g2 := D1.at v2; have g3 := D1.at e3
  have f1' := E1'.keep _ _ f1 (by kt_eqs)
  refine hnQ ?_
  refine spots_loop w b1 b2 L0 N (N + 3) a (N + 2) p0 _ its n ws d ox _ h1 (by omega) hw hz hn D1.glob f1' (by simp; omega) ?_ ⟨Ext.refl _ _, g0, ⟨es, ne, g3, .inl ⟨rfl, hkv⟩⟩, _, _, g1, ?_⟩
  · rintro h2 T2 es' ne' E2 ⟨v3, v4, v5, v6, v7, hk⟩ q3 ⟨rs, nr, q4, hrs⟩
    obtain ⟨N2, hN2⟩ := le_size q3 (Nat.le_add_left _ _)
    have G2 : Glob (XX w b1 b2 tb []) h2 := E2.glob (X := XX w b1 b2 tb []) (by intro c hc; left; simp only [List.mem_cons, List.not_mem_nil, or_false] at hc; rcases hc with rfl | rfl | rfl <;> exact Nat.le_add_left _ _) D1.glob
    obtain ⟨z1, k1, r1, rfl, hk1⟩ := kvs_cons hk
    obtain ⟨z2, k2, r2, rfl, hk2⟩ := kvs_cons hk1
    obtain ⟨z3, k3, r3, rfl, hk3⟩ := kvs_cons hk2
    obtain ⟨z4, k4, r4, rfl, hk4⟩ := kvs_cons hk3
    obtain ⟨z5, k5, r5, rfl, hk5⟩ := kvs_cons hk4
    obtain ⟨z6, k6, r6, rfl, hk6⟩ := kvs_cons hk5
    obtain ⟨z7, k7, r7, rfl, hk7⟩ := kvs_cons hk6
    cases kvs_nil hk7
    refine back_done (X0 := XX w b1 b2 tb []) (own := [N + 292, N + 294]) hrun (spots_seg2 w b1 b2 L0 a p0 p its n N T z1 z2 z3 z4 z5 z6 z7 k1 k2 k3 k4 k5 k6 k7 v3 v4 v5 v6 v7 ne' rs nr N2 T2) rfl rfl rfl trivial hN2 G2 ⟨q3, q4, trivial⟩ ⟨⟨.inl (show ("frame" : String) ≠ "list" by decide), trivial⟩, trivial, trivial⟩ ⟨geN N 292 (by decide), geN N 294 (by decide), trivial⟩ fun h3 T3 st3 hV D3 E3' hnQ => ?_
    refine hnQ ?_
    refine K h3 T3 (N + 294) rs nr (((E1'.trans E2).trans E3').new ?_) (by rw [hN]; omega) (D3.at hV) (hrs.mono fun v m q => q.ext E3' fun c hc => ?_)
    · intro c hc
      simp only [List.mem_append, List.mem_cons, List.not_mem_nil, or_false, false_or] at hc
      rw [hN]; omega
    · simp only [List.mem_cons, List.not_mem_nil, or_false] at hc
      rcases hc with rfl | rfl
      · exact not_tup q3 (show ("frame" : String) ≠ "tuple" by decide)
      · exact not_tup q4 (show ("list" : String) ≠ "tuple" by decide)
  · exact ⟨⟨N + 293, _, _, _, _, rfl, geN N 293 (by decide), g2⟩, trivial⟩
end
end Mine

namespace Mine
noncomputable section
open PySem PySem.W PySem.W.X PySem.Calls
noncomputable def dflTok (w : World) : Tok := match (obOf w 182).data with
  | .seq ⟨(Value.int _ t) :: _⟩ _ => t
  | _ => 0
noncomputable def belowInit (w : World) (L0 Lr : Addr) (p0 p1 p2 : Pos) : List (Code × Pos) := (.builtin "type.__call__" ⟨[.ref 253], []⟩, p2) :: belowRun w L0 Lr p0 p1
noncomputable def stIn0 (w : World) (L0 Lr pl dd : Nat) (p0 p1 p2 p : Pos) (n nd N T : Nat) : St :=
  begin (ctxIn (.call (.ref 190) ⟨[.ref (pl+292)], []⟩) (belowInit w (L0+292) (Lr+292) p0 p1 p2)) p [⟨pl+292, pileO (dd+292) [] n, true⟩, ⟨dd+292, dictO [] nd, true⟩] [] N T
noncomputable def stIn1 (w : World) (L0 Lr pl dd L : Nat) (p0 p1 p2 p : Pos) (n : Nat) (es : List DictEntry) (ne nd N T : Nat) : St :=
  ⟨ctxIn (fcode w 190 (L+292)) (belowInit w (L0+292) (Lr+292) p0 p1 p2), p, execsF [stmtAt w 190 0] (cenv w 190 (L+292)), [], [⟨L+292, frameO es ne, true⟩, ⟨pl+292, pileO (dd+292) [] n, true⟩, ⟨dd+292, dictO [] nd, true⟩], [], N, 0, T, 0, [], [], []⟩
noncomputable def inT (w : World) (L : Addr) : Sem Fin := superCallT (cenv w 190 L) (nm "self") (supE (ln 85 8 85 13) (ln 85 8 85 15)) (nm "__init__") (ln 85 8 85 24) (ln 85 8 85 26)
noncomputable def stIn2 (w : World) (L0 Lr pl dd L : Nat) (p0 p1 p2 p : Pos) (n : Nat) (es : List DictEntry) (ne N T : Nat) : St :=
  ⟨ctxIn (fcode w 190 (L+292)) (belowInit w (L0+292) (Lr+292) p0 p1 p2), p, inT w (L+292), [], [⟨L+292, frameO es ne, true⟩, ⟨pl+292, pileO (dd+292) [] n, true⟩], [], N, 0, T, 0, [], [], []⟩
theorem in_seg0 (w : World) (b1 b2 : Bool) (L0 Lr pl dd : Nat) (p0 p1 p2 p : Pos) (n nd N T : Nat) : let o := run (XX w b1 b2 tb []) [0, 0, 0, 1, 1, 1, 1, 0] (stIn0 w L0 Lr pl dd p0 p1 p2 p n nd N T)
    seen (fun env => (shape (nth env 0), nth env 1, nth env 2)) o = some (toldA o, toldC o, toldO o, .again (fcode w 190 (N + 292)), ctxIn (fcode w 190 (N + 292)) (belowInit w (L0+292) (Lr+292) p0 p1 p2), (some (N + 292, some (.type "frame", none, #[], [(some (nm "self"), .ref (pl+292)), (some (nm "initial_size"), .int 0 (dflTok w))])), some ⟨pl+292, pileO (dd+292) [] n, true⟩, some ⟨dd+292, dictO [] nd, true⟩), [], toldM o, toldI o, true) := by
  cases b1 <;> kernel_rfl
theorem in_seg1 (w : World) (b1 b2 : Bool) (L0 Lr pl dd L : Nat) (p0 p1 p2 p : Pos) (n : Nat) (h1 h2 : Int) (k1 k2 t2 : Tok) (ne nd N T : Nat) : let o := run (XX w b1 b2 tb []) [1, 1, 2, 0, 0, 0, 0, 2, 0, 0, 2, 0, 2, 0, 0, 0, 2, 0, 3, 3, 3] (stIn1 w L0 Lr pl dd L p0 p1 p2 p n [⟨h1, .str (nm "self") k1, .ref (pl+292)⟩, ⟨h2, .str (nm "initial_size") k2, .int 0 t2⟩] ne nd N T)
    seen (fun env => (nth env 0, nth env 1, shape (nth env 2))) o = some (toldA o, toldC o, toldO o, .done .next, ctxIn (fcode w 190 (L + 292)) (belowInit w (L0+292) (Lr+292) p0 p1 p2), (some ⟨L+292, frameO [⟨h1, .str (nm "self") k1, .ref (pl+292)⟩, ⟨h2, .str (nm "initial_size") k2, .int 0 t2⟩] ne, true⟩, some ⟨pl+292, pileO (dd+292) [] n, true⟩, some (dd+292, some (.type "dict", none, #[], [(some (nm "_initial_size"), .int 0 t2)]))), [], toldM o, toldI o, true) := by
  cases b1 <;> kernel_rfl
theorem in_seg2 (w : World) (b1 b2 : Bool) (L0 Lr pl dd L : Nat) (p0 p1 p2 p : Pos) (n : Nat) (h1 h2 : Int) (k1 k2 t2 : Tok) (ne N T : Nat) : let o := run (XX w b1 b2 tb []) [0, 0, 0, 1, 0, 0, 0, 0, 0, 0, 1, 1, 0, 1, 0, 0, 3, 3, 0, 1, 1, 1, 1, 1, 1, 1, 1, 0, 1, 0, 1, 1, 1, 0, 0, 0, 0, 3, 0, 1, 0, 1, 0, 4, 4, 4, 4] (stIn2 w L0 Lr pl dd L p0 p1 p2 p n [⟨h1, .str (nm "self") k1, .ref (pl+292)⟩, ⟨h2, .str (nm "initial_size") k2, .int 0 t2⟩] ne N T)
    seen (fun env => nth env 3) o = some (toldA o, toldC o, toldO o, .done (.ret .none), ctxIn (fcode w 190 (L + 292)) (belowInit w (L0+292) (Lr+292) p0 p1 p2), some ⟨pl+292, pileO (dd+292) [] n, true⟩, [], toldM o, toldI o, true) := by
  cases b1 <;> kernel_rfl
end
end Mine
namespace Mine
noncomputable section
open PySem PySem.W PySem.W.X PySem.Calls
theorem init_call (w : World) (b1 b2 : Bool) (L0 Lr pl dd : Nat) (p0 p1 p2 p : Pos) (n nd T : Nat) (d : Drawn) (ox : OsState) (R : Result → Shared → Prop) (h : Heap)
    (G : Glob (XX w b1 b2 tb []) h) (f1 : h.get? (pl+292) = some (pileO (dd+292) [] n)) (f2 : h.get? (dd+292) = some (dictO [] nd))
    (K : ∀ h' T' (h2 : Int) (k2 t2 : Tok) nd', Ext [pl+292, dd+292] h h' → h'.get? (pl+292) = some (pileO (dd+292) [] n) → h'.get? (dd+292) = some (dictO [⟨h2, .str (nm "_initial_size") k2, .int 0 t2⟩] nd') → R (.ok (.ret .none)) ⟨h', ⟨[]⟩, d, T', ox⟩) :
    wpCode (model PySem.Challenge.pw_pe0217_01 (setW w b1 b2)) (ctxIn (.call (.ref 190) ⟨[.ref (pl+292)], []⟩) (belowInit w (L0+292) (Lr+292) p0 p1 p2)) R p ⟨h, ⟨[]⟩, d, T, ox⟩ := by
  obtain ⟨N, hN⟩ := le_size f1 (Nat.le_add_left _ _)
  have ltp : pl < N := by have := Heap.lt_size f1; rw [hN] at this; exact Nat.lt_of_add_lt_add_right this
  have ltd : dd < N := by have := Heap.lt_size f2; rw [hN] at this; exact Nat.lt_of_add_lt_add_right this
  have pd : pl ≠ dd := by
    intro e; rw [e] at f1; rw [f1] at f2
    exact absurd (congrArg Obj.cls (Option.some.inj f2)) (by simp [pileO, dictO])
  refine code_loop (X0 := XX w b1 b2 tb []) (X := XX w b1 b2 tb []) (N := N) (own := [pl+292, dd+292]) (in_seg0 w b1 b2 L0 Lr pl dd p0 p1 p2 p n nd N T) rfl rfl rfl trivial hN G ⟨f1, f2, trivial⟩ ⟨⟨.inr (show (pl + 292 : Nat) ≠ dd + 292 by omega), trivial⟩, trivial, trivial⟩ ⟨Nat.le_add_left _ _, Nat.le_add_left _ _, trivial⟩ (by kernel_rfl) fun h1 T1 p' st1 hV D1 E1' hnQ => ?_
  obtain ⟨v0, v1, v2⟩ := pr3 hV
  obtain ⟨es, ne, own, e3, hkv⟩ := shape_ok v0
  obtain ⟨z1, k1, r1, rfl, hk1⟩ := kvs_cons hkv
  obtain ⟨z2, k2, r2, rfl, hk2⟩ := kvs_cons hk1
  cases kvs_nil hk2
  have g3 := D1.at e3; have g1 := D1.at v1; have g2 := D1.at v2
  obtain ⟨N1, hN1⟩ := le_size g1 (Nat.le_add_left _ _)
  refine hnQ ?_
  refine code_of_body ?_
  have hb : bodyOf w 190 = [stmtAt w 190 0, .Expr (.Call (.Attribute (supE (ln 85 8 85 13) (ln 85 8 85 15)) (nm "__init__") (ln 85 8 85 24)) [] [] (ln 85 8 85 26)) (ln 85 8 85 26)] := by kernel_rfl
  show WA _ (ctxIn (fcode w 190 (N + 292)) (belowInit w (L0+292) (Lr+292) p0 p1 p2)) (execs (bodyOf w 190) (cenv w 190 (N + 292))) _ _ _
  rw [hb]
  refine WA.execs_cons (WA.flow (execsF_eq _ _) (N := N1) (env := [⟨N+292, frameO [⟨z1, .str (nm "self") k1, .ref (pl+292)⟩, ⟨z2, .str (nm "initial_size") k2, .int 0 (dflTok w)⟩] ne, true⟩, ⟨pl+292, pileO (dd+292) [] n, true⟩, ⟨dd+292, dictO [] nd, true⟩]) fun p3 => ?_)
  refine means_of_done (X := XX w b1 b2 tb []) (in_seg1 w b1 b2 L0 Lr pl dd N p0 p1 p2 p3 n z1 z2 k1 k2 (dflTok w) ne nd N1 T1) trivial (on_dif hN1 D1.glob ⟨g3, g1, g2, trivial⟩ ?_ ⟨Nat.le_add_left _ _, Nat.le_add_left _ _, Nat.le_add_left _ _, trivial⟩) fun h3 T3 st3 hV3 D3 E3 => ?_
  · exact ⟨⟨.inr (show (N + 292 : Nat) ≠ pl + 292 by omega), .inr (show (N + 292 : Nat) ≠ dd + 292 by omega), trivial⟩, ⟨.inr (show (pl + 292 : Nat) ≠ dd + 292 by omega), trivial⟩, trivial, trivial⟩
  have E3' : Ext [N + 292, pl + 292, dd + 292] h1 h3 := E3
  obtain ⟨u0, u1, u2⟩ := pr3 hV3
  obtain ⟨ds, nd', own, e4, hkd⟩ := shape_ok u2
  obtain ⟨z4, k4, r4, rfl, hk4⟩ := kvs_cons hkd
  cases kvs_nil hk4
  have q0 := D3.at u0; have q1 := D3.at u1; have q2 := D3.at e4
  obtain ⟨N3, hN3⟩ := le_size q1 (Nat.le_add_left _ _)
  refine WA.expr (by kernel_rfl) (by kernel_rfl) (WA.sup w b1 b2 190 189 (N + 292) (ar := ⟨nm "self", none, ln 83 17 83 21⟩) D3.glob (by kernel_rfl) (by kernel_rfl) (by kernel_rfl) rfl rfl rfl (by kernel_rfl) (by kernel_rfl) (by kernel_rfl) (by kernel_rfl) (by kernel_rfl) (by kernel_rfl) (by kernel_rfl) (by kernel_rfl) (by kernel_rfl) ?_)
  refine WA.val (superCallT_eq _ _ _ _ _ _) (N := N3) (env := [⟨N+292, frameO [⟨z1, .str (nm "self") k1, .ref (pl+292)⟩, ⟨z2, .str (nm "initial_size") k2, .int 0 (dflTok w)⟩] ne, true⟩, ⟨pl+292, pileO (dd+292) [] n, true⟩]) fun p6 => ?_
  refine means_of_done (X := XX w b1 b2 tb []) (in_seg2 w b1 b2 L0 Lr pl dd N p0 p1 p2 p6 n z1 z2 k1 k2 (dflTok w) ne N3 T3) trivial (on_dif hN3 D3.glob ⟨q0, q1, trivial⟩ ⟨⟨.inr (show (N + 292 : Nat) ≠ pl + 292 by omega), trivial⟩, trivial, trivial⟩ ⟨Nat.le_add_left _ _, Nat.le_add_left _ _, trivial⟩) fun h5 T5 st5 hV5 D5 E5 => ?_
  have E5' : Ext [N + 292, pl + 292] h3 h5 := E5
  refine WA.any (wpAny_dropValue ?_)
  refine K h5 T5 _ _ _ nd' (((E1'.trans E3').trans E5').drop ?_) (D5.at hV5) (E5'.keep _ _ q2 (by kt_eqs))
  repeat' first | exact fa_nil | refine fa_app ?_ ?_ | refine fa_cons (Or.inl (by k_mem)) ?_ | refine fa_cons (Or.inr (nw0 hN rfl)) ?_
end
end Mine

namespace Mine
noncomputable section
open PySem PySem.W PySem.W.X
noncomputable def stRn0 (w : World) (L0 a : Nat) (p0 p : Pos) (its : List Value) (n N T : Nat) : St :=
  begin (ctxIn (.call (.ref 269) ⟨[.ref (a+292)], []⟩) (belowLaw w (L0+292) p0)) p [⟨a+292, listO its n, false⟩] [] N T
noncomputable def rRn0 (w : World) (b1 b2 : Bool) (L0 a : Nat) (p0 p : Pos) (its : List Value) (n N T : Nat) : Option St :=
  run (XX w b1 b2 tb []) [0, 0, 1, 1, 0, 0, 0, 0, 0, 0, 0, 0, 0, 0, 0, 0, 0, 0, 0, 0, 0, 0, 0, 0, 0, 0, 0, 0, 0, 0, 1, 0, 1, 0, 0, 0, 0] (stRn0 w L0 a p0 p its n N T)
theorem rn_seg0 (w : World) (b1 b2 : Bool) (L0 a : Nat) (p0 p : Pos) (its : List Value) (n N T : Nat) :
    let o := rRn0 w b1 b2 L0 a p0 p its n N T
    seen (fun env => (nth env 0, nth env 1, shape (nth env 2))) o = some (toldA o, toldC o, toldO o, .call (.call (.ref 190) ⟨[.ref (N + 294)], []⟩), ctxIn (.call (.ref 190) ⟨[.ref (N + 294)], []⟩) (belowInit w (L0+292) (N + 292) p0 (posO o) (posO o)),
      (some ⟨N + 294, pileO (N + 293) [] 0, true⟩, some ⟨N + 293, dictO [] 0, true⟩, some (N + 292, some (.type "frame", none, #[], [(some (nm "word"), .ref (a+292))]))), [], toldM o, toldI o, false) := by
  cases b1 <;> kernel_rfl
noncomputable def stRn1 (w : World) (b1 b2 : Bool) (L0 a : Nat) (p0 p : Pos) (its : List Value) (n N T : Nat) (es : List DictEntry) (ne : Nat) (N' T' : Nat) : St :=
  resumeO (rRn0 w b1 b2 L0 a p0 p its n N T) (.ok (.ret .none)) [⟨N + 292, frameO es ne, true⟩, ⟨a + 292, listO its n, false⟩, ⟨N+294, pileO (N+293) [] 0, false⟩] [] N' T'
end
end Mine

namespace Mine
noncomputable section
open PySem PySem.W PySem.W.X
noncomputable def rRn1 (w : World) (b1 b2 : Bool) (L0 a : Nat) (p0 p : Pos) (its : List Value) (n N T : Nat) (es : List DictEntry) (ne : Nat) (N' T' : Nat) : Option St :=
  run (XX w b1 b2 tb [hkLen 2 (a+292) its n, hkRIter 0 (N'+293) 0 its.length (T' + 4) (T' + 3) (T' + 5)]) [1, 1, 2, 2, 0, 0, 0, 0, 2, 1, 0, 0, 0, 0, 1, 1, 0, 1, 0, 1, 1, 1, 2, 1] (stRn1 w b1 b2 L0 a p0 p its n N T es ne N' T')
noncomputable def rnFr (l pl pr : Addr) : List (Option Str × Value) := [(some (nm "word"), .ref l), (some (nm "pile"), .ref pl), (some (nm "pairs"), .ref pr)]
theorem rn_seg1 (w : World) (b1 b2 : Bool) (L0 a : Nat) (p0 p : Pos) (its : List Value) (n N T : Nat) (h1 : Int) (k1 : Tok) (ne N' T' : Nat) :
    let o := rRn1 w b1 b2 L0 a p0 p its n N T [⟨h1, .str (nm "word") k1, .ref (a+292)⟩] ne N' T'
    seen (fun env => (nth env 0, nth env 2, shape (nth env 3))) o = some (toldA o, toldC o, toldO o, .call (rnLoop w (N' + 294) (N + 292)), ctxIn (rnLoop w (N' + 294) (N + 292)) ((fcode w 269 (N + 292), posO o) :: belowLaw w (L0+292) p0),
      (some ⟨N' + 294, rngI 0 (its.length - 0), true⟩, some ⟨N' + 292, listO [] 0, true⟩, some (N + 292, some (.type "frame", none, #[], rnFr (a+292) (N + 294) (N' + 292)))), [], toldM o, toldI o, true) := by
  cases b1 <;> kernel_rfl
noncomputable def stRnL (w : World) (L0 L it pl dd : Nat) (p0 p1 p : Pos) (i left : Int) (ps : List Value) (np : Nat) (es : List DictEntry) (hd : Int) (kd : Tok) (vd : Value) (nd ne N T : Nat) : St :=
  begin (ctxIn (rnLoop w (it+292) (L+292)) (belowRun w (L0+292) (L+292) p0 p1)) p [⟨it+292, rngI i left, true⟩, ⟨L+292, frameO es ne, true⟩, ⟨pl+292, pileO (dd+292) ps np, false⟩, ⟨dd+292, dictO [⟨hd, .str (nm "_initial_size") kd, vd⟩] nd, false⟩] [] N T
end
end Mine
namespace Mine
noncomputable section
open PySem PySem.W PySem.W.X
noncomputable def rnKv (l pl pr : Addr) (v1 v2 v3 : Value) : List (Option Str × Value) := [(some (nm "word"), .ref l), (some (nm "pile"), .ref pl), (some (nm "pairs"), .ref pr), (some (nm "place"), v1), (some (nm "top"), v2), (some (nm "met"), v3)]
noncomputable def rTn0 (w : World) (b1 b2 : Bool) (L0 L it pl dd : Nat) (p0 p1 p : Pos) (i left : Int) (ps : List Value) (np : Nat) (es : List DictEntry) (hd : Int) (kd : Tok) (vd : Value) (nd ne N T : Nat) : Option St :=
  run (XX w b1 b2 tb [hkRNext 0 (it+292) i left]) [1, 1, 2, 2, 2, 3, 0, 0, 0, 3, 0, 0, 0, 3, 0, 0, 0, 0, 3, 4, 0] (stRnL w L0 L it pl dd p0 p1 p i left ps np es hd kd vd nd ne N T)
theorem tn_seg0 (w : World) (b1 b2 : Bool) (L0 L it l pl dd pr : Nat) (p0 p1 p : Pos) (i left : Int) (ps : List Value) (np : Nat) (h1 h2 h3 hd : Int) (k1 k2 k3 kd : Tok) (vd : Value) (nd ne N T : Nat) :
    let o := rTn0 w b1 b2 L0 L it pl dd p0 p1 p i left ps np [⟨h1, .str (nm "word") k1, .ref (l+292)⟩, ⟨h2, .str (nm "pile") k2, .ref (pl+292)⟩, ⟨h3, .str (nm "pairs") k3, .ref (pr+292)⟩] hd kd vd nd ne N T
    seen (fun env => (nth env 0, shape (nth env 1))) o = some (toldA o, toldC o, toldO o, .call (.call (.ref 213) ⟨[.ref (pl+292)], []⟩), ctxIn (.call (.ref 213) ⟨[.ref (pl+292)], []⟩) (belowTurn w (L0+292) (L+292) (it+292) (posO o) p0 p1),
      (some ⟨it+292, rngI (i + 1) (left - 1), true⟩, some (L+292, some (.type "frame", none, #[], [(some (nm "word"), .ref (l+292)), (some (nm "pile"), .ref (pl+292)), (some (nm "pairs"), .ref (pr+292)), (some (nm "place"), .int i T)]))), [], toldM o, toldI o, true) := by
  cases b1 <;> kernel_rfl
theorem tn_seg0' (w : World) (b1 b2 : Bool) (L0 L it l pl dd pr : Nat) (p0 p1 p : Pos) (i left : Int) (ps : List Value) (np : Nat) (h1 h2 h3 h4 h5 h6 hd : Int) (k1 k2 k3 k4 k5 k6 kd : Tok) (v4 v5 v6 vd : Value) (nd ne N T : Nat) :
    let o := rTn0 w b1 b2 L0 L it pl dd p0 p1 p i left ps np [⟨h1, .str (nm "word") k1, .ref (l+292)⟩, ⟨h2, .str (nm "pile") k2, .ref (pl+292)⟩, ⟨h3, .str (nm "pairs") k3, .ref (pr+292)⟩, ⟨h4, .str (nm "place") k4, v4⟩, ⟨h5, .str (nm "top") k5, v5⟩, ⟨h6, .str (nm "met") k6, v6⟩] hd kd vd nd ne N T
    seen (fun env => (nth env 0, shape (nth env 1))) o = some (toldA o, toldC o, toldO o, .call (.call (.ref 213) ⟨[.ref (pl+292)], []⟩), ctxIn (.call (.ref 213) ⟨[.ref (pl+292)], []⟩) (belowTurn w (L0+292) (L+292) (it+292) (posO o) p0 p1),
      (some ⟨it+292, rngI (i + 1) (left - 1), true⟩, some (L+292, some (.type "frame", none, #[], rnKv (l+292) (pl+292) (pr+292) (.int i T) v5 v6))), [], toldM o, toldI o, true) := by
  cases b1 <;> kernel_rfl
end
end Mine

namespace Mine
noncomputable section
open PySem PySem.W PySem.W.X
noncomputable def ifB : Stmt → List Stmt
  | .If _ b _ _ => b
  | _ => []
noncomputable def hiFor (w : World) : Stmt := (ifB (stmtAt w 63 3)).getD 0 (.Pass default)
noncomputable def hiLoop (w : World) (it L : Addr) : Code := .forLoop (forT (hiFor w)) (.ref it) (forB (hiFor w)) [] (cenv w 63 L)
noncomputable def hdrO (dd : Addr) : Obj := ⟨.ref 169, some dd, .plain, #[]⟩
noncomputable def belowHi (hl : Addr) (p : Pos) (below : List (Code × Pos)) : List (Code × Pos) := (.builtin "type.__call__" ⟨[.ref 169, .ref hl], []⟩, p) :: below
noncomputable def stHi0 (w : World) (below : List (Code × Pos)) (hd dd hl : Nat) (pc p : Pos) (its : List Value) (n nd N T : Nat) (gl : List GenState) : St :=
  begin (ctxIn (.call (.ref 63) ⟨[.ref (hd+292), .ref (hl+292)], []⟩) (belowHi (hl+292) pc below)) p [⟨hd+292, hdrO (dd+292), true⟩, ⟨dd+292, dictO [] nd, true⟩, ⟨hl+292, listO its n, false⟩] gl N T
noncomputable def rHi0 (w : World) (b1 b2 : Bool) (below : List (Code × Pos)) (hd dd hl : Nat) (pc p : Pos) (its : List Value) (n nd N T : Nat) (gl : List GenState) : Option St :=
  run (XX w b1 b2 tb []) [0, 0, 0, 1, 1, 1, 1, 0, 0, 1, 1, 1, 1, 0, 0, 1, 0, 0, 4, 0, 0, 1, 1, 2, 0, 0, 0, 0, 2, 0, 0, 2, 0, 2, 0, 0, 0, 2, 0, 3, 3, 3, 1, 4, 4, 0, 4, 0, 1] (stHi0 w below hd dd hl pc p its n nd N T gl)
noncomputable def belowHL (w : World) (hl L : Addr) (pc p : Pos) (below : List (Code × Pos)) : List (Code × Pos) := (fcode w 63 L, p) :: belowHi hl pc below
noncomputable def stHiL (w : World) (below : List (Code × Pos)) (hd dd hl it L tp : Nat) (pc p1 p : Pos) (its : List Value) (n i : Nat) (es : List DictEntry) (ne : Nat) (hh : Int) (kh : Tok) (nd : Nat) (K V : Str) (tk tv : Tok) (N T : Nat) (gl : List GenState) : St :=
  begin (ctxIn (hiLoop w (it+292) (L+292)) (belowHL w (hl+292) (L+292) pc p1 below)) p [⟨it+292, iterO (hl+292) i, true⟩, ⟨L+292, frameO es ne, true⟩, ⟨hd+292, hdrO (dd+292), false⟩, ⟨dd+292, dictO [⟨hh, .str (nm "_headers") kh, .ref (hl+292)⟩] nd, false⟩, ⟨hl+292, listO its n, false⟩, ⟨tp+292, tupO [.str K tk, .str V tv], false⟩] gl N T
noncomputable def hiOr : List Nat := [1, 1, 1, 6, 6, 6, 0, 6, 0, 1, 1, 0, 1, 0, 1, 1, 7, 1, 1, 1, 0, 1, 0, 1, 1, 7, 1, 1, 1, 0, 1, 0, 1, 1, 7, 1, 1, 1, 5, 5, 5, 5, 5, 6, 0, 0, 0, 6, 0, 0, 0, 6, 0, 0, 0, 0, 6, 7, 5, 0, 0, 0, 0, 1, 1, 1, 1, 1, 1, 0, 0, 0, 0, 1, 0, 0, 0, 0, 1, 0, 1, 1, 1, 0, 0, 0, 0, 1, 2, 1, 6, 7, 0, 0, 0, 7, 0, 0, 0, 7, 0, 0, 0, 0, 7, 8, 6, 0, 0, 0, 0, 1, 1, 1, 1, 1, 1, 0, 0, 0, 0, 1, 0, 0, 0, 0, 1, 0, 1, 1, 1, 0, 0, 0, 0, 1, 3, 1]
noncomputable def xHi (w : World) (b1 b2 : Bool) (it hl tp : Nat) (its : List Value) (n i : Nat) (K V : Str) (tk tv : Tok) : Cx :=
  XX w b1 b2 tb [hkNext 0 4 (it+292) (hl+292) its n i (.ref (tp+292)), hkVal "re.Pattern.search" [.ref 43, .str K tk] .none, hkVal "re.Pattern.search" [.ref 48, .str V tv] .none]
noncomputable def hiKv (hd hl : Addr) (v3 v4 : Value) : List (Option Str × Value) := [(some (nm "self"), .ref hd), (some (nm "headers"), .ref hl), (some (nm "k"), v3), (some (nm "v"), v4)]
structure HiOk (w : World) (b1 b2 : Bool) (below : List (Code × Pos)) : Prop where
  r0 : ∀ (hd dd hl : Nat) (pc p : Pos) (its : List Value) (n nd N T : Nat) (gl : List GenState), let o := rHi0 w b1 b2 below hd dd hl pc p its n nd N T gl
    seen (fun env => (nth env 0, shape (nth env 1), nth env 2, shape (nth env 3))) o = some (toldA o, toldC o, toldO o, .call (hiLoop w (N + 293) (N + 292)), ctxIn (hiLoop w (N + 293) (N + 292)) (belowHL w (hl+292) (N + 292) pc (posO o) below),
      (some ⟨N + 293, iterO (hl+292) 0, true⟩, some (N + 292, some (.type "frame", none, #[], [(some (nm "self"), .ref (hd+292)), (some (nm "headers"), .ref (hl+292))])), some ⟨hd+292, hdrO (dd+292), true⟩, some (dd+292, some (.type "dict", none, #[], [(some (nm "_headers"), .ref (hl+292))]))), gl, toldM o, toldI o, true)
  r1 : ∀ (hd dd hl it L tp : Nat) (pc p1 p : Pos) (its : List Value) (n i : Nat) (h1 h2 : Int) (k1 k2 : Tok) (ne : Nat) (hh : Int) (kh : Tok) (nd : Nat) (K V : Str) (tk tv : Tok) (N T : Nat) (gl : List GenState), let o := run (xHi w b1 b2 it hl tp its n i K V tk tv) hiOr (stHiL w below hd dd hl it L tp pc p1 p its n i [⟨h1, .str (nm "self") k1, .ref (hd+292)⟩, ⟨h2, .str (nm "headers") k2, .ref (hl+292)⟩] ne hh kh nd K V tk tv N T gl)
    seen (fun env => (nth env 5, shape (nth env 6))) o = some (toldA o, toldC o, toldO o, .again (hiLoop w (it+292) (L+292)), ctxIn (hiLoop w (it+292) (L+292)) (belowHL w (hl+292) (L+292) pc p1 below),
      (some ⟨it+292, iterO (hl+292) (i + 1), true⟩, some (L+292, some (.type "frame", none, #[], hiKv (hd+292) (hl+292) (.str K tk) (.str V tv)))), gl, toldM o, toldI o, true)
  r1' : ∀ (hd dd hl it L tp : Nat) (pc p1 p : Pos) (its : List Value) (n i : Nat) (h1 h2 h3 h4 : Int) (k1 k2 k3 k4 : Tok) (v3 v4 : Value) (ne : Nat) (hh : Int) (kh : Tok) (nd : Nat) (K V : Str) (tk tv : Tok) (N T : Nat) (gl : List GenState), let o := run (xHi w b1 b2 it hl tp its n i K V tk tv) hiOr (stHiL w below hd dd hl it L tp pc p1 p its n i [⟨h1, .str (nm "self") k1, .ref (hd+292)⟩, ⟨h2, .str (nm "headers") k2, .ref (hl+292)⟩, ⟨h3, .str (nm "k") k3, v3⟩, ⟨h4, .str (nm "v") k4, v4⟩] ne hh kh nd K V tk tv N T gl)
    seen (fun env => (nth env 5, shape (nth env 6))) o = some (toldA o, toldC o, toldO o, .again (hiLoop w (it+292) (L+292)), ctxIn (hiLoop w (it+292) (L+292)) (belowHL w (hl+292) (L+292) pc p1 below),
      (some ⟨it+292, iterO (hl+292) (i + 1), true⟩, some (L+292, some (.type "frame", none, #[], hiKv (hd+292) (hl+292) (.str K tk) (.str V tv)))), gl, toldM o, toldI o, true)
  re : ∀ (hl it L : Nat) (pc p1 p : Pos) (its : List Value) (n i : Nat) (es : List DictEntry) (ne N T : Nat) (gl : List GenState), let o := run (XX w b1 b2 tb [hkEnd 0 2 (it+292) (hl+292) its n i]) [1, 1, 1, 0] (begin (ctxIn (hiLoop w (it+292) (L+292)) (belowHL w (hl+292) (L+292) pc p1 below)) p [⟨it+292, iterO (hl+292) i, true⟩, ⟨L+292, frameO es ne, true⟩, ⟨hl+292, listO its n, false⟩] gl N T)
    seen (fun env => nth env 3) o = some (toldA o, toldC o, toldO o, .done .next, ctxIn (.block [] (cenv w 63 (L+292))) (belowHL w (hl+292) (L+292) pc p1 below), some ⟨L+292, frameO es ne, true⟩, gl, toldM o, toldI o, true)
  r2 : ∀ (hd dd hl : Nat) (pc p : Pos) (its : List Value) (n nd N T : Nat) (env : List Ent) (N' T' : Nat) (gl : List GenState), let o := run (XX w b1 b2 tb []) [] (resumeO (rHi0 w b1 b2 below hd dd hl pc p its n nd N T gl) (.ok .next) env gl N' T')
    seen (fun _ => ()) o = some (toldA o, toldC o, toldO o, .done (.ret .none), ctxIn (fcode w 63 (N + 292)) (belowHi (hl+292) pc below), (), gl, toldM o, toldI o, true)
theorem hi_law (w : World) (b1 b2 : Bool) (L0 : Nat) (p0 : Pos) : HiOk w b1 b2 (belowLaw w (L0+292) p0) where
  r0 := by intros; cases b1 <;> kernel_rfl
  r1 := by intros; cases b1 <;> kernel_rfl
  r1' := by intros; cases b1 <;> kernel_rfl
  re := by intros; cases b1 <;> kernel_rfl
  r2 := by intros; cases b1 <;> kernel_rfl
theorem hi_turn (w : World) (b1 b2 : Bool) (L0 Lr it : Nat) (pt p0 p1 : Pos) : HiOk w b1 b2 (belowTurn w (L0+292) (Lr+292) (it+292) pt p0 p1) where
  r0 := by intros; cases b1 <;> kernel_rfl
  r1 := by intros; cases b1 <;> kernel_rfl
  r1' := by intros; cases b1 <;> kernel_rfl
  re := by intros; cases b1 <;> kernel_rfl
  r2 := by intros; cases b1 <;> kernel_rfl
end
end Mine

namespace Mine
noncomputable section
open PySem PySem.W PySem.W.X
theorem Ext.keepK {own : List Addr} {h h' : Heap} (x : Ext own h h') {a : Addr} {o : Obj} (ha : h.get? a = some o) (hk : ∀ c ∈ own, ∃ o', h.get? c = some o' ∧ kindOf o' ≠ kindOf o) : h'.get? a = some o :=
  x.keepT ha fun c hc e => by
    obtain ⟨o', h1, h2⟩ := hk c hc
    rw [h1] at e
    exact h2 (congrArg kindOf (Option.some.inj e))
theorem glob_ext {w : World} {b1 b2 : Bool} {hs : List Hook} {own : List Addr} {h h' : Heap} (E : Ext own h h') (hi : ∀ c ∈ own, 292 ≤ c) (G : Glob (XX w b1 b2 tb hs) h) : Glob (XX w b1 b2 tb hs) h' := E.glob (X := XX w b1 b2 tb hs) (fun c hc => .inl (hi c hc)) G
theorem lt_of_get {h : Heap} {a N : Nat} {o : Obj} (f : h.get? (a+292) = some o) (hN : h.objs.size = N + 292) : a < N := by
  have := Heap.lt_size f; rw [hN] at this; exact Nat.lt_of_add_lt_add_right this
noncomputable def PieceV (h : Heap) (v : Value) (x : Str × Str) : Prop := ∃ a : Nat, ∃ t1 t2, v = .ref (a+292) ∧ h.get? (a+292) = some (tupO [.str x.1 t1, .str x.2 t2])
theorem PieceV.ext {own : List Addr} {h h' : Heap} {v : Value} {x : Str × Str} (E : Ext own h h') (hown : ∀ c ∈ own, ∀ vs, h.get? c ≠ some (tupO vs)) (q : PieceV h v x) : PieceV h' v x := by
  obtain ⟨a, t1, t2, e, hg⟩ := q
  exact ⟨a, t1, t2, e, E.keepT hg fun c hc => hown c hc _⟩
noncomputable def PieceOk (x : Str × Str) : Prop := NameS x.1 ∧ PlaceS x.2

theorem hi_call (w : World) (b1 b2 : Bool) (below : List (Code × Pos)) (C : HiOk w b1 b2 below) (hd dd hl : Nat) (pc p : Pos) (its : List Value) (n nd T : Nat) (xs : List (Str × Str)) {gl : List GenState} (d : Drawn) (ox : OsState) (R : Result → Shared → Prop) (h : Heap)
    (hx : ∀ x ∈ xs, PieceOk x) (hz : its.length ≤ 1000) (G : Glob (XX w b1 b2 tb []) h) (f1 : h.get? (hd+292) = some (hdrO (dd+292))) (f2 : h.get? (dd+292) = some (dictO [] nd)) (f3 : h.get? (hl+292) = some (listO its n)) (f4 : All2 (PieceV h) its xs)
    (K : ∀ h' T' (hh : Int) (kh : Tok) nd', Ext [hd+292, dd+292] h h' → h'.get? (hd+292) = some (hdrO (dd+292)) → h'.get? (dd+292) = some (dictO [⟨hh, .str (nm "_headers") kh, .ref (hl+292)⟩] nd') → R (.ok (.ret .none)) ⟨h', ⟨gl⟩, d, T', ox⟩) :
    wpCode (model PySem.Challenge.pw_pe0217_01 (setW w b1 b2)) (ctxIn (.call (.ref 63) ⟨[.ref (hd+292), .ref (hl+292)], []⟩) (belowHi (hl+292) pc below)) R p ⟨h, ⟨gl⟩, d, T, ox⟩ := by
  obtain ⟨N, hN⟩ := le_size f1 (Nat.le_add_left _ _)
  have l1 := lt_of_get f1 hN
  have l2 := lt_of_get f2 hN
  refine code_cut (X0 := XX w b1 b2 tb []) (X := XX w b1 b2 tb []) (N := N) (own := [hd+292, dd+292]) (C.r0 hd dd hl pc p its n nd N T gl) rfl rfl rfl trivial hN G ⟨f1, f2, f3, trivial⟩ ?_ ?_ fun h1 T1 st1 hrun hV D1 E1' hnQ => ?_
  · ktd_rel
  · kt_len
  obtain ⟨v0, v1, v2, v3⟩ := pr4 hV
  obtain ⟨es, ne, own, e1, hk1⟩ := shape_ok v1
  obtain ⟨ds, nd', own', e3, hk3⟩ := shape_ok v3
  obtain ⟨hh, kh, r3, rfl, hk3'⟩ := kvs_cons hk3
  cases kvs_nil hk3'
  have g0 := D1.at v0; have g1 := D1.at e1; have g2 := D1.at v2; have g3 := D1.at e3
  have f3' := E1'.keepK f3 (by simp [f1, f2, kindOf, hdrO, dictO, listO])
  have f4' := f4.mono (fun v x q => PieceV.ext E1' (by simp [f1, f2, tupO, hdrO, dictO]) q)
  have kept : ∀ {h' : Heap} (E : Ext [N + 293, N + 292] h1 h') {a : Addr} {o : Obj}, h1.get? a = some o → kindOf o ≠ "list_iterator" → kindOf o ≠ "frame" → h'.get? a = some o := fun {h'} E {a o} ha k1 k2 => E.keepK ha (by
    intro c hc
    simp only [List.mem_cons, List.not_mem_nil, or_false] at hc
    rcases hc with rfl | rfl
    · exact ⟨_, g0, fun e => k1 e.symm⟩
    · exact ⟨_, g1, fun e => k2 e.symm⟩)
  have keptP : ∀ {h' : Heap} (E : Ext [N + 293, N + 292] h1 h'), All2 (PieceV h') its xs := fun {h'} E => f4'.mono (fun v x q => PieceV.ext E (by
    intro c hc vs
    simp only [List.mem_cons, List.not_mem_nil, or_false] at hc
    rcases hc with rfl | rfl
    · rw [g0]; simp [iterO, tupO]
    · rw [g1]; simp [frameO, tupO]) q)
  refine hnQ ?_
  refine loop0 (fun i h' => Ext [N + 293, N + 292] h1 h' ∧ h'.get? (N + 293) = some (iterO (hl+292) i) ∧ ∃ es ne, h'.get? (N + 292) = some (frameO es ne) ∧ (kvs es = [(some (nm "self"), .ref (hd+292)), (some (nm "headers"), .ref (hl+292))] ∨ ∃ v3 v4, kvs es = hiKv (hd+292) (hl+292) v3 v4)) its.length
    ⟨Ext.refl _ _, g0, es, ne, g1, .inl hk1⟩ ?_ ?_
  · rintro i hi p' T' h' ⟨E, q0, es', ne', q1, hk⟩ K'
    obtain ⟨N', hN'⟩ := le_size q0 (geN N 293 (by decide))
    have G' := glob_ext E (by kt_len) D1.glob
    have q2 := kept E g2 (by simp [kindOf, hdrO]) (by simp [kindOf, hdrO])
    have q3 := kept E g3 (by simp [kindOf]) (by simp [kindOf])
    have q4 := kept E f3' (by simp [kindOf, listO]) (by simp [kindOf, listO])
    have qP := keptP E
    obtain ⟨x, hxi⟩ : ∃ x, xs[i]? = some x := ⟨xs[i]'(by have := f4.length; omega), List.getElem?_eq_getElem _⟩
    obtain ⟨v, hv, tp, tk, tv, rfl, qt⟩ := qP.get i hxi
    have hok := hx x (List.mem_of_getElem? hxi)
    have hooks : AllOk (xHi w b1 b2 (N+1) hl tp its n i x.1 x.2 tk tv) (xHi w b1 b2 (N+1) hl tp its n i x.1 x.2 tk tv).hooks := ⟨hkNext_ok hv, ok_name hok.1 tk, ok_place hok.2 tv, trivial⟩
    have D : On (xHi w b1 b2 (N+1) hl tp its n i x.1 x.2 tk tv) (stHiL w below hd dd hl (N+1) N tp pc (posO (rHi0 w b1 b2 below hd dd hl pc p its n nd N T gl)) p' its n i es' ne' hh kh nd' x.1 x.2 tk tv N' T' gl) h' := by
      refine on_dif hN' G' ⟨q0, q1, q2, q3, q4, qt, trivial⟩ ?_ ?_
      · ktd_rel
      · kt_len
    have step : ∀ h'' T'' p'', Ext [N + 293, N + 292] h' h'' → h''.get? (N + 293) = some (iterO (hl+292) (i + 1)) → (∃ es'' ne'', h''.get? (N + 292) = some (frameO es'' ne'') ∧ kvs es'' = hiKv (hd+292) (hl+292) (.str x.1 tk) (.str x.2 tv)) →
        wpCode (model PySem.Challenge.pw_pe0217_01 (setW w b1 b2)) (ctxIn (hiLoop w (N + 293) (N + 292)) (belowHL w (hl+292) (N + 292) pc (posO (rHi0 w b1 b2 below hd dd hl pc p its n nd N T gl)) below)) _ p'' ⟨h'', ⟨gl⟩, d, T'', ox⟩ :=
      fun h'' T'' p'' E'' u0 ⟨es'', ne'', u1, hk''⟩ => K' p'' T'' h'' ⟨E.trans2 E'', u0, es'', ne'', u1, .inr ⟨_, _, hk''⟩⟩
    rcases hk with hk | ⟨v3, v4, hk⟩
    · obtain ⟨z1, k1, r1, rfl, kk1⟩ := kvs_cons hk
      obtain ⟨z2, k2, r2, rfl, kk2⟩ := kvs_cons kk1
      cases kvs_nil kk2
      refine code_of_means (X := xHi w b1 b2 (N+1) hl tp its n i x.1 x.2 tk tv) (N := N') (means_of_loop (C.r1 hd dd hl (N+1) N tp pc _ p' its n i z1 z2 k1 k2 ne' hh kh nd' x.1 x.2 tk tv N' T' gl) hooks D (by kernel_rfl) fun h'' T'' p'' st'' hV D'' E'' => ?_)
      obtain ⟨u0, u1⟩ := pr2 hV
      obtain ⟨es'', ne'', ow, e1, hk''⟩ := shape_ok u1
      exact step h'' T'' p'' E'' (D''.at u0) ⟨es'', ne'', D''.at e1, hk''⟩
    · obtain ⟨z1, k1, r1, rfl, kk1⟩ := kvs_cons hk
      obtain ⟨z2, k2, r2, rfl, kk2⟩ := kvs_cons kk1
      obtain ⟨z3, k3, r3, rfl, kk3⟩ := kvs_cons kk2
      obtain ⟨z4, k4, r4, rfl, kk4⟩ := kvs_cons kk3
      cases kvs_nil kk4
      refine code_of_means (X := xHi w b1 b2 (N+1) hl tp its n i x.1 x.2 tk tv) (N := N') (means_of_loop (C.r1' hd dd hl (N+1) N tp pc _ p' its n i z1 z2 z3 z4 k1 k2 k3 k4 v3 v4 ne' hh kh nd' x.1 x.2 tk tv N' T' gl) hooks D (by kernel_rfl) fun h'' T'' p'' st'' hV D'' E'' => ?_)
      obtain ⟨u0, u1⟩ := pr2 hV
      obtain ⟨es'', ne'', ow, e1, hk''⟩ := shape_ok u1
      exact step h'' T'' p'' E'' (D''.at u0) ⟨es'', ne'', D''.at e1, hk''⟩
  · rintro p' T' h' ⟨E, q0, es', ne', q1, hk⟩
    obtain ⟨N', hN'⟩ := le_size q0 (geN N 293 (by decide))
    have G' := glob_ext E (by kt_len) D1.glob
    have q2 := kept E g2 (by simp [kindOf, hdrO]) (by simp [kindOf, hdrO])
    have q3 := kept E g3 (by simp [kindOf]) (by simp [kindOf])
    have q4 := kept E f3' (by simp [kindOf, listO]) (by simp [kindOf, listO])
    refine code_done (X0 := XX w b1 b2 tb []) (X := XX w b1 b2 tb [hkEnd 0 2 (N+293) (hl+292) its n its.length]) (N := N') (own := [N + 293, N + 292]) (C.re hl (N+1) N pc _ p' its n its.length es' ne' N' T' gl) rfl rfl rfl ⟨hkEnd_ok (by simp), trivial⟩ hN' G' ⟨q0, q1, q4, trivial⟩ ?_ ?_ fun h2 T2 st2 hV D2 E2' hnQ => ?_
    · ktd_rel
    · kt_len
    have E3 := E.trans2 E2'
    have u2 := kept E3 g2 (by simp [kindOf, hdrO]) (by simp [kindOf, hdrO])
    have u3 := kept E3 g3 (by simp [kindOf]) (by simp [kindOf])
    obtain ⟨N2, hN2⟩ := le_size u2 (Nat.le_add_left _ _)
    refine hnQ ?_
    refine back_done (X0 := XX w b1 b2 tb []) (own := []) hrun (C.r2 hd dd hl pc p its n nd N T [] N2 T2 gl) rfl rfl rfl trivial hN2 (glob_ext E3 (by kt_len) D1.glob) trivial trivial trivial fun h3 T3 st3 hV3 D3 E4 hnQ => ?_
    refine hnQ ?_
    refine K h3 T3 hh kh nd' (((E1'.trans E3).trans E4).drop ?_) (E4.keep _ _ u2 (by kt_eqs)) (E4.keep _ _ u3 (by kt_eqs))
    intro c hc
    simp only [List.mem_append, List.mem_cons, List.not_mem_nil, or_false] at hc ⊢
    rw [hN]
    rcases hc with (rfl | rfl) | rfl | rfl
    · left; simp
    · left; simp
    · right; omega
    · right; omega
end
end Mine

namespace Mine
noncomputable section
open PySem PySem.W PySem.W.X
noncomputable def stGe (w : World) (L0 Lr itr : Nat) (pt p0 p1 : Pos) (hd dd hl tp : Nat) (p : Pos) (S : Str) (ts : Tok) (n : Nat) (hh : Int) (kh : Tok) (nd : Nat) (K V : Str) (tk tv : Tok) (N T : Nat) : St :=
  begin (ctxIn (.call (.ref 116) ⟨[.ref (hd+292), .str S ts], []⟩) (belowTurn w (L0+292) (Lr+292) (itr+292) pt p0 p1)) p [⟨hd+292, hdrO (dd+292), false⟩, ⟨dd+292, dictO [⟨hh, .str (nm "_headers") kh, .ref (hl+292)⟩] nd, false⟩, ⟨hl+292, listO [.ref (tp+292)] n, false⟩, ⟨tp+292, tupO [.str K tk, .str V tv], false⟩] [] N T
noncomputable def xGe (w : World) (b1 b2 : Bool) (S : Str) (ts : Tok) (K : Str) (tk : Tok) (r : Bool) (T : Nat) : Cx :=
  XX w b1 b2 tb [hkStr "str.lower" [.str S ts] (lowS S), hkVal "re.Pattern.search" [.ref 43, .str (lowS S) (T + 3)] .none, hkStr "str.lower" [.str K tk] (lowS K), hkVal "str.__eq__" [.str (lowS K) (T + 12), .str (lowS S) (T + 3)] (.bool r)]
noncomputable def geOr1 : List Nat := [0, 0, 0, 1, 1, 1, 1, 1, 1, 0, 0, 1, 2, 0, 0, 0, 2, 0, 0, 0, 2, 0, 0, 0, 0, 2, 3, 1, 1, 0, 0, 0, 0, 1, 1, 1, 1, 1, 1, 0, 0, 0, 0, 1, 0, 0, 0, 0, 1, 0, 1, 1, 1, 0, 0, 0, 0, 1, 2, 1, 2, 2, 2, 3, 0, 0, 0, 0, 3, 0, 0, 0, 3, 3, 0, 4, 5, 5, 0, 5, 0, 1, 0, 1, 0, 1, 0, 1, 1, 6, 1, 1, 1, 7, 7, 7, 0, 7, 0, 1, 1, 0, 1, 0, 1, 1, 8, 1, 1, 1, 0, 1, 0, 1, 1, 8, 1, 1, 1, 0, 1, 0, 1, 1, 8, 1, 1, 1, 6, 6, 6, 6, 6, 3, 6, 4, 6]
noncomputable def geOr0 : List Nat := [0, 0, 0, 1, 1, 1, 1, 1, 1, 0, 0, 1, 2, 0, 0, 0, 2, 0, 0, 0, 2, 0, 0, 0, 0, 2, 3, 1, 1, 0, 0, 0, 0, 1, 1, 1, 1, 1, 1, 0, 0, 0, 0, 1, 0, 0, 0, 0, 1, 0, 1, 1, 1, 0, 0, 0, 0, 1, 2, 1, 2, 2, 2, 3, 0, 0, 0, 0, 3, 0, 0, 0, 3, 3, 0, 4, 5, 5, 0, 5, 0, 1, 0, 1, 0, 1, 0, 1, 1, 6, 1, 1, 1, 7, 7, 7, 0, 7, 0, 1, 1, 0, 1, 0, 1, 1, 8, 1, 1, 1, 0, 1, 0, 1, 1, 8, 1, 1, 1, 0, 1, 0, 1, 1, 8, 1, 1, 1, 6, 6, 6, 6, 6, 3, 6, 4, 0, 4, 0, 4, 0, 4, 4, 9, 4, 4, 1, 0, 8]
theorem get_run (w : World) (b1 b2 : Bool) (L0 Lr itr : Nat) (pt p0 p1 : Pos) (hd dd hl tp : Nat) (p : Pos) (S : Str) (ts : Tok) (n : Nat) (hh : Int) (kh : Tok) (nd : Nat) (K V : Str) (tk tv : Tok) (N T : Nat) (r : Bool) :
    let o := run (xGe w b1 b2 S ts K tk r T) (match r with | true => geOr1 | false => geOr0) (stGe w L0 Lr itr pt p0 p1 hd dd hl tp p S ts n hh kh nd K V tk tv N T)
    seen (fun _ => ()) o = some (toldA o, toldC o, toldO o, .done (.ret (match r with | true => .str V tv | false => .none)), ctxIn (fcode w 116 (N + 292)) (belowTurn w (L0+292) (Lr+292) (itr+292) pt p0 p1), (), [], toldM o, toldI o, true) := by
  cases r <;> cases b1 <;> kernel_rfl
theorem get_call (w : World) (b1 b2 : Bool) (L0 Lr itr : Nat) (pt p0 p1 : Pos) (hd dd hl tp : Nat) (p : Pos) (S : Str) (ts : Tok) (n : Nat) (hh : Int) (kh : Tok) (nd : Nat) (K V : Str) (tk tv : Tok) (T : Nat) (d : Drawn) (ox : OsState) (R : Result → Shared → Prop) (h : Heap)
    (hS : NameS S) (hK : NameS K) (G : Glob (XX w b1 b2 tb []) h) (f1 : h.get? (hd+292) = some (hdrO (dd+292))) (f2 : h.get? (dd+292) = some (dictO [⟨hh, .str (nm "_headers") kh, .ref (hl+292)⟩] nd)) (f3 : h.get? (hl+292) = some (listO [.ref (tp+292)] n)) (f4 : h.get? (tp+292) = some (tupO [.str K tk, .str V tv]))
    (Kk : ∀ h' T', Ext [] h h' → R (.ok (.ret (match ((lowS K).cps.toList == (lowS S).cps.toList) with | true => .str V tv | false => .none))) ⟨h', ⟨[]⟩, d, T', ox⟩) :
    wpCode (model PySem.Challenge.pw_pe0217_01 (setW w b1 b2)) (ctxIn (.call (.ref 116) ⟨[.ref (hd+292), .str S ts], []⟩) (belowTurn w (L0+292) (Lr+292) (itr+292) pt p0 p1)) R p ⟨h, ⟨[]⟩, d, T, ox⟩ := by
  obtain ⟨N, hN⟩ := le_size f1 (Nat.le_add_left _ _)
  refine code_of_means (X := xGe w b1 b2 S ts K tk ((lowS K).cps.toList == (lowS S).cps.toList) T) (N := N) (means_of_done (get_run w b1 b2 L0 Lr itr pt p0 p1 hd dd hl tp p S ts n hh kh nd K V tk tv N T _) ⟨ok_lower hS ts, ok_name (low_name hS) _, ok_lower hK tk, ok_seq rfl, trivial⟩ (on_dif hN G ⟨f1, f2, f3, f4, trivial⟩ ?_ ?_) fun h' T' st' _ D' E' => Kk h' T' E')
  · ktd_rel
  · kt_len
end
end Mine

namespace Mine
noncomputable section
open PySem PySem.W PySem.W.X
structure TnA where
  (L0 L it pl dd : Nat)
  (p0 p1 p : Pos)
  (i left : Int)
  ps : List Value
  np : Nat
  es : List DictEntry
  hd : Int
  kd : Tok
  vd : Value
  (nd ne N T : Nat)
noncomputable def rTnA (w : World) (b1 b2 : Bool) (A : TnA) : Option St := rTn0 w b1 b2 A.L0 A.L A.it A.pl A.dd A.p0 A.p1 A.p A.i A.left A.ps A.np A.es A.hd A.kd A.vd A.nd A.ne A.N A.T
structure TnB where
  es : List DictEntry
  (ne tp N T : Nat)
noncomputable def stTn1 (w : World) (b1 b2 : Bool) (A : TnA) (B : TnB) : St :=
  resumeO (rTnA w b1 b2 A) (.ok (.ret (.ref (B.tp+292)))) [⟨A.L+292, frameO B.es B.ne, true⟩] [] B.N B.T
noncomputable def rTn1 (w : World) (b1 b2 : Bool) (A : TnA) (B : TnB) : Option St :=
  run (XX w b1 b2 tb []) [1, 1, 0, 1, 0, 0, 0, 0, 0, 0, 0, 0, 0, 0, 0, 0, 0, 0, 0, 0, 0, 0, 0, 0, 0, 0, 0, 0, 0, 0, 0, 0, 0, 0, 0, 0, 0, 1, 0, 1, 0, 0, 0, 0] (stTn1 w b1 b2 A B)
noncomputable def e3 (l pl pr : Nat) (h1 h2 h3 : Int) (k1 k2 k3 : Tok) : List DictEntry := [⟨h1, .str (nm "word") k1, .ref (l+292)⟩, ⟨h2, .str (nm "pile") k2, .ref (pl+292)⟩, ⟨h3, .str (nm "pairs") k3, .ref (pr+292)⟩]
noncomputable def e4 (l pl pr : Nat) (v4 : Value) (h1 h2 h3 h4 : Int) (k1 k2 k3 k4 : Tok) : List DictEntry := [⟨h1, .str (nm "word") k1, .ref (l+292)⟩, ⟨h2, .str (nm "pile") k2, .ref (pl+292)⟩, ⟨h3, .str (nm "pairs") k3, .ref (pr+292)⟩, ⟨h4, .str (nm "place") k4, v4⟩]
noncomputable def e5 (l pl pr : Nat) (v4 v5 : Value) (h1 h2 h3 h4 h5 : Int) (k1 k2 k3 k4 k5 : Tok) : List DictEntry := [⟨h1, .str (nm "word") k1, .ref (l+292)⟩, ⟨h2, .str (nm "pile") k2, .ref (pl+292)⟩, ⟨h3, .str (nm "pairs") k3, .ref (pr+292)⟩, ⟨h4, .str (nm "place") k4, v4⟩, ⟨h5, .str (nm "top") k5, v5⟩]
noncomputable def e6 (l pl pr : Nat) (v4 v5 v6 : Value) (h1 h2 h3 h4 h5 h6 : Int) (k1 k2 k3 k4 k5 k6 : Tok) : List DictEntry := [⟨h1, .str (nm "word") k1, .ref (l+292)⟩, ⟨h2, .str (nm "pile") k2, .ref (pl+292)⟩, ⟨h3, .str (nm "pairs") k3, .ref (pr+292)⟩, ⟨h4, .str (nm "place") k4, v4⟩, ⟨h5, .str (nm "top") k5, v5⟩, ⟨h6, .str (nm "met") k6, v6⟩]
noncomputable def kv5 (l pl pr : Addr) (v1 v2 : Value) : List (Option Str × Value) := [(some (nm "word"), .ref l), (some (nm "pile"), .ref pl), (some (nm "pairs"), .ref pr), (some (nm "place"), v1), (some (nm "top"), v2)]
theorem tn_seg1 (w : World) (b1 b2 : Bool) (A : TnA) (ne tp N T : Nat) (l pl pr : Nat) (v4 : Value) (h1 h2 h3 h4 : Int) (k1 k2 k3 k4 : Tok) (h1' h2' h3' : Int) (k1' k2' k3' : Tok) :
    let o := rTn1 w b1 b2 { A with es := e3 l pl pr h1' h2' h3' k1' k2' k3' } ⟨e4 l pl pr v4 h1 h2 h3 h4 k1 k2 k3 k4, ne, tp, N, T⟩
    seen (fun env => (nth env 0, nth env 1, nth env 2, shape (nth env 3))) o = some (toldA o, toldC o, toldO o, .call (.call (.ref 63) ⟨[.ref (N+294), .ref (N+292)], []⟩), ctxIn (.call (.ref 63) ⟨[.ref (N+294), .ref (N+292)], []⟩) (belowHi (N+292) (posO o) (belowTurn w (A.L0+292) (A.L+292) (A.it+292) (posO o) A.p0 A.p1)),
      (some ⟨N+294, hdrO (N+293), true⟩, some ⟨N+293, dictO [] 0, true⟩, some ⟨N+292, listO [.ref (tp+292)] 0, true⟩, some (A.L+292, some (.type "frame", none, #[], kv5 (l+292) (pl+292) (pr+292) v4 (.ref (tp+292))))), [], toldM o, toldI o, false) := by
  cases b1 <;> kernel_rfl
theorem tn_seg1' (w : World) (b1 b2 : Bool) (A : TnA) (ne tp N T : Nat) (l pl pr : Nat) (v4 v5 v6 : Value) (h1 h2 h3 h4 h5 h6 : Int) (k1 k2 k3 k4 k5 k6 : Tok) (v4' v5' v6' : Value) (h1' h2' h3' h4' h5' h6' : Int) (k1' k2' k3' k4' k5' k6' : Tok) :
    let o := rTn1 w b1 b2 { A with es := e6 l pl pr v4' v5' v6' h1' h2' h3' h4' h5' h6' k1' k2' k3' k4' k5' k6' } ⟨e6 l pl pr v4 v5 v6 h1 h2 h3 h4 h5 h6 k1 k2 k3 k4 k5 k6, ne, tp, N, T⟩
    seen (fun env => (nth env 0, nth env 1, nth env 2, shape (nth env 3))) o = some (toldA o, toldC o, toldO o, .call (.call (.ref 63) ⟨[.ref (N+294), .ref (N+292)], []⟩), ctxIn (.call (.ref 63) ⟨[.ref (N+294), .ref (N+292)], []⟩) (belowHi (N+292) (posO o) (belowTurn w (A.L0+292) (A.L+292) (A.it+292) (posO o) A.p0 A.p1)),
      (some ⟨N+294, hdrO (N+293), true⟩, some ⟨N+293, dictO [] 0, true⟩, some ⟨N+292, listO [.ref (tp+292)] 0, true⟩, some (A.L+292, some (.type "frame", none, #[], rnKv (l+292) (pl+292) (pr+292) v4 (.ref (tp+292)) v6))), [], toldM o, toldI o, false) := by
  cases b1 <;> kernel_rfl
structure TnC where
  es : List DictEntry
  (ne : Nat)
  hh : Int
  kh : Tok
  (nd l : Nat)
  its : List Value
  (n N T : Nat)
noncomputable def stTn2 (w : World) (b1 b2 : Bool) (A : TnA) (B : TnB) (C : TnC) : St :=
  resumeO (rTn1 w b1 b2 A B) (.ok (.ret .none)) [⟨A.L+292, frameO C.es C.ne, true⟩, ⟨B.N+294, hdrO (B.N+293), false⟩, ⟨B.N+293, dictO [⟨C.hh, .str (nm "_headers") C.kh, .ref (B.N+292)⟩] C.nd, false⟩, ⟨C.l+292, listO C.its C.n, false⟩] [] C.N C.T
structure TnS where
  i : Int
  t4 : Tok
  S : Str
  ts : Tok
noncomputable def rTn2 (w : World) (b1 b2 : Bool) (A : TnA) (B : TnB) (C : TnC) (S : TnS) : Option St :=
  run (XX w b1 b2 tb [hkItem 3 (C.l+292) C.its C.n S.i S.t4 (.str S.S S.ts)]) [2, 0, 0, 0, 2, 0, 0, 0, 2, 0, 0, 0, 0, 2, 3, 1, 1, 4, 4, 4, 1, 0] (stTn2 w b1 b2 A B C)
theorem tn_seg2 (w : World) (b1 b2 : Bool) (A : TnA) (B : TnB) (C : TnC) (S : TnS) (pl pr : Nat) (h1 h2 h3 h4 h5 : Int) (k1 k2 k3 k4 k5 : Tok) (h1' h2' h3' h4' : Int) (k1' k2' k3' k4' : Tok) (v4 : Value) (h1'' h2'' h3'' : Int) (k1'' k2'' k3'' : Tok) :
    let o := rTn2 w b1 b2 { A with es := e3 C.l pl pr h1'' h2'' h3'' k1'' k2'' k3'' } { B with es := e4 C.l pl pr v4 h1' h2' h3' h4' k1' k2' k3' k4' } { C with es := e5 C.l pl pr (.int S.i S.t4) (.ref (B.tp+292)) h1 h2 h3 h4 h5 k1 k2 k3 k4 k5 } S
    seen (fun env => nth env 0) o = some (toldA o, toldC o, toldO o, .call (.call (.ref 116) ⟨[.ref (B.N+294), .str S.S S.ts], []⟩), ctxIn (.call (.ref 116) ⟨[.ref (B.N+294), .str S.S S.ts], []⟩) (belowTurn w (A.L0+292) (A.L+292) (A.it+292) (posO o) A.p0 A.p1),
      some ⟨A.L+292, frameO (e5 C.l pl pr (.int S.i S.t4) (.ref (B.tp+292)) h1 h2 h3 h4 h5 k1 k2 k3 k4 k5) C.ne, true⟩, [], toldM o, toldI o, true) := by
  cases b1 <;> kernel_rfl
theorem tn_seg2' (w : World) (b1 b2 : Bool) (A : TnA) (B : TnB) (C : TnC) (S : TnS) (pl pr : Nat) (h1 h2 h3 h4 h5 h6 : Int) (k1 k2 k3 k4 k5 k6 : Tok) (v6 : Value) (h1' h2' h3' h4' h5' h6' : Int) (k1' k2' k3' k4' k5' k6' : Tok) (v4' v5' v6' : Value) (h1'' h2'' h3'' h4'' h5'' h6'' : Int) (k1'' k2'' k3'' k4'' k5'' k6'' : Tok) (v4'' v5'' v6'' : Value) :
    let o := rTn2 w b1 b2 { A with es := e6 C.l pl pr v4'' v5'' v6'' h1'' h2'' h3'' h4'' h5'' h6'' k1'' k2'' k3'' k4'' k5'' k6'' } { B with es := e6 C.l pl pr v4' v5' v6' h1' h2' h3' h4' h5' h6' k1' k2' k3' k4' k5' k6' } { C with es := e6 C.l pl pr (.int S.i S.t4) (.ref (B.tp+292)) v6 h1 h2 h3 h4 h5 h6 k1 k2 k3 k4 k5 k6 } S
    seen (fun env => nth env 0) o = some (toldA o, toldC o, toldO o, .call (.call (.ref 116) ⟨[.ref (B.N+294), .str S.S S.ts], []⟩), ctxIn (.call (.ref 116) ⟨[.ref (B.N+294), .str S.S S.ts], []⟩) (belowTurn w (A.L0+292) (A.L+292) (A.it+292) (posO o) A.p0 A.p1),
      some ⟨A.L+292, frameO (e6 C.l pl pr (.int S.i S.t4) (.ref (B.tp+292)) v6 h1 h2 h3 h4 h5 h6 k1 k2 k3 k4 k5 k6) C.ne, true⟩, [], toldM o, toldI o, true) := by
  cases b1 <;> kernel_rfl
structure TnD where
  mv : Value
  (pl pr dd : Nat)
  ps : List Value
  (np : Nat)
  prs : List Value
  (npr : Nat)
  (K V : Str)
  (tk tv : Tok)
  hd : Int
  kd : Tok
  vd : Value
  (nd N T : Nat)
noncomputable def stTn3 (w : World) (b1 b2 : Bool) (A : TnA) (B : TnB) (C : TnC) (S : TnS) (D : TnD) : St :=
  resumeO (rTn2 w b1 b2 A B C S) (.ok (.ret D.mv)) [⟨A.L+292, frameO C.es C.ne, true⟩, ⟨C.l+292, listO C.its C.n, false⟩, ⟨D.pl+292, pileO (D.dd+292) D.ps D.np, true⟩, ⟨D.pr+292, listO D.prs D.npr, true⟩, ⟨B.tp+292, tupO [.str D.K D.tk, .str D.V D.tv], false⟩, ⟨D.dd+292, dictO [⟨D.hd, .str (nm "_initial_size") D.kd, D.vd⟩] D.nd, false⟩] [] D.N D.T
end
end Mine

namespace Mine
noncomputable section
open PySem PySem.W PySem.W.X
set_option maxHeartbeats 4000000
noncomputable def xTnA (w : World) (b1 b2 : Bool) (C : TnC) (S : TnS) (D : TnD) (j : Nat) : Cx :=
  XX w b1 b2 tb [hkAppP 4 D.pl D.dd D.ps D.np (.ref (D.N+293)), hkItem 3 (C.l+292) C.its C.n j S.t4 (.str S.S S.ts), hkStrOf j S.t4, hkAppP 6 D.pl D.dd (D.ps ++ [.ref (D.N+293)]) (D.np+1) (.ref (D.N+295))]
noncomputable def xTnB (w : World) (b1 b2 : Bool) (C : TnC) (S : TnS) (D : TnD) (j : Nat) : Cx :=
  XX w b1 b2 tb [hkItem 1 (C.l+292) C.its C.n j S.t4 (.str S.S S.ts), hkVal "str.__eq__" [.str D.K D.tk, .str S.S S.ts] (.bool true), hkAppP 4 D.pl D.dd D.ps D.np (.ref (D.N+293)), hkItem 3 (C.l+292) C.its C.n j S.t4 (.str S.S S.ts), hkStrOf j S.t4, hkAppP 6 D.pl D.dd (D.ps ++ [.ref (D.N+293)]) (D.np+1) (.ref (D.N+295))]
noncomputable def xTnC (w : World) (b1 b2 : Bool) (C : TnC) (S : TnS) (D : TnD) (j : Nat) : Cx :=
  XX w b1 b2 tb [hkItem 1 (C.l+292) C.its C.n j S.t4 (.str S.S S.ts), hkVal "str.__eq__" [.str D.K D.tk, .str S.S S.ts] (.bool false), hkStrOf j S.t4, hkApp 4 (D.pr+292) D.prs D.npr (.ref (D.N+292))]
noncomputable def orA : List Nat := [1, 1, 1, 1, 3, 0, 0, 0, 3, 0, 0, 0, 3, 0, 0, 0, 0, 3, 6, 1, 5, 5, 5, 0, 5, 0, 5, 1, 5, 5, 5, 0, 5, 0, 5, 0, 0, 0, 0, 1, 1, 1, 1, 1, 1, 0, 0, 1, 4, 0, 0, 0, 4, 0, 0, 0, 4, 0, 0, 0, 4, 7, 1, 1, 1, 3, 5, 0, 0, 0, 5, 0, 0, 0, 5, 0, 0, 0, 0, 5, 8, 3, 3, 4, 4, 4, 2, 0, 0, 3, 3, 0, 0, 0, 0, 1, 1, 1, 1, 1, 1, 0, 0, 1, 6, 0, 0, 0, 6, 0, 0, 0, 6, 0, 0, 0, 6, 9, 1, 1, 4]
noncomputable def orB : List Nat := [1, 1, 1, 1, 5, 5, 5, 0, 5, 0, 5, 1, 1, 2, 2, 2, 1, 2, 1, 3, 0, 0, 0, 3, 0, 0, 0, 3, 0, 0, 0, 0, 3, 6, 1, 5, 5, 5, 0, 5, 0, 5, 1, 5, 5, 5, 0, 5, 0, 5, 0, 0, 0, 0, 1, 1, 1, 1, 1, 1, 0, 0, 1, 4, 0, 0, 0, 4, 0, 0, 0, 4, 0, 0, 0, 4, 7, 1, 1, 3, 3, 5, 0, 0, 0, 5, 0, 0, 0, 5, 0, 0, 0, 0, 5, 8, 3, 3, 4, 4, 4, 4, 0, 0, 3, 5, 0, 0, 0, 0, 1, 1, 1, 1, 1, 1, 0, 0, 1, 6, 0, 0, 0, 6, 0, 0, 0, 6, 0, 0, 0, 6, 9, 1, 1, 6]
noncomputable def orC : List Nat := [1, 1, 1, 1, 5, 5, 5, 0, 5, 0, 5, 1, 1, 2, 2, 2, 1, 2, 1, 4, 4, 4, 4, 1, 0, 0, 1, 3, 4]
noncomputable def vTn (env : List Ent) := (nth env 0, nth env 2, shape (nth env 4), nth env 6, nth env 7)
theorem tn_seg3 (w : World) (b1 b2 : Bool) (A : TnA) (B : TnB) (C : TnC) (S : TnS) (D : TnD) (j : Nat) (h1 h2 h3 h4 h5 : Int) (k1 k2 k3 k4 k5 : Tok) (h1' h2' h3' h4' : Int) (k1' k2' k3' k4' : Tok) (v4 : Value) (h1'' h2'' h3'' : Int) (k1'' k2'' k3'' : Tok) :
    let o := run (xTnA w b1 b2 C S D j) orA (stTn3 w b1 b2 { A with es := e3 C.l D.pl D.pr h1'' h2'' h3'' k1'' k2'' k3'' } { B with es := e4 C.l D.pl D.pr v4 h1' h2' h3' h4' k1' k2' k3' k4' } { C with es := e5 C.l D.pl D.pr (.int j S.t4) (.ref (B.tp+292)) h1 h2 h3 h4 h5 k1 k2 k3 k4 k5 } { S with i := j } { D with mv := .none })
    seen vTn o = some (toldA o, toldC o, toldO o, .again (rnLoop w (A.it+292) (A.L+292)), ctxIn (rnLoop w (A.it+292) (A.L+292)) (belowRun w (A.L0+292) (A.L+292) A.p0 A.p1),
      (some ⟨D.N+295, tupO [.str S.S S.ts, .str (digs j) (D.T+6)], true⟩, some ⟨D.N+293, tupO [.str D.K D.tk, .str D.V D.tv], true⟩, some (A.L+292, some (.type "frame", none, #[], rnKv (C.l+292) (D.pl+292) (D.pr+292) (.int j S.t4) (.ref (B.tp+292)) .none)),
        some ⟨D.pl+292, pileO (D.dd+292) (D.ps ++ [.ref (D.N+293)] ++ [.ref (D.N+295)]) (D.np + 1 + 1), true⟩, some ⟨D.pr+292, listO D.prs D.npr, true⟩), [], toldM o, toldI o, true) := by
  cases b1 <;> kernel_rfl
theorem tn_seg3a (w : World) (b1 b2 : Bool) (A : TnA) (B : TnB) (C : TnC) (S : TnS) (D : TnD) (j : Nat) (h1 h2 h3 h4 h5 h6 : Int) (k1 k2 k3 k4 k5 k6 : Tok) (v6 : Value) (h1' h2' h3' h4' h5' h6' : Int) (k1' k2' k3' k4' k5' k6' : Tok) (v4' v5' v6' : Value) (h1'' h2'' h3'' h4'' h5'' h6'' : Int) (k1'' k2'' k3'' k4'' k5'' k6'' : Tok) (v4'' v5'' v6'' : Value) :
    let o := run (xTnA w b1 b2 C S D j) orA (stTn3 w b1 b2 { A with es := e6 C.l D.pl D.pr v4'' v5'' v6'' h1'' h2'' h3'' h4'' h5'' h6'' k1'' k2'' k3'' k4'' k5'' k6'' } { B with es := e6 C.l D.pl D.pr v4' v5' v6' h1' h2' h3' h4' h5' h6' k1' k2' k3' k4' k5' k6' } { C with es := e6 C.l D.pl D.pr (.int j S.t4) (.ref (B.tp+292)) v6 h1 h2 h3 h4 h5 h6 k1 k2 k3 k4 k5 k6 } { S with i := j } { D with mv := .none })
    seen vTn o = some (toldA o, toldC o, toldO o, .again (rnLoop w (A.it+292) (A.L+292)), ctxIn (rnLoop w (A.it+292) (A.L+292)) (belowRun w (A.L0+292) (A.L+292) A.p0 A.p1),
      (some ⟨D.N+295, tupO [.str S.S S.ts, .str (digs j) (D.T+6)], true⟩, some ⟨D.N+293, tupO [.str D.K D.tk, .str D.V D.tv], true⟩, some (A.L+292, some (.type "frame", none, #[], rnKv (C.l+292) (D.pl+292) (D.pr+292) (.int j S.t4) (.ref (B.tp+292)) .none)),
        some ⟨D.pl+292, pileO (D.dd+292) (D.ps ++ [.ref (D.N+293)] ++ [.ref (D.N+295)]) (D.np + 1 + 1), true⟩, some ⟨D.pr+292, listO D.prs D.npr, true⟩), [], toldM o, toldI o, true) := by
  cases b1 <;> kernel_rfl
theorem tn_seg3b (w : World) (b1 b2 : Bool) (A : TnA) (B : TnB) (C : TnC) (S : TnS) (D : TnD) (j : Nat) (tm : Tok) (h1 h2 h3 h4 h5 h6 : Int) (k1 k2 k3 k4 k5 k6 : Tok) (v6 : Value) (h1' h2' h3' h4' h5' h6' : Int) (k1' k2' k3' k4' k5' k6' : Tok) (v4' v5' v6' : Value) (h1'' h2'' h3'' h4'' h5'' h6'' : Int) (k1'' k2'' k3'' k4'' k5'' k6'' : Tok) (v4'' v5'' v6'' : Value) :
    let o := run (xTnB w b1 b2 C S D j) orB (stTn3 w b1 b2 { A with es := e6 C.l D.pl D.pr v4'' v5'' v6'' h1'' h2'' h3'' h4'' h5'' h6'' k1'' k2'' k3'' k4'' k5'' k6'' } { B with es := e6 C.l D.pl D.pr v4' v5' v6' h1' h2' h3' h4' h5' h6' k1' k2' k3' k4' k5' k6' } { C with es := e6 C.l D.pl D.pr (.int j S.t4) (.ref (B.tp+292)) v6 h1 h2 h3 h4 h5 h6 k1 k2 k3 k4 k5 k6 } { S with i := j } { D with mv := .str D.V tm })
    seen vTn o = some (toldA o, toldC o, toldO o, .again (rnLoop w (A.it+292) (A.L+292)), ctxIn (rnLoop w (A.it+292) (A.L+292)) (belowRun w (A.L0+292) (A.L+292) A.p0 A.p1),
      (some ⟨D.N+295, tupO [.str S.S S.ts, .str (digs j) (D.T+7)], true⟩, some ⟨D.N+293, tupO [.str D.K D.tk, .str D.V D.tv], true⟩, some (A.L+292, some (.type "frame", none, #[], rnKv (C.l+292) (D.pl+292) (D.pr+292) (.int j S.t4) (.ref (B.tp+292)) (.str D.V tm))),
        some ⟨D.pl+292, pileO (D.dd+292) (D.ps ++ [.ref (D.N+293)] ++ [.ref (D.N+295)]) (D.np + 1 + 1), true⟩, some ⟨D.pr+292, listO D.prs D.npr, true⟩), [], toldM o, toldI o, true) := by
  cases b1 <;> kernel_rfl
theorem tn_seg3c (w : World) (b1 b2 : Bool) (A : TnA) (B : TnB) (C : TnC) (S : TnS) (D : TnD) (j : Nat) (tm : Tok) (h1 h2 h3 h4 h5 h6 : Int) (k1 k2 k3 k4 k5 k6 : Tok) (v6 : Value) (h1' h2' h3' h4' h5' h6' : Int) (k1' k2' k3' k4' k5' k6' : Tok) (v4' v5' v6' : Value) (h1'' h2'' h3'' h4'' h5'' h6'' : Int) (k1'' k2'' k3'' k4'' k5'' k6'' : Tok) (v4'' v5'' v6'' : Value) :
    let o := run (xTnC w b1 b2 C S D j) orC (stTn3 w b1 b2 { A with es := e6 C.l D.pl D.pr v4'' v5'' v6'' h1'' h2'' h3'' h4'' h5'' h6'' k1'' k2'' k3'' k4'' k5'' k6'' } { B with es := e6 C.l D.pl D.pr v4' v5' v6' h1' h2' h3' h4' h5' h6' k1' k2' k3' k4' k5' k6' } { C with es := e6 C.l D.pl D.pr (.int j S.t4) (.ref (B.tp+292)) v6 h1 h2 h3 h4 h5 h6 k1 k2 k3 k4 k5 k6 } { S with i := j } { D with mv := .str D.V tm })
    seen (fun env => (nth env 0, shape (nth env 1), nth env 3, nth env 4)) o = some (toldA o, toldC o, toldO o, .again (rnLoop w (A.it+292) (A.L+292)), ctxIn (rnLoop w (A.it+292) (A.L+292)) (belowRun w (A.L0+292) (A.L+292) A.p0 A.p1),
      (some ⟨D.N+292, tupO [.str D.V tm, .str (digs j) (D.T+2)], true⟩, some (A.L+292, some (.type "frame", none, #[], rnKv (C.l+292) (D.pl+292) (D.pr+292) (.int j S.t4) (.ref (B.tp+292)) (.str D.V tm))),
        some ⟨D.pl+292, pileO (D.dd+292) D.ps D.np, true⟩, some ⟨D.pr+292, listO (D.prs ++ [.ref (D.N+292)]) (D.npr + 1), true⟩), [], toldM o, toldI o, true) := by
  cases b1 <;> kernel_rfl
end
end Mine

namespace Mine
noncomputable section
open PySem PySem.W PySem.W.X
set_option maxHeartbeats 4000000
structure Zs where
  (h1 h2 h3 h4 h5 h6 : Int)
  (k1 k2 k3 k4 k5 k6 : Tok)
  (v4 v5 v6 : Value)
noncomputable def esA (f : Bool) (l pl pr : Nat) (z : Zs) : List DictEntry := match f with
  | true => e3 l pl pr z.h1 z.h2 z.h3 z.k1 z.k2 z.k3
  | false => e6 l pl pr z.v4 z.v5 z.v6 z.h1 z.h2 z.h3 z.h4 z.h5 z.h6 z.k1 z.k2 z.k3 z.k4 z.k5 z.k6
noncomputable def esB (f : Bool) (l pl pr : Nat) (z : Zs) : List DictEntry := match f with
  | true => e4 l pl pr z.v4 z.h1 z.h2 z.h3 z.h4 z.k1 z.k2 z.k3 z.k4
  | false => e6 l pl pr z.v4 z.v5 z.v6 z.h1 z.h2 z.h3 z.h4 z.h5 z.h6 z.k1 z.k2 z.k3 z.k4 z.k5 z.k6
noncomputable def esC (f : Bool) (l pl pr : Nat) (v4 v5 : Value) (z : Zs) : List DictEntry := match f with
  | true => e5 l pl pr v4 v5 z.h1 z.h2 z.h3 z.h4 z.h5 z.k1 z.k2 z.k3 z.k4 z.k5
  | false => e6 l pl pr v4 v5 z.v6 z.h1 z.h2 z.h3 z.h4 z.h5 z.h6 z.k1 z.k2 z.k3 z.k4 z.k5 z.k6
noncomputable def kvA (f : Bool) (l pl pr : Addr) (v4 v5 v6 : Value) : List (Option Str × Value) := match f with
  | true => rnFr l pl pr
  | false => rnKv l pl pr v4 v5 v6
noncomputable def kvB (f : Bool) (l pl pr : Addr) (v4 v5 v6 : Value) : List (Option Str × Value) := match f with
  | true => [(some (nm "word"), .ref l), (some (nm "pile"), .ref pl), (some (nm "pairs"), .ref pr), (some (nm "place"), v4)]
  | false => rnKv l pl pr v4 v5 v6
noncomputable def kvC (f : Bool) (l pl pr : Addr) (v4 v5 v6 : Value) : List (Option Str × Value) := match f with
  | true => kv5 l pl pr v4 v5
  | false => rnKv l pl pr v4 v5 v6
theorem esA_of {f : Bool} {l pl pr : Nat} {v4 v5 v6 : Value} {es : List DictEntry} (h : kvs es = kvA f (l+292) (pl+292) (pr+292) v4 v5 v6) : ∃ z, es = esA f l pl pr z := by
  cases f with
  | true =>
    obtain ⟨z1, k1, r1, rfl, h1⟩ := kvs_cons h
    obtain ⟨z2, k2, r2, rfl, h2⟩ := kvs_cons h1
    obtain ⟨z3, k3, r3, rfl, h3⟩ := kvs_cons h2
    cases kvs_nil h3
    exact ⟨⟨z1, z2, z3, 0, 0, 0, k1, k2, k3, 0, 0, 0, .none, .none, .none⟩, rfl⟩
  | false =>
    obtain ⟨z1, k1, r1, rfl, h1⟩ := kvs_cons h
    obtain ⟨z2, k2, r2, rfl, h2⟩ := kvs_cons h1
    obtain ⟨z3, k3, r3, rfl, h3⟩ := kvs_cons h2
    obtain ⟨z4, k4, r4, rfl, h4⟩ := kvs_cons h3
    obtain ⟨z5, k5, r5, rfl, h5⟩ := kvs_cons h4
    obtain ⟨z6, k6, r6, rfl, h6⟩ := kvs_cons h5
    cases kvs_nil h6
    exact ⟨⟨z1, z2, z3, z4, z5, z6, k1, k2, k3, k4, k5, k6, v4, v5, v6⟩, rfl⟩
theorem esB_of {f : Bool} {l pl pr : Nat} {v4 v5 v6 : Value} {es : List DictEntry} (h : kvs es = kvB f (l+292) (pl+292) (pr+292) v4 v5 v6) : ∃ z, z.v4 = v4 ∧ es = esB f l pl pr z := by
  cases f with
  | true =>
    obtain ⟨z1, k1, r1, rfl, h1⟩ := kvs_cons h
    obtain ⟨z2, k2, r2, rfl, h2⟩ := kvs_cons h1
    obtain ⟨z3, k3, r3, rfl, h3⟩ := kvs_cons h2
    obtain ⟨z4, k4, r4, rfl, h4⟩ := kvs_cons h3
    cases kvs_nil h4
    exact ⟨⟨z1, z2, z3, z4, 0, 0, k1, k2, k3, k4, 0, 0, v4, .none, .none⟩, rfl, rfl⟩
  | false =>
    obtain ⟨z1, k1, r1, rfl, h1⟩ := kvs_cons h
    obtain ⟨z2, k2, r2, rfl, h2⟩ := kvs_cons h1
    obtain ⟨z3, k3, r3, rfl, h3⟩ := kvs_cons h2
    obtain ⟨z4, k4, r4, rfl, h4⟩ := kvs_cons h3
    obtain ⟨z5, k5, r5, rfl, h5⟩ := kvs_cons h4
    obtain ⟨z6, k6, r6, rfl, h6⟩ := kvs_cons h5
    cases kvs_nil h6
    exact ⟨⟨z1, z2, z3, z4, z5, z6, k1, k2, k3, k4, k5, k6, v4, v5, v6⟩, rfl, rfl⟩
theorem esC_of {f : Bool} {l pl pr : Nat} {v4 v5 v6 : Value} {es : List DictEntry} (h : kvs es = kvC f (l+292) (pl+292) (pr+292) v4 v5 v6) : ∃ z, es = esC f l pl pr v4 v5 z := by
  cases f with
  | true =>
    obtain ⟨z1, k1, r1, rfl, h1⟩ := kvs_cons h
    obtain ⟨z2, k2, r2, rfl, h2⟩ := kvs_cons h1
    obtain ⟨z3, k3, r3, rfl, h3⟩ := kvs_cons h2
    obtain ⟨z4, k4, r4, rfl, h4⟩ := kvs_cons h3
    obtain ⟨z5, k5, r5, rfl, h5⟩ := kvs_cons h4
    cases kvs_nil h5
    exact ⟨⟨z1, z2, z3, z4, z5, 0, k1, k2, k3, k4, k5, 0, .none, .none, .none⟩, rfl⟩
  | false =>
    obtain ⟨z1, k1, r1, rfl, h1⟩ := kvs_cons h
    obtain ⟨z2, k2, r2, rfl, h2⟩ := kvs_cons h1
    obtain ⟨z3, k3, r3, rfl, h3⟩ := kvs_cons h2
    obtain ⟨z4, k4, r4, rfl, h4⟩ := kvs_cons h3
    obtain ⟨z5, k5, r5, rfl, h5⟩ := kvs_cons h4
    obtain ⟨z6, k6, r6, rfl, h6⟩ := kvs_cons h5
    cases kvs_nil h6
    exact ⟨⟨z1, z2, z3, z4, z5, z6, k1, k2, k3, k4, k5, k6, .none, .none, v6⟩, rfl⟩

theorem sg0 (w : World) (b1 b2 : Bool) (f : Bool) (A : TnA) (l pr : Nat) (z : Zs) : let A' : TnA := { A with es := esA f l A.pl pr z }; let o := rTnA w b1 b2 A'
    seen (fun env => (nth env 0, shape (nth env 1))) o = some (toldA o, toldC o, toldO o, .call (.call (.ref 213) ⟨[.ref (A.pl+292)], []⟩), ctxIn (.call (.ref 213) ⟨[.ref (A.pl+292)], []⟩) (belowTurn w (A.L0+292) (A.L+292) (A.it+292) (posO o) A.p0 A.p1),
      (some ⟨A.it+292, rngI (A.i + 1) (A.left - 1), true⟩, some (A.L+292, some (.type "frame", none, #[], kvB f (l+292) (A.pl+292) (pr+292) (.int A.i A.T) z.v5 z.v6))), [], toldM o, toldI o, true) := by
  cases f
  · exact tn_seg0' w b1 b2 A.L0 A.L A.it l A.pl A.dd pr A.p0 A.p1 A.p A.i A.left A.ps A.np z.h1 z.h2 z.h3 z.h4 z.h5 z.h6 A.hd z.k1 z.k2 z.k3 z.k4 z.k5 z.k6 A.kd z.v4 z.v5 z.v6 A.vd A.nd A.ne A.N A.T
  · exact tn_seg0 w b1 b2 A.L0 A.L A.it l A.pl A.dd pr A.p0 A.p1 A.p A.i A.left A.ps A.np z.h1 z.h2 z.h3 A.hd z.k1 z.k2 z.k3 A.kd A.vd A.nd A.ne A.N A.T
theorem sg1 (w : World) (b1 b2 : Bool) (f : Bool) (A : TnA) (ne tp N T : Nat) (l pl pr : Nat) (z z' : Zs) :
    let o := rTn1 w b1 b2 { A with es := esA f l pl pr z } ⟨esB f l pl pr z', ne, tp, N, T⟩
    seen (fun env => (nth env 0, nth env 1, nth env 2, shape (nth env 3))) o = some (toldA o, toldC o, toldO o, .call (.call (.ref 63) ⟨[.ref (N+294), .ref (N+292)], []⟩), ctxIn (.call (.ref 63) ⟨[.ref (N+294), .ref (N+292)], []⟩) (belowHi (N+292) (posO o) (belowTurn w (A.L0+292) (A.L+292) (A.it+292) (posO o) A.p0 A.p1)),
      (some ⟨N+294, hdrO (N+293), true⟩, some ⟨N+293, dictO [] 0, true⟩, some ⟨N+292, listO [.ref (tp+292)] 0, true⟩, some (A.L+292, some (.type "frame", none, #[], kvC f (l+292) (pl+292) (pr+292) z'.v4 (.ref (tp+292)) z'.v6))), [], toldM o, toldI o, false) := by
  cases f
  · exact tn_seg1' w b1 b2 A ne tp N T l pl pr z'.v4 z'.v5 z'.v6 z'.h1 z'.h2 z'.h3 z'.h4 z'.h5 z'.h6 z'.k1 z'.k2 z'.k3 z'.k4 z'.k5 z'.k6 z.v4 z.v5 z.v6 z.h1 z.h2 z.h3 z.h4 z.h5 z.h6 z.k1 z.k2 z.k3 z.k4 z.k5 z.k6
  · exact tn_seg1 w b1 b2 A ne tp N T l pl pr z'.v4 z'.h1 z'.h2 z'.h3 z'.h4 z'.k1 z'.k2 z'.k3 z'.k4 z.h1 z.h2 z.h3 z.k1 z.k2 z.k3
theorem sg2 (w : World) (b1 b2 : Bool) (f : Bool) (A : TnA) (B : TnB) (C : TnC) (S : TnS) (pl pr : Nat) (z z' z'' : Zs) :
    let o := rTn2 w b1 b2 { A with es := esA f C.l pl pr z } { B with es := esB f C.l pl pr z' } { C with es := esC f C.l pl pr (.int S.i S.t4) (.ref (B.tp+292)) z'' } S
    seen (fun env => nth env 0) o = some (toldA o, toldC o, toldO o, .call (.call (.ref 116) ⟨[.ref (B.N+294), .str S.S S.ts], []⟩), ctxIn (.call (.ref 116) ⟨[.ref (B.N+294), .str S.S S.ts], []⟩) (belowTurn w (A.L0+292) (A.L+292) (A.it+292) (posO o) A.p0 A.p1),
      some ⟨A.L+292, frameO (esC f C.l pl pr (.int S.i S.t4) (.ref (B.tp+292)) z'') C.ne, true⟩, [], toldM o, toldI o, true) := by
  cases f
  · exact tn_seg2' w b1 b2 A B C S pl pr z''.h1 z''.h2 z''.h3 z''.h4 z''.h5 z''.h6 z''.k1 z''.k2 z''.k3 z''.k4 z''.k5 z''.k6 z''.v6 z'.h1 z'.h2 z'.h3 z'.h4 z'.h5 z'.h6 z'.k1 z'.k2 z'.k3 z'.k4 z'.k5 z'.k6 z'.v4 z'.v5 z'.v6 z.h1 z.h2 z.h3 z.h4 z.h5 z.h6 z.k1 z.k2 z.k3 z.k4 z.k5 z.k6 z.v4 z.v5 z.v6
  · exact tn_seg2 w b1 b2 A B C S pl pr z''.h1 z''.h2 z''.h3 z''.h4 z''.h5 z''.k1 z''.k2 z''.k3 z''.k4 z''.k5 z'.h1 z'.h2 z'.h3 z'.h4 z'.k1 z'.k2 z'.k3 z'.k4 z'.v4 z.h1 z.h2 z.h3 z.k1 z.k2 z.k3
theorem sg3a (w : World) (b1 b2 : Bool) (f : Bool) (A : TnA) (B : TnB) (C : TnC) (S : TnS) (D : TnD) (j : Nat) (z z' z'' : Zs) :
    let o := run (xTnA w b1 b2 C S D j) orA (stTn3 w b1 b2 { A with es := esA f C.l D.pl D.pr z } { B with es := esB f C.l D.pl D.pr z' } { C with es := esC f C.l D.pl D.pr (.int j S.t4) (.ref (B.tp+292)) z'' } { S with i := j } { D with mv := .none })
    seen vTn o = some (toldA o, toldC o, toldO o, .again (rnLoop w (A.it+292) (A.L+292)), ctxIn (rnLoop w (A.it+292) (A.L+292)) (belowRun w (A.L0+292) (A.L+292) A.p0 A.p1),
      (some ⟨D.N+295, tupO [.str S.S S.ts, .str (digs j) (D.T+6)], true⟩, some ⟨D.N+293, tupO [.str D.K D.tk, .str D.V D.tv], true⟩, some (A.L+292, some (.type "frame", none, #[], rnKv (C.l+292) (D.pl+292) (D.pr+292) (.int j S.t4) (.ref (B.tp+292)) .none)),
        some ⟨D.pl+292, pileO (D.dd+292) (D.ps ++ [.ref (D.N+293)] ++ [.ref (D.N+295)]) (D.np + 1 + 1), true⟩, some ⟨D.pr+292, listO D.prs D.npr, true⟩), [], toldM o, toldI o, true) := by
  cases f
  · exact tn_seg3a w b1 b2 A B C S D j z''.h1 z''.h2 z''.h3 z''.h4 z''.h5 z''.h6 z''.k1 z''.k2 z''.k3 z''.k4 z''.k5 z''.k6 z''.v6 z'.h1 z'.h2 z'.h3 z'.h4 z'.h5 z'.h6 z'.k1 z'.k2 z'.k3 z'.k4 z'.k5 z'.k6 z'.v4 z'.v5 z'.v6 z.h1 z.h2 z.h3 z.h4 z.h5 z.h6 z.k1 z.k2 z.k3 z.k4 z.k5 z.k6 z.v4 z.v5 z.v6
  · exact tn_seg3 w b1 b2 A B C S D j z''.h1 z''.h2 z''.h3 z''.h4 z''.h5 z''.k1 z''.k2 z''.k3 z''.k4 z''.k5 z'.h1 z'.h2 z'.h3 z'.h4 z'.k1 z'.k2 z'.k3 z'.k4 z'.v4 z.h1 z.h2 z.h3 z.k1 z.k2 z.k3
theorem sg3b (w : World) (b1 b2 : Bool) (A : TnA) (B : TnB) (C : TnC) (S : TnS) (D : TnD) (j : Nat) (tm : Tok) (z z' z'' : Zs) :
    let o := run (xTnB w b1 b2 C S D j) orB (stTn3 w b1 b2 { A with es := esA false C.l D.pl D.pr z } { B with es := esB false C.l D.pl D.pr z' } { C with es := esC false C.l D.pl D.pr (.int j S.t4) (.ref (B.tp+292)) z'' } { S with i := j } { D with mv := .str D.V tm })
    seen vTn o = some (toldA o, toldC o, toldO o, .again (rnLoop w (A.it+292) (A.L+292)), ctxIn (rnLoop w (A.it+292) (A.L+292)) (belowRun w (A.L0+292) (A.L+292) A.p0 A.p1),
      (some ⟨D.N+295, tupO [.str S.S S.ts, .str (digs j) (D.T+7)], true⟩, some ⟨D.N+293, tupO [.str D.K D.tk, .str D.V D.tv], true⟩, some (A.L+292, some (.type "frame", none, #[], rnKv (C.l+292) (D.pl+292) (D.pr+292) (.int j S.t4) (.ref (B.tp+292)) (.str D.V tm))),
        some ⟨D.pl+292, pileO (D.dd+292) (D.ps ++ [.ref (D.N+293)] ++ [.ref (D.N+295)]) (D.np + 1 + 1), true⟩, some ⟨D.pr+292, listO D.prs D.npr, true⟩), [], toldM o, toldI o, true) :=
  tn_seg3b w b1 b2 A B C S D j tm z''.h1 z''.h2 z''.h3 z''.h4 z''.h5 z''.h6 z''.k1 z''.k2 z''.k3 z''.k4 z''.k5 z''.k6 z''.v6 z'.h1 z'.h2 z'.h3 z'.h4 z'.h5 z'.h6 z'.k1 z'.k2 z'.k3 z'.k4 z'.k5 z'.k6 z'.v4 z'.v5 z'.v6 z.h1 z.h2 z.h3 z.h4 z.h5 z.h6 z.k1 z.k2 z.k3 z.k4 z.k5 z.k6 z.v4 z.v5 z.v6
theorem sg3c (w : World) (b1 b2 : Bool) (A : TnA) (B : TnB) (C : TnC) (S : TnS) (D : TnD) (j : Nat) (tm : Tok) (z z' z'' : Zs) :
    let o := run (xTnC w b1 b2 C S D j) orC (stTn3 w b1 b2 { A with es := esA false C.l D.pl D.pr z } { B with es := esB false C.l D.pl D.pr z' } { C with es := esC false C.l D.pl D.pr (.int j S.t4) (.ref (B.tp+292)) z'' } { S with i := j } { D with mv := .str D.V tm })
    seen (fun env => (nth env 0, shape (nth env 1), nth env 3, nth env 4)) o = some (toldA o, toldC o, toldO o, .again (rnLoop w (A.it+292) (A.L+292)), ctxIn (rnLoop w (A.it+292) (A.L+292)) (belowRun w (A.L0+292) (A.L+292) A.p0 A.p1),
      (some ⟨D.N+292, tupO [.str D.V tm, .str (digs j) (D.T+2)], true⟩, some (A.L+292, some (.type "frame", none, #[], rnKv (C.l+292) (D.pl+292) (D.pr+292) (.int j S.t4) (.ref (B.tp+292)) (.str D.V tm))),
        some ⟨D.pl+292, pileO (D.dd+292) D.ps D.np, true⟩, some ⟨D.pr+292, listO (D.prs ++ [.ref (D.N+292)]) (D.npr + 1), true⟩), [], toldM o, toldI o, true) :=
  tn_seg3c w b1 b2 A B C S D j tm z''.h1 z''.h2 z''.h3 z''.h4 z''.h5 z''.h6 z''.k1 z''.k2 z''.k3 z''.k4 z''.k5 z''.k6 z''.v6 z'.h1 z'.h2 z'.h3 z'.h4 z'.h5 z'.h6 z'.k1 z'.k2 z'.k3 z'.k4 z'.k5 z'.k6 z'.v4 z'.v5 z'.v6 z.h1 z.h2 z.h3 z.h4 z.h5 z.h6 z.k1 z.k2 z.k3 z.k4 z.k5 z.k6 z.v4 z.v5 z.v6
end
end Mine

namespace Mine
noncomputable section
open PySem PySem.W PySem.W.X
noncomputable def asgV : Stmt → PySem.Expr
  | .Assign _ v _ => v
  | _ => dfltE
noncomputable def cenvC (w : World) (a : Nat) (L : Addr) (cells : List (Str × Addr)) : Env := { cenv w a L with cells := cells }
noncomputable def fcodeC (w : World) (a : Nat) (L : Addr) (cells : List (Str × Addr)) : Code := .func (bodyOf w a) (cenvC w a L cells)
noncomputable def paC (ck cs : Addr) : List (Str × Addr) := [(nm "k", ck), (nm "spots", cs)]
noncomputable def szE (w : World) : PySem.Expr := asgV (stmtAt w 281 0)
noncomputable def szEnv (w : World) (L Lc ck cs : Addr) : Env := compEnv (scopeOf (szE w)) Lc [] (cenvC w 281 L (paC ck cs))
noncomputable def szLoop (w : World) (it acc L Lc ck cs : Addr) : Code := .compLoop (szE w) 0 (.ref it) (.ref acc) (szEnv w L Lc ck cs)
noncomputable def szStart (w : World) (it acc L Lc ck cs : Addr) : Code := .compStart (szE w) 0 (.ref it) (.ref acc) (szEnv w L Lc ck cs)
noncomputable def cellO (v : Option Value) : Obj := ⟨.type "cell", none, .cell v, #[]⟩
noncomputable def stPa0 (w : World) (L0 a l : Nat) (p0 p : Pos) (its rs : List Value) (n nr N T : Nat) : St :=
  begin (ctxIn (.call (.ref 281) ⟨[.ref (a+292), .ref (l+292)], []⟩) (belowLaw w (L0+292) p0)) p [⟨a+292, listO its n, false⟩, ⟨l+292, listO rs nr, false⟩] [] N T
noncomputable def rPa0 (w : World) (b1 b2 : Bool) (L0 a l : Nat) (p0 p : Pos) (its rs : List Value) (n nr N T : Nat) : Option St :=
  run (XX w b1 b2 tb []) [0, 0, 3, 3, 2, 2, 0, 0, 2, 5, 5, 0, 5, 0, 1] (stPa0 w L0 a l p0 p its rs n nr N T)
noncomputable def belowPa (w : World) (L0 L ck cs : Addr) (p0 p1 : Pos) : List (Code × Pos) := (fcodeC w 281 L (paC ck cs), p1) :: belowLaw w L0 p0
theorem pa_seg0 (w : World) (b1 b2 : Bool) (L0 a l : Nat) (p0 p : Pos) (its rs : List Value) (n nr N T : Nat) : let o := rPa0 w b1 b2 L0 a l p0 p its rs n nr N T
    seen (fun env => (nth env 0, nth env 1, nth env 2, nth env 3, nth env 4, shape (nth env 5))) o = some (toldA o, toldC o, toldO o, .call (szStart w (N+295) (N+296) (N+292) (N+297) (N+294) (N+293)), ctxIn (szStart w (N+295) (N+296) (N+292) (N+297) (N+294) (N+293)) (belowPa w (L0+292) (N+292) (N+294) (N+293) p0 (posO o)),
      (some ⟨N+297, dictO [] 0, true⟩, some ⟨N+296, listO [] 0, true⟩, some ⟨N+295, iterO (l+292) 0, true⟩, some ⟨N+294, cellO none, true⟩, some ⟨N+293, cellO (some (.ref (l+292))), true⟩, some (N+292, some (.type "frame", none, #[], [(some (nm "word"), .ref (a+292))]))), [], toldM o, toldI o, true) := by
  cases b1 <;> kernel_rfl
noncomputable def hkAbs (i : Int) (t : Tok) : Hook := ⟨.call (.builtin "int.__abs__") ⟨[.int i t], []⟩, [], fun T _ => .ok (.ret (.int i.natAbs (if i < 0 then T else t))), fun _ => [], if i < 0 then 1 else 0⟩
theorem ok_abs {X : Cx} {i : Int} {t : Tok} : HookOk X (hkAbs i t) := by
  by_cases h : i < 0
  · have e : hkAbs i t = hkInt "int.__abs__" [.int i t] (-i) := by
      unfold hkAbs hkInt
      simp only [h, if_true]
      have : (i.natAbs : Int) = -i := by omega
      rw [this]
    rw [e]; exact ok_abs1 h
  · have e : hkAbs i t = hkVal "int.__abs__" [.int i t] (.int i t) := by
      unfold hkAbs hkVal
      simp only [h, if_false]
      have : (i.natAbs : Int) = i := by omega
      rw [this]
    rw [e]; exact ok_abs0 h
noncomputable def stSz (w : World) (L0 L ck cs it acc Lc l tp : Nat) (p0 p1 p : Pos) (rs : List Value) (nr i : Nat) (accs : List Value) (na : Nat) (es : List DictEntry) (ne : Nat) (m : M4) (t : Tok × Tok × Tok × Tok) (N T : Nat) : St :=
  begin (ctxIn (szLoop w (it+292) (acc+292) (L+292) (Lc+292) (ck+292) (cs+292)) (belowPa w (L0+292) (L+292) (ck+292) (cs+292) p0 p1)) p [⟨it+292, iterO (l+292) i, true⟩, ⟨acc+292, listO accs na, true⟩, ⟨Lc+292, dictO es ne, true⟩, ⟨l+292, listO rs nr, false⟩, ⟨tp+292, m4 m t, false⟩] [] N T
noncomputable def intOf : Value → Option Int
  | .int i _ => some i
  | _ => none
noncomputable def shapeI : Option Ent → Option (Addr × Option (Value × Option Addr × Array (Option Value) × List (Option Int)))
  | none => none
  | some e => some (e.a, match e.o.data with
    | .seq vs _ => some (e.o.cls, e.o.dict, e.o.slots, vs.toList.map intOf)
    | _ => none)
theorem intOf_all : ∀ {vs : List Value} {ns : List Int}, vs.map intOf = ns.map some → All2 IntV vs ns
  | [], [], _ => trivial
  | v :: vs, n :: ns, h => by
    rw [List.map_cons, List.map_cons] at h
    injection h with h1 h2
    refine ⟨?_, intOf_all h2⟩
    cases v with
    | int i t => simp only [intOf, Option.some.injEq] at h1; subst h1; exact ⟨t, rfl⟩
    | _ => cases h1
  | [], _ :: _, h => nomatch h
  | _ :: _, [], h => nomatch h
theorem shapeI_ok {e : Option Ent} {a : Addr} {c : Value} {d : Option Addr} {sl : Array (Option Value)} {l : List Int} (h : shapeI e = some (a, some (c, d, sl, l.map some))) :
    ∃ vs n own, e = some ⟨a, ⟨c, d, .seq ⟨vs⟩ n, sl⟩, own⟩ ∧ All2 IntV vs l := by
  cases e with
  | none => cases h
  | some e =>
    obtain ⟨a', ⟨c', d', dt, sl'⟩, own⟩ := e
    simp only [shapeI, Option.some.injEq, Prod.mk.injEq] at h
    obtain ⟨rfl, h⟩ := h
    cases dt with
    | seq vs n =>
      simp only [Option.some.injEq, Prod.mk.injEq] at h
      obtain ⟨rfl, rfl, rfl, h⟩ := h
      exact ⟨vs.toList, n, own, rfl, intOf_all h⟩
    | _ => cases h
structure SzA where
  (L0 L ck cs it acc Lc l tp : Nat)
  (p0 p1 p : Pos)
  rs : List Value
  (nr i : Nat)
  accs : List Value
  (na : Nat)
  es : List DictEntry
  (ne : Nat)
  m : M4
  t : Tok × Tok × Tok × Tok
  (N T : Nat)
noncomputable def szOr (b2 : Bool) : List Nat := match b2 with
  | true => [1, 1, 3, 3, 0, 0, 3, 5, 5, 0, 5, 0, 1, 0, 0, 3, 0, 3, 0, 3, 3, 8, 3, 3, 1, 1, 0, 0, 1, 0, 0, 2, 0, 2, 0, 2, 2, 2, 0, 3, 0, 3, 0, 3, 3, 8, 3, 3, 1, 1, 0, 0, 1, 0, 0, 3, 0, 2, 0, 2, 2, 2, 0, 3, 0, 3, 0, 3, 3, 8, 3, 3, 1, 1, 0, 0, 1, 0, 0, 4, 0, 2, 0, 2, 2, 2, 0, 3, 0, 3, 0, 3, 3, 8, 3, 3, 1, 1, 0, 0, 1, 0, 0, 5, 0, 2, 0, 2, 2, 2, 0, 3, 0, 3, 0, 3, 3, 8, 3, 3, 1, 3, 3, 3]
  | false => [1, 1, 3, 3, 0, 0, 3, 5, 5, 0, 5, 0, 1, 0, 3, 3, 0, 3, 0, 3, 0, 3, 0, 3, 0, 3, 3, 8, 3, 3, 1, 1, 0, 0, 1, 0, 0, 2, 0, 2, 0, 2, 2, 2, 0, 3, 0, 3, 0, 3, 3, 8, 3, 3, 1, 1, 0, 0, 1, 0, 0, 3, 0, 2, 0, 2, 2, 2, 0, 3, 0, 3, 0, 3, 3, 8, 3, 3, 1, 1, 0, 0, 1, 0, 0, 4, 0, 2, 0, 2, 2, 2, 0, 3, 0, 3, 0, 3, 3, 8, 3, 3, 1, 1, 0, 0, 1, 0, 0, 5, 0, 2, 0, 2, 2, 2, 0, 3, 0, 3, 0, 3, 3, 8, 3, 3, 1, 3, 3, 3]
noncomputable def rSz (w : World) (b1 b2 : Bool) (A : SzA) : Option St :=
  run (XX w b1 b2 tb [hkNext 0 3 (A.it+292) (A.l+292) A.rs A.nr A.i (.ref (A.tp+292)), hkAbs A.m.1 A.t.1, hkAbs A.m.2.1 A.t.2.1, hkAbs A.m.2.2.1 A.t.2.2.1, hkAbs A.m.2.2.2 A.t.2.2.2])
    (szOr b2)
    (stSz w A.L0 A.L A.ck A.cs A.it A.acc A.Lc A.l A.tp A.p0 A.p1 A.p A.rs A.nr A.i A.accs A.na A.es A.ne A.m A.t A.N A.T)
noncomputable def absL (m : M4) : List Int := [m.1.natAbs, m.2.1.natAbs, m.2.2.1.natAbs, m.2.2.2.natAbs]
noncomputable def szEs (f : Bool) (z : Zs) : List DictEntry := match f with
  | true => []
  | false => [⟨z.h1, .str (nm "spot") z.k1, z.v4⟩]
theorem sz_seg0 (w : World) (b1 b2 f : Bool) (A : SzA) (z : Zs) : let A' : SzA := { A with es := szEs f z }; let o := rSz w b1 b2 A'
    seen (fun env => (nth env 5, nth env 6, shape (nth env 7), shapeI (nth env 3))) o = some (toldA o, toldC o, toldO o, .call (.call (.builtin "sum") ⟨[.ref (A.N+293)], []⟩), ctxIn (.call (.builtin "sum") ⟨[.ref (A.N+293)], []⟩) ((szLoop w (A.it+292) (A.acc+292) (A.L+292) (A.Lc+292) (A.ck+292) (A.cs+292), posO o) :: belowPa w (A.L0+292) (A.L+292) (A.ck+292) (A.cs+292) A.p0 A.p1),
      (some ⟨A.it+292, iterO (A.l+292) (A.i+1), true⟩, some ⟨A.acc+292, listO A.accs A.na, true⟩, some (A.Lc+292, some (.type "dict", none, #[], [(some (nm "spot"), .ref (A.tp+292))])), some (A.N+293, some (.type "list", none, #[], (absL A.m).map some))), [], toldM o, toldI o, true) := by
  cases f <;> cases b1 <;> cases b2 <;> kernel_rfl
theorem sz_seg1 (w : World) (b1 b2 f : Bool) (A : SzA) (z : Zs) (S : Int) (ts : Tok) (N' T' : Nat) :
    let o := run (XX w b1 b2 tb [hkApp 0 (A.acc+292) A.accs A.na (.int S ts)]) [1] (resumeO (rSz w b1 b2 { A with es := szEs f z }) (.ok (.ret (.int S ts))) [⟨A.acc+292, listO A.accs A.na, true⟩] [] N' T')
    seen (fun env => nth env 0) o = some (toldA o, toldC o, toldO o, .again (szLoop w (A.it+292) (A.acc+292) (A.L+292) (A.Lc+292) (A.ck+292) (A.cs+292)), ctxIn (szLoop w (A.it+292) (A.acc+292) (A.L+292) (A.Lc+292) (A.ck+292) (A.cs+292)) (belowPa w (A.L0+292) (A.L+292) (A.ck+292) (A.cs+292) A.p0 A.p1),
      some ⟨A.acc+292, listO (A.accs ++ [.int S ts]) (A.na+1), true⟩, [], toldM o, toldI o, true) := by
  cases f <;> cases b1 <;> cases b2 <;> kernel_rfl
theorem sz_end (w : World) (b1 b2 : Bool) (L0 L ck cs it acc Lc l : Nat) (p0 p1 p : Pos) (rs : List Value) (nr i N T : Nat) :
    let o := run (XX w b1 b2 tb [hkEnd 0 1 (it+292) (l+292) rs nr i]) [1, 1, 1] (begin (ctxIn (szLoop w (it+292) (acc+292) (L+292) (Lc+292) (ck+292) (cs+292)) (belowPa w (L0+292) (L+292) (ck+292) (cs+292) p0 p1)) p [⟨it+292, iterO (l+292) i, true⟩, ⟨l+292, listO rs nr, false⟩] [] N T)
    seen (fun _ => ()) o = some (toldA o, toldC o, toldO o, .done .next, ctxIn (szLoop w (it+292) (acc+292) (L+292) (Lc+292) (ck+292) (cs+292)) (belowPa w (L0+292) (L+292) (ck+292) (cs+292) p0 p1), (), [], toldM o, toldI o, true) := by
  kernel_rfl
end
end Mine

namespace Mine
noncomputable section
open PySem PySem.W PySem.W.X
set_option maxHeartbeats 4000000
theorem str_eq_of {x y : Str} (h : (x.cps.toList == y.cps.toList) = true) : x = y := by
  obtain ⟨⟨a⟩⟩ := x
  obtain ⟨⟨b⟩⟩ := y
  have : a = b := by simpa using h
  rw [this]
theorem All2.piece_last {h : Heap} {ps : List Value} {xs : List (Str × Str)} {x : Str × Str} (q : All2 (PieceV h) ps (xs ++ [x])) : ∃ ps' v, ps = ps' ++ [v] ∧ All2 (PieceV h) ps' xs ∧ PieceV h v x := q.last
theorem pieces_ext {own : List Addr} {h h' : Heap} (E : Ext own h h') (hown : ∀ c ∈ own, ∀ vs, h.get? c ≠ some (tupO vs)) {ps : List Value} {xs : List (Str × Str)} (q : All2 (PieceV h) ps xs) : All2 (PieceV h') ps xs := q.mono fun v x q => q.ext E hown
theorem notup1 {h : Heap} {a : Addr} {o : Obj} (f : h.get? a = some o) (k : kindOf o ≠ "tuple") : ∀ vs, h.get? a ≠ some (tupO vs) := not_tup f k
theorem notupL {h : Heap} : ∀ {l : List Addr}, (∀ c ∈ l, ∃ o, h.get? c = some o ∧ kindOf o ≠ "tuple") → ∀ c ∈ l, ∀ vs, h.get? c ≠ some (tupO vs) := fun H c hc => by
  obtain ⟨o, f, k⟩ := H c hc
  exact not_tup f k
theorem piece_ref {h : Heap} : ∀ {ps : List Value} {xs : List (Str × Str)}, All2 (PieceV h) ps xs → ∀ v ∈ ps, ∃ a : Nat, v = .ref a
  | v :: ps, x :: xs, q, u, hu => by
    rcases List.mem_cons.mp hu with rfl | hu
    · obtain ⟨a, _, _, e, _⟩ := q.1; exact ⟨_, e⟩
    · exact piece_ref q.2 u hu
  | [], [], _, _, hu => nomatch hu
  | [], _ :: _, q, _, _ => q.elim
  | _ :: _, [], q, _, _ => q.elim
noncomputable def turnS (xs ys : List (Str × Str)) (x : Str × Str) (S P : Str) : List (Str × Str) × List (Str × Str) :=
  if (lowS x.1).cps.toList == (lowS S).cps.toList && !(x.1.cps.toList == S.cps.toList) then (xs, ys ++ [(x.2, P)]) else (xs ++ [x, (S, P)], ys)
theorem rn_turn (w : World) (b1 b2 f : Bool) (L0 L it l pl dd pr : Nat) (p0 p1 p : Pos) (j : Nat) (left : Int) (ps : List Value) (np : Nat) (prs : List Value) (npr : Nat) (its : List Value) (n : Nat) (hdh : Int) (kd : Tok) (vd : Value) (nd : Nat) (es : List DictEntry) (ne : Nat) (v4 v5 v6 : Value) (S : Str) (ts : Tok)
    (xs ys : List (Str × Str)) (x : Str × Str) (T : Nat) (d : Drawn) (ox : OsState) (R : Result → Shared → Prop) (h : Heap)
    (hkv : kvs es = kvA f (l+292) (pl+292) (pr+292) v4 v5 v6) (hleft : 0 < left) (hj : j < 24) (G : Glob (XX w b1 b2 tb []) h)
    (fit : h.get? (it+292) = some (rngI j left)) (fL : h.get? (L+292) = some (frameO es ne)) (fpl : h.get? (pl+292) = some (pileO (dd+292) ps np)) (fdd : h.get? (dd+292) = some (dictO [⟨hdh, .str (nm "_initial_size") kd, vd⟩] nd))
    (fpr : h.get? (pr+292) = some (listO prs npr)) (fl : h.get? (l+292) = some (listO its n)) (hlpr : l ≠ pr) (hS : its[j]? = some (.str S ts)) (hSN : NameS S) (hz : ps.length ≤ 100) (hzr : prs.length ≤ 100)
    (hps : (ps = [] ∧ xs = [] ∧ x = (emp, emp)) ∨ All2 (PieceV h) ps (xs ++ [x])) (hx : PieceOk x) (hys : All2 (PieceV h) prs ys) (hfm : f = true → ((lowS x.1).cps.toList == (lowS S).cps.toList) = false)
    (K : ∀ h' T' p' es' ne' v4' v5' v6' ps' np' prs' npr', Ext [it+292, L+292, pl+292, pr+292] h h' → h'.get? (it+292) = some (rngI (j + 1) (left - 1)) → h'.get? (L+292) = some (frameO es' ne') → kvs es' = rnKv (l+292) (pl+292) (pr+292) v4' v5' v6' →
      h'.get? (pl+292) = some (pileO (dd+292) ps' np') → All2 (PieceV h') ps' (turnS xs ys x S (digs j)).1 → h'.get? (pr+292) = some (listO prs' npr') → All2 (PieceV h') prs' (turnS xs ys x S (digs j)).2 →
      wpCode (model PySem.Challenge.pw_pe0217_01 (setW w b1 b2)) (ctxIn (rnLoop w (it+292) (L+292)) (belowRun w (L0+292) (L+292) p0 p1)) R p' ⟨h', ⟨[]⟩, d, T', ox⟩) :
    wpCode (model PySem.Challenge.pw_pe0217_01 (setW w b1 b2)) (ctxIn (rnLoop w (it+292) (L+292)) (belowRun w (L0+292) (L+292) p0 p1)) R p ⟨h, ⟨[]⟩, d, T, ox⟩ := by
  obtain ⟨N, hN⟩ := le_size fit (Nat.le_add_left _ _)
  have lit := lt_of_get fit hN
  have lL := lt_of_get fL hN
  have lpl := lt_of_get fpl hN
  have ldd := lt_of_get fdd hN
  have lpr := lt_of_get fpr hN
  have ll := lt_of_get fl hN
  have ne1 : it ≠ L := fun e => ne_kind fit fL (by simp [kindOf, rngI, frameO]) (by rw [e])
  have ne2 : it ≠ pl := fun e => ne_kind fit fpl (by simp [kindOf, rngI, pileO]) (by rw [e])
  have ne3 : it ≠ dd := fun e => ne_kind fit fdd (by simp [kindOf, rngI, dictO]) (by rw [e])
  have ne4 : it ≠ pr := fun e => ne_kind fit fpr (by simp [kindOf, rngI, listO]) (by rw [e])
  have ne5 : it ≠ l := fun e => ne_kind fit fl (by simp [kindOf, rngI, listO]) (by rw [e])
  have ne6 : L ≠ pl := fun e => ne_kind fL fpl (by simp [kindOf, frameO, pileO]) (by rw [e])
  have ne7 : L ≠ dd := fun e => ne_kind fL fdd (by simp [kindOf, frameO, dictO]) (by rw [e])
  have ne8 : L ≠ pr := fun e => ne_kind fL fpr (by simp [kindOf, frameO, listO]) (by rw [e])
  have ne9 : L ≠ l := fun e => ne_kind fL fl (by simp [kindOf, frameO, listO]) (by rw [e])
  have ne10 : pl ≠ dd := fun e => ne_kind fpl fdd (by simp [kindOf, pileO, dictO]) (by rw [e])
  have ne11 : pl ≠ pr := fun e => ne_kind fpl fpr (by simp [kindOf, pileO, listO]) (by rw [e])
  have ne12 : pl ≠ l := fun e => ne_kind fpl fl (by simp [kindOf, pileO, listO]) (by rw [e])
  have ne13 : dd ≠ pr := fun e => ne_kind fdd fpr (by simp [kindOf, dictO, listO]) (by rw [e])
  have ne14 : dd ≠ l := fun e => ne_kind fdd fl (by simp [kindOf, dictO, listO]) (by rw [e])
  obtain ⟨z, rfl⟩ := esA_of hkv
  let A : TnA := ⟨L0, L, it, pl, dd, p0, p1, p, j, left, ps, np, esA f l pl pr z, hdh, kd, vd, nd, ne, N, T⟩
  refine code_cut (X0 := XX w b1 b2 tb []) (X := XX w b1 b2 tb [hkRNext 0 (it+292) j left]) (N := N) (own := [it+292, L+292]) (sg0 w b1 b2 f A l pr z) rfl rfl rfl ⟨ok_rnext hleft, trivial⟩ hN G ⟨fit, fL, fpl, fdd, trivial⟩ ?_ ?_ fun h1 T1 st1 hrun1 hV1 D1 E1' hnQ => ?_
  · ktd_rel
  · kt_len
  obtain ⟨u0, u1⟩ := pr2 hV1
  obtain ⟨es1, ne1', ow1, e1, hk1⟩ := shape_ok u1
  obtain ⟨z1, hz1, rfl⟩ := esB_of hk1
  have git1 : h1.get? (it+292) = some (rngI (j+1) (left-1)) := D1.at u0
  have gL1 : h1.get? (L+292) = some (frameO (esB f l pl pr z1) ne1') := D1.at e1
  have gpl1 := E1'.keep _ _ fpl (by kt_eqs)
  have gdd1 := E1'.keep _ _ fdd (by kt_eqs)
  have gpr1 := E1'.keep _ _ fpr (by kt_eqs)
  have gl1 := E1'.keep _ _ fl (by kt_eqs)
  have nt0 : ∀ c ∈ [it+292, L+292], ∀ vs, h.get? c ≠ some (tupO vs) := notupL (by ktr_rel)
  have hys1 := pieces_ext E1' nt0 hys
  have main : ∀ (h2 : Heap) (T2 tp : Nat) (tk tv : Tok) (ps' : List Value) (np' : Nat), Ext [pl+292] h1 h2 → h2.get? (pl+292) = some (pileO (dd+292) ps' np') → All2 (PieceV h2) ps' xs → ps'.length ≤ 100 → h2.get? (tp+292) = some (tupO [.str x.1 tk, .str x.2 tv]) →
      MeansK (model PySem.Challenge.pw_pe0217_01 (setW w b1 b2)) (PostR R) st1.κ st1.Γ st1.p (kOf st1.t (.ok (.ret (.ref (tp+292))))) ⟨h2, ⟨[]⟩, d, T2, ox⟩ := by
    intro h2 T2 tp tk tv ps' np' E2 gpl2 hps2 hz2 gtp2
    have git2 := E2.keep _ _ git1 (by kt_eqs)
    have gL2 := E2.keep _ _ gL1 (by kt_eqs)
    have gdd2 := E2.keep _ _ gdd1 (by kt_eqs)
    have gpr2 := E2.keep _ _ gpr1 (by kt_eqs)
    have gl2 := E2.keep _ _ gl1 (by kt_eqs)
    have nt1 : ∀ c ∈ [pl+292], ∀ vs, h1.get? c ≠ some (tupO vs) := notupL (by ktr_rel)
    have hys2 := pieces_ext E2 nt1 hys1
    obtain ⟨N2, hN2⟩ := le_size gL2 (Nat.le_add_left _ _)
    have hNN2 : N ≤ N2 := by have := E1'.size; have := E2.size; omega
    have ltp := lt_of_get gtp2 hN2
    have G2 : Glob (XX w b1 b2 tb []) h2 := glob_ext E2 (by kt_len) D1.glob
    refine back_cut (X0 := XX w b1 b2 tb []) (X := XX w b1 b2 tb []) (own := [L+292]) hrun1 (sg1 w b1 b2 f A ne1' tp N2 T2 l pl pr z z1) rfl rfl rfl trivial hN2 G2 ⟨gL2, trivial⟩ ⟨trivial, trivial⟩ ⟨Nat.le_add_left _ _, trivial⟩ fun h3 T3 st3 hrun3 hV3 D3 E3' hnQ => ?_
    obtain ⟨w0, w1, w2, w3⟩ := pr4 hV3
    obtain ⟨es3, ne3', ow3, e3', hk3⟩ := shape_ok w3
    obtain ⟨z2, rfl⟩ := esC_of hk3
    rw [hz1] at e3'
    have ghd3 := D3.at w0
    have gdh3 := D3.at w1
    have gls3 := D3.at w2
    have gL3 : h3.get? (L+292) = some (frameO (esC f l pl pr (.int j T) (.ref (tp+292)) z2) ne3') := D3.at e3'
    have git3 := E3'.keep _ _ git2 (by kt_eqs)
    have gpl3 := E3'.keep _ _ gpl2 (by kt_eqs)
    have gdd3 := E3'.keep _ _ gdd2 (by kt_eqs)
    have gpr3 := E3'.keep _ _ gpr2 (by kt_eqs)
    have gl3 := E3'.keep _ _ gl2 (by kt_eqs)
    have nt2 : ∀ c ∈ [L+292], ∀ vs, h2.get? c ≠ some (tupO vs) := notupL (by ktr_rel)
    have hys3 := pieces_ext E3' nt2 hys2
    have hps3 := pieces_ext E3' nt2 hps2
    have gtp3 := E3'.keepT gtp2 (fun c hc => nt2 c hc _)
    refine hnQ ?_
    refine hi_call w b1 b2 _ (hi_turn w b1 b2 L0 L it _ p0 p1) (N2+2) (N2+1) N2 _ _ [.ref (tp+292)] 0 0 T3 [x] d ox _ h3 (by simpa using hx) (by simp) D3.glob ghd3 gdh3 gls3 ⟨⟨tp, tk, tv, rfl, gtp3⟩, trivial⟩ ?_
    intro h4 T4 hh kh nd4 E4 ghd4 gdh4
    have gL4 := E4.keep _ _ gL3 (by kt_eqs)
    have git4 := E4.keep _ _ git3 (by kt_eqs)
    have gpl4 := E4.keep _ _ gpl3 (by kt_eqs)
    have gdd4 := E4.keep _ _ gdd3 (by kt_eqs)
    have gpr4 := E4.keep _ _ gpr3 (by kt_eqs)
    have gl4 := E4.keep _ _ gl3 (by kt_eqs)
    have gls4 := E4.keep _ _ gls3 (by kt_eqs)
    have nt3 : ∀ c ∈ [N2+2+292, N2+1+292], ∀ vs, h3.get? c ≠ some (tupO vs) := by
      intro c hc vs
      simp only [List.mem_cons, List.not_mem_nil, or_false] at hc
      rcases hc with rfl | rfl
      · exact not_tup ghd3 (by simp [kindOf, hdrO]) vs
      · exact not_tup gdh3 (by simp [kindOf, dictO]) vs
    have hys4 := pieces_ext E4 nt3 hys3
    have hps4 := pieces_ext E4 nt3 hps3
    have gtp4 := E4.keepT gtp3 (fun c hc => nt3 c hc _)
    obtain ⟨N4, hN4⟩ := le_size gL4 (Nat.le_add_left _ _)
    have hNN4 : N2 + 3 ≤ N4 := by have := lt_of_get (a := N2+2) ghd4 hN4; omega
    let B : TnB := ⟨esB f l pl pr z1, ne1', tp, N2, T2⟩
    let C : TnC := ⟨esC f l pl pr (.int j T) (.ref (tp+292)) z2, ne3', hh, kh, nd4, l, its, n, N4, T4⟩
    let S' : TnS := ⟨j, T, S, ts⟩
    refine back_cut (X0 := XX w b1 b2 tb []) (X := XX w b1 b2 tb [hkItem 3 (l+292) its n j T (.str S ts)]) (own := [L+292]) hrun3 (sg2 w b1 b2 f A B C S' pl pr z z1 z2) rfl rfl rfl ⟨ok_item (by omega) (by omega) (by simpa using hS), trivial⟩ hN4 (glob_ext E4 (by kt_len) D3.glob) ⟨gL4, ghd4, gdh4, gl4, trivial⟩ ?_ ?_ fun h5 T5 st5 hrun5 hV5 D5 E5' hnQ => ?_
    · ktd_rel
    · kt_len
    have gL5 : h5.get? (L+292) = some (frameO (esC f l pl pr (.int j T) (.ref (tp+292)) z2) ne3') := D5.at hV5
    have ghd5 := E5'.keep _ _ ghd4 (by kt_eqs)
    have gdh5 := E5'.keep _ _ gdh4 (by kt_eqs)
    have gls5 := E5'.keep _ _ gls4 (by kt_eqs)
    have git5 := E5'.keep _ _ git4 (by kt_eqs)
    have gpl5 := E5'.keep _ _ gpl4 (by kt_eqs)
    have gdd5 := E5'.keep _ _ gdd4 (by kt_eqs)
    have gpr5 := E5'.keep _ _ gpr4 (by kt_eqs)
    have gl5 := E5'.keep _ _ gl4 (by kt_eqs)
    have nt4 : ∀ c ∈ [L+292], ∀ vs, h4.get? c ≠ some (tupO vs) := notupL (by ktr_rel)
    have hys5 := pieces_ext E5' nt4 hys4
    have hps5 := pieces_ext E5' nt4 hps4
    have gtp5 := E5'.keepT gtp4 (fun c hc => nt4 c hc _)
    refine hnQ ?_
    refine get_call w b1 b2 L0 L it _ p0 p1 (N2+2) (N2+1) N2 tp _ S ts 0 hh kh nd4 x.1 x.2 tk tv T5 d ox _ h5 hSN hx.1 D5.glob ghd5 gdh5 gls5 gtp5 ?_
    intro h6 T6 E6
    have gL6 := E6.keep _ _ gL5 (by kt_eqs)
    have git6 := E6.keep _ _ git5 (by kt_eqs)
    have gpl6 := E6.keep _ _ gpl5 (by kt_eqs)
    have gdd6 := E6.keep _ _ gdd5 (by kt_eqs)
    have gpr6 := E6.keep _ _ gpr5 (by kt_eqs)
    have gl6 := E6.keep _ _ gl5 (by kt_eqs)
    have hys6 := pieces_ext E6 (by simp) hys5
    have hps6 := pieces_ext E6 (by simp) hps5
    have gtp6 := E6.keepT gtp5 (by simp)
    obtain ⟨N6, hN6⟩ := le_size gL6 (Nat.le_add_left _ _)
    have G6 : Glob (XX w b1 b2 tb []) h6 := glob_ext E6 (by kt_len) D5.glob
    have dif6 : Dif [⟨L+292, frameO (esC f l pl pr (.int j T) (.ref (tp+292)) z2) ne3', true⟩, ⟨l+292, listO its n, false⟩, ⟨pl+292, pileO (dd+292) ps' np', true⟩, ⟨pr+292, listO prs npr, true⟩, ⟨tp+292, tupO [.str x.1 tk, .str x.2 tv], false⟩, ⟨dd+292, dictO [⟨hdh, .str (nm "_initial_size") kd, vd⟩] nd, false⟩] := by
      ktd_rel
    have ge6 : AllE (fun e => 292 ≤ e.a) [⟨L+292, frameO (esC f l pl pr (.int j T) (.ref (tp+292)) z2) ne3', true⟩, ⟨l+292, listO its n, false⟩, ⟨pl+292, pileO (dd+292) ps' np', true⟩, ⟨pr+292, listO prs npr, true⟩, ⟨tp+292, tupO [.str x.1 tk, .str x.2 tv], false⟩, ⟨dd+292, dictO [⟨hdh, .str (nm "_initial_size") kd, vd⟩] nd, false⟩] := by
      kt_len
    have total : ∀ {h7 : Heap}, Ext [L+292, pl+292, pr+292] h6 h7 → Ext [it+292, L+292, pl+292, pr+292] h h7 := fun {h7} E7 => ((((((E1'.trans E2).trans E3').trans E4).trans E5').trans E6).trans E7).drop (by kt_ors)
    have nt6 : ∀ c ∈ [L+292, pl+292, pr+292], ∀ vs, h6.get? c ≠ some (tupO vs) := notupL (by ktr_rel)
    let D : TnD := ⟨.none, pl, pr, dd, ps', np', prs, npr, x.1, x.2, tk, tv, hdh, kd, vd, nd, N6, T6⟩
    have hSi : its[((j : Int)).toNat]? = some (.str S ts) := by simpa using hS
    have h100 : ps'.length ≤ 1000 := by omega
    have h101 : (ps' ++ [Value.ref (N6+293)]).length ≤ 1000 := by simp; omega
    have hzR : prs.length ≤ sizeLine := by rw [sizeL]; omega
    cases hb : (lowS x.1).cps.toList == (lowS S).cps.toList with
    | false =>
      refine back_loop (X0 := XX w b1 b2 tb []) (X := xTnA w b1 b2 C S' D j) (own := [L+292, pl+292, pr+292]) hrun5 (sg3a w b1 b2 f A B C S' D j z z1 z2) rfl rfl rfl ⟨ok_appP h100, ok_item (by omega) (by omega) hSi, ok_strof hj, ok_appP h101, trivial⟩ hN6 G6 ⟨gL6, gl6, gpl6, gpr6, gtp6, gdd6, trivial⟩ dif6 ge6 rfl fun h7 T7 p7 st7 hV7 D7 E7' hnQ => ?_
      obtain ⟨y0, y1, y2, y3, y4⟩ := pr5 hV7
      obtain ⟨es7, ne7, ow7, e7, hk7⟩ := shape_ok y2
      have ht : turnS xs ys x S (digs j) = (xs ++ [x, (S, digs j)], ys) := by simp [turnS, hb]
      refine hnQ ?_
      refine K h7 T7 p7 es7 ne7 _ _ _ _ _ _ _ (total E7') (E7'.keep _ _ git6 (by kt_eqs)) (D7.at e7) hk7 (D7.at y3) ?_ (D7.at y4) ?_
      · rw [ht, List.append_assoc]
        exact (pieces_ext E7' nt6 hps6).app ⟨⟨N6+1, tk, tv, rfl, D7.at y1⟩, ⟨N6+3, ts, _, rfl, D7.at y0⟩, trivial⟩
      · rw [ht]
        exact pieces_ext E7' nt6 hys6
    | true =>
      cases f with
      | true => rw [hfm rfl] at hb; cases hb
      | false =>
        cases hq : x.1.cps.toList == S.cps.toList with
        | true =>
          refine back_loop (X0 := XX w b1 b2 tb []) (X := xTnB w b1 b2 C S' D j) (own := [L+292, pl+292, pr+292]) hrun5 (sg3b w b1 b2 A B C S' D j tv z z1 z2) rfl rfl rfl ⟨ok_item (by omega) (by omega) hSi, ok_seq hq, ok_appP h100, ok_item (by omega) (by omega) hSi, ok_strof hj, ok_appP h101, trivial⟩ hN6 G6 ⟨gL6, gl6, gpl6, gpr6, gtp6, gdd6, trivial⟩ dif6 ge6 rfl fun h7 T7 p7 st7 hV7 D7 E7' hnQ => ?_
          obtain ⟨y0, y1, y2, y3, y4⟩ := pr5 hV7
          obtain ⟨es7, ne7, ow7, e7, hk7⟩ := shape_ok y2
          have ht : turnS xs ys x S (digs j) = (xs ++ [x, (S, digs j)], ys) := by simp [turnS, hb, hq]
          refine hnQ ?_
          refine K h7 T7 p7 es7 ne7 _ _ _ _ _ _ _ (total E7') (E7'.keep _ _ git6 (by kt_eqs)) (D7.at e7) hk7 (D7.at y3) ?_ (D7.at y4) ?_
          · rw [ht, List.append_assoc]
            exact (pieces_ext E7' nt6 hps6).app ⟨⟨N6+1, tk, tv, rfl, D7.at y1⟩, ⟨N6+3, ts, _, rfl, D7.at y0⟩, trivial⟩
          · rw [ht]
            exact pieces_ext E7' nt6 hys6
        | false =>
          refine back_loop (X0 := XX w b1 b2 tb []) (X := xTnC w b1 b2 C S' D j) (own := [L+292, pl+292, pr+292]) hrun5 (sg3c w b1 b2 A B C S' D j tv z z1 z2) rfl rfl rfl ⟨ok_item (by omega) (by omega) hSi, ok_seq hq, ok_strof hj, ok_app hzR, trivial⟩ hN6 G6 ⟨gL6, gl6, gpl6, gpr6, gtp6, gdd6, trivial⟩ dif6 ge6 rfl fun h7 T7 p7 st7 hV7 D7 E7' hnQ => ?_
          obtain ⟨y0, y1, y3, y4⟩ := pr4 hV7
          obtain ⟨es7, ne7, ow7, e7, hk7⟩ := shape_ok y1
          have ht : turnS xs ys x S (digs j) = (xs, ys ++ [(x.2, digs j)]) := by simp [turnS, hb, hq]
          refine hnQ ?_
          refine K h7 T7 p7 es7 ne7 _ _ _ _ _ _ _ (total E7') (E7'.keep _ _ git6 (by kt_eqs)) (D7.at e7) hk7 (D7.at y3) ?_ (D7.at y4) ?_
          · rw [ht]
            exact pieces_ext E7' nt6 hps6
          · rw [ht]
            exact (pieces_ext E7' nt6 hys6).snoc ⟨N6, tv, _, rfl, D7.at y0⟩
  refine hnQ ?_
  refine pop_call w b1 b2 L0 L pl dd it _ p0 p1 _ ps np hdh kd vd nd T1 d ox _ h1 (by omega) ?_ D1.glob gpl1 gdd1 ?_ ?_
  · intro v hv
    rcases hps with ⟨rfl, _⟩ | q
    · cases hv
    · exact piece_ref q v hv
  · intro h0 h2 T2 a t1 t2 E2 ha gt
    rcases hps with ⟨_, rfl, rfl⟩ | q
    · obtain ⟨a', rfl⟩ : ∃ a', a = a' + 292 := ⟨a - 292, by have := le_size git1 (Nat.le_add_left _ _); obtain ⟨M, hM⟩ := this; omega⟩
      rw [h0] at gpl1
      exact main h2 T2 a' t1 t2 [] np (E2.mono (by simp)) (E2.keep _ _ gpl1 (by kt_eqs)) trivial (by simp) gt
    · rw [h0] at q
      have := q.length
      simp at this
  · intro its' a ha h2 T2 n' E2 gpl2
    rcases hps with ⟨h0, _⟩ | q
    · rw [h0] at ha; simp at ha
    · obtain ⟨ps', v, hp, q1, tp, tk, tv, rfl, gt⟩ := q.piece_last
      rw [hp] at ha
      obtain ⟨rfl, hv⟩ := List.append_inj' ha rfl
      injection hv with hv _
      injection hv with hv
      subst hv
      have nt1 : ∀ c ∈ [pl+292], ∀ vs, h1.get? c ≠ some (tupO vs) := notupL (by ktr_rel)
      exact main h2 T2 tp tk tv ps' n' E2 gpl2 (pieces_ext E2 nt1 (pieces_ext E1' nt0 q1)) (by rw [hp] at hz; simp at hz; omega) (E2.keepT (E1'.keepT gt fun c hc => nt0 c hc _) fun c hc => nt1 c hc _)
end
end Mine

namespace Mine
noncomputable section
noncomputable def Row (x : Nat) (p q : Int) : Prop := match x with
  | 1 => p.natAbs < q.natAbs ∧ ((0 ≤ p ∧ 0 ≤ q) ∨ (p ≤ 0 ∧ q ≤ 0))
  | 3 => p.natAbs < q.natAbs ∧ ((0 ≤ p ∧ q ≤ 0) ∨ (p ≤ 0 ∧ 0 ≤ q))
  | 2 => q.natAbs < p.natAbs ∧ ((0 ≤ p ∧ 0 ≤ q) ∨ (p ≤ 0 ∧ q ≤ 0))
  | _ => q.natAbs < p.natAbs ∧ ((0 ≤ p ∧ q ≤ 0) ∨ (p ≤ 0 ∧ 0 ≤ q))
theorem nn1 {q : Int} : (0 ≤ -q) = (q ≤ 0) := propext ⟨fun h => by omega, fun h => by omega⟩
theorem nn2 {q : Int} : (-q ≤ 0) = (0 ≤ q) := propext ⟨fun h => by omega, fun h => by omega⟩
theorem row_neg1 {p q : Int} (h : Row 1 p q) : Row 1 (-p) (-q) := by
  show (-p).natAbs < (-q).natAbs ∧ ((0 ≤ -p ∧ 0 ≤ -q) ∨ (-p ≤ 0 ∧ -q ≤ 0))
  rw [Int.natAbs_neg, Int.natAbs_neg, nn1, nn1, nn2, nn2]; exact ⟨h.1, h.2.symm⟩
theorem row_neg2 {p q : Int} (h : Row 2 p q) : Row 2 (-p) (-q) := by
  show (-q).natAbs < (-p).natAbs ∧ ((0 ≤ -p ∧ 0 ≤ -q) ∨ (-p ≤ 0 ∧ -q ≤ 0))
  rw [Int.natAbs_neg, Int.natAbs_neg, nn1, nn1, nn2, nn2]; exact ⟨h.1, h.2.symm⟩
theorem row_neg0 {p q : Int} (h : Row 0 p q) : Row 0 (-p) (-q) := by
  show (-q).natAbs < (-p).natAbs ∧ ((0 ≤ -p ∧ -q ≤ 0) ∨ (-p ≤ 0 ∧ 0 ≤ -q))
  rw [Int.natAbs_neg, Int.natAbs_neg, nn1, nn1, nn2, nn2]; exact ⟨h.1, h.2.symm⟩
theorem row_neg {p q : Int} (h : Row 1 p q ∨ Row 2 p q ∨ Row 0 p q) : Row 1 (-p) (-q) ∨ Row 2 (-p) (-q) ∨ Row 0 (-p) (-q) := h.imp row_neg1 (Or.imp row_neg2 row_neg0)
theorem row_a0 {p q : Int} (hp : 0 < p) (h : Row 1 p q ∨ Row 2 p q ∨ Row 0 p q) : p.natAbs < (q + 2 * p).natAbs ∧ 0 ≤ q + 2 * p ∧ q.natAbs < (q + 2 * p).natAbs := by
  have hq : -p < q := by
    simp only [Row] at h
    omega
  clear h
  refine ⟨?_, ?_, ?_⟩ <;> omega
theorem row_a {p q : Int} (h : Row 1 p q ∨ Row 2 p q ∨ Row 0 p q) : Row 1 p (q + 2 * p) ∧ q.natAbs ≤ (q + 2 * p).natAbs ∧ (p ≠ 0 → q.natAbs < (q + 2 * p).natAbs) := by
  rcases Int.lt_trichotomy 0 p with hp | hp | hp
  · obtain ⟨a, b, c⟩ := row_a0 hp h
    exact ⟨⟨a, .inl ⟨Int.le_of_lt hp, b⟩⟩, Nat.le_of_lt c, fun _ => c⟩
  · subst hp
    have hq : q ≠ 0 := by simp only [Row] at h; omega
    have e1 : q + 2 * 0 = q := by omega
    rw [e1]
    exact ⟨⟨by omega, by omega⟩, Nat.le_refl _, fun hn => absurd rfl hn⟩
  · obtain ⟨a, b, c⟩ := row_a0 (p := -p) (q := -q) (by omega) (row_neg h)
    have e1 : -q + 2 * -p = -(q + 2 * p) := by omega
    rw [e1, Int.natAbs_neg] at a c
    rw [e1] at b
    rw [Int.natAbs_neg] at a c
    exact ⟨⟨a, .inr ⟨Int.le_of_lt hp, by omega⟩⟩, Nat.le_of_lt c, fun _ => c⟩
theorem row_n3 {p q : Int} : Row 1 p (-q) = Row 3 p q := by
  show (_ < (-q).natAbs ∧ ((_ ∧ 0 ≤ -q) ∨ (_ ∧ -q ≤ 0))) = _
  rw [Int.natAbs_neg, nn1, nn2]; rfl
theorem row_n0 {p q : Int} : Row 2 p (-q) = Row 0 p q := by
  show ((-q).natAbs < _ ∧ ((_ ∧ 0 ≤ -q) ∨ (_ ∧ -q ≤ 0))) = _
  rw [Int.natAbs_neg, nn1, nn2]; rfl
theorem row_n2 {p q : Int} : Row 0 p (-q) = Row 2 p q := by
  show ((-q).natAbs < _ ∧ ((_ ∧ -q ≤ 0) ∨ (_ ∧ 0 ≤ -q))) = _
  rw [Int.natAbs_neg, nn1, nn2]; rfl
theorem row_n1 {p q : Int} : Row 3 p (-q) = Row 1 p q := by rw [← row_n3, Int.neg_neg]
theorem row_A {p q : Int} (h : Row 3 p q ∨ Row 2 p q ∨ Row 0 p q) : Row 3 p (q - 2 * p) ∧ q.natAbs ≤ (q - 2 * p).natAbs ∧ (p ≠ 0 → q.natAbs < (q - 2 * p).natAbs) := by
  have z := row_a (p := p) (q := -q) (by rw [row_n3, row_n0, row_n2]; exact h.elim .inl fun h => .inr h.symm)
  have e1 : -q + 2 * p = -(q - 2 * p) := by omega
  rw [e1, row_n3, Int.natAbs_neg, Int.natAbs_neg] at z
  exact z
theorem row_sw1 {p q : Int} : Row 2 p q = Row 1 q p := propext (and_congr Iff.rfl (or_congr And.comm And.comm))
theorem row_sw0 {p q : Int} : Row 0 p q = Row 3 q p := propext (and_congr Iff.rfl ((or_congr And.comm And.comm).trans Or.comm))
theorem row_b {p q : Int} (h : Row 2 p q ∨ Row 1 p q ∨ Row 3 p q) : Row 2 (p + 2 * q) q ∧ p.natAbs ≤ (p + 2 * q).natAbs ∧ (q ≠ 0 → p.natAbs < (p + 2 * q).natAbs) := by
  rw [row_sw1]
  exact row_a (p := q) (q := p) (by rw [row_sw1, row_sw0, ← row_sw1]; exact h)
theorem row_B {p q : Int} (h : Row 0 p q ∨ Row 1 p q ∨ Row 3 p q) : Row 0 (p - 2 * q) q ∧ p.natAbs ≤ (p - 2 * q).natAbs ∧ (q ≠ 0 → p.natAbs < (p - 2 * q).natAbs) := by
  rw [row_sw0]
  exact row_A (p := q) (q := p) (by rw [row_sw1, row_sw0, ← row_sw0]; exact h)
end
end Mine

namespace Mine
noncomputable section
open PySem PySem.W PySem.W.X
set_option maxHeartbeats 4000000
noncomputable def size4 (m : M4) : Int := m.1.natAbs + m.2.1.natAbs + m.2.2.1.natAbs + m.2.2.2.natAbs
theorem absL_sum (m : M4) : (absL m).sum = size4 m := by simp [absL, size4]; omega
theorem spotV_of {h : Heap} {v : Value} {m : M4} (q : SpotV h v m) : ∃ tp : Nat, ∃ t, v = .ref (tp+292) ∧ h.get? (tp+292) = some (m4 m t) := by
  obtain ⟨a, t1, t2, t3, t4, e, ha, hg⟩ := q
  obtain ⟨tp, rfl⟩ : ∃ tp, a = tp + 292 := ⟨a - 292, (Nat.sub_add_cancel ha).symm⟩
  exact ⟨tp, (t1, t2, t3, t4), e, hg⟩
theorem spots_ext {own : List Addr} {h h' : Heap} (E : Ext own h h') (hown : ∀ c ∈ own, ∀ vs, h.get? c ≠ some (tupO vs)) {rs : List Value} {ms : List M4} (q : All2 (SpotV h) rs ms) : All2 (SpotV h') rs ms := q.mono fun v x q => q.ext E hown
theorem kvs_one {es : List DictEntry} {s : Str} {v : Value} (h : kvs es = [(some s, v)]) : ∃ hs t, es = [⟨hs, .str s t, v⟩] := by
  obtain ⟨hs, t, r, rfl, h1⟩ := kvs_cons h
  cases kvs_nil h1
  exact ⟨hs, t, rfl⟩
theorem sz_loop (w : World) (b1 b2 : Bool) (L0 L ck cs it acc Lc l : Nat) (p0 p1 : Pos) (rs : List Value) (nr : Nat) (ms : List M4) (d : Drawn) (ox : OsState) (R : Result → Shared → Prop) (h0 : Heap) (p : Pos) (T : Nat)
    (G : Glob (XX w b1 b2 tb []) h0) (fit : h0.get? (it+292) = some (iterO (l+292) 0)) (facc : h0.get? (acc+292) = some (listO [] 0)) (fLc : h0.get? (Lc+292) = some (dictO [] 0)) (fl : h0.get? (l+292) = some (listO rs nr)) (hal : acc ≠ l)
    (hrs : All2 (SpotV h0) rs ms) (hz : rs.length ≤ 100) (hpos : 0 < rs.length)
    (K : ∀ h' T' accs na (hs : Int) (tk : Tok) v ne, Ext [it+292, acc+292, Lc+292] h0 h' → h'.get? (acc+292) = some (listO accs na) → All2 IntV accs (ms.map size4) → h'.get? (Lc+292) = some (dictO [⟨hs, .str (nm "spot") tk, v⟩] ne) → R (.ok .next) ⟨h', ⟨[]⟩, d, T', ox⟩) :
    wpCode (model PySem.Challenge.pw_pe0217_01 (setW w b1 b2)) (ctxIn (szLoop w (it+292) (acc+292) (L+292) (Lc+292) (ck+292) (cs+292)) (belowPa w (L0+292) (L+292) (ck+292) (cs+292) p0 p1)) R p ⟨h0, ⟨[]⟩, d, T, ox⟩ := by
  have ne1 : it ≠ acc := fun e => ne_kind fit facc (by simp [kindOf, iterO, listO]) (by rw [e])
  have ne2 : it ≠ Lc := fun e => ne_kind fit fLc (by simp [kindOf, iterO, dictO]) (by rw [e])
  have ne3 : it ≠ l := fun e => ne_kind fit fl (by simp [kindOf, iterO, listO]) (by rw [e])
  have ne4 : acc ≠ Lc := fun e => ne_kind facc fLc (by simp [kindOf, dictO, listO]) (by rw [e])
  have ne5 : Lc ≠ l := fun e => ne_kind fLc fl (by simp [kindOf, dictO, listO]) (by rw [e])
  have nt0 : ∀ c ∈ [it+292, acc+292, Lc+292], ∀ vs, h0.get? c ≠ some (tupO vs) := notupL (by ktr_rel)
  refine loop0 (fun i h' => Ext [it+292, acc+292, Lc+292] h0 h' ∧ h'.get? (it+292) = some (iterO (l+292) i) ∧ (∃ accs na, h'.get? (acc+292) = some (listO accs na) ∧ All2 IntV accs ((ms.map size4).take i)) ∧
    ∃ f z ne, h'.get? (Lc+292) = some (dictO (szEs f z) ne) ∧ (f = true → i = 0)) rs.length
    ⟨Ext.refl _ _, fit, ⟨[], 0, facc, trivial⟩, true, ⟨0, 0, 0, 0, 0, 0, 0, 0, 0, 0, 0, 0, .none, .none, .none⟩, 0, fLc, fun _ => rfl⟩ ?_ ?_
  · rintro i hi p' T' h ⟨E, qit, ⟨accs, na, qacc, hacc⟩, f, z, ne, qLc, hf⟩ K'
    obtain ⟨N, hN⟩ := le_size qit (Nat.le_add_left _ _)
    have ql := E.keep _ _ fl (by kt_eqs)
    have qrs := spots_ext E nt0 hrs
    have hlen : ms.length = rs.length := hrs.length.symm
    obtain ⟨m, hm⟩ : ∃ m, ms[i]? = some m := ⟨ms[i], List.getElem?_eq_getElem (by omega)⟩
    obtain ⟨v, hv, hvm⟩ := qrs.get i hm
    obtain ⟨tp, t, rfl, qt⟩ := spotV_of hvm
    have lit := lt_of_get qit hN
    have lacc := lt_of_get qacc hN
    have lLc := lt_of_get qLc hN
    have hal' : accs.length = i := by rw [hacc.length]; simp; omega
    let A : SzA := ⟨L0, L, ck, cs, it, acc, Lc, l, tp, p0, p1, p', rs, nr, i, accs, na, szEs f z, ne, m, t, N, T'⟩
    refine code_cut (X0 := XX w b1 b2 tb []) (X := XX w b1 b2 tb [hkNext 0 3 (it+292) (l+292) rs nr i (.ref (tp+292)), hkAbs m.1 t.1, hkAbs m.2.1 t.2.1, hkAbs m.2.2.1 t.2.2.1, hkAbs m.2.2.2 t.2.2.2]) (N := N) (own := [it+292, acc+292, Lc+292]) (sz_seg0 w b1 b2 f A z) rfl rfl rfl ⟨hkNext_ok hv, ok_abs, ok_abs, ok_abs, ok_abs, trivial⟩ hN (glob_ext E (by kt_len) G) ⟨qit, qacc, qLc, ql, qt, trivial⟩ ?_ ?_ fun h1 T1 st1 hrun1 hV1 D1 E1' hnQ => ?_
    · ktd_rel
    · kt_len
    obtain ⟨u0, u1, u2, u3⟩ := pr4 hV1
    obtain ⟨es1, ne1', ow1, e1, hk1⟩ := shape_ok u2
    obtain ⟨hs, tk, rfl⟩ := kvs_one hk1
    obtain ⟨vs, nvs, ow3, e3, hvs⟩ := shapeI_ok u3
    have gsum := D1.at e3
    have hp1 : posO (rSz w b1 b2 A) = st1.p := by
      have hrun1' : rSz w b1 b2 A = some st1 := hrun1
      rw [hrun1']; rfl
    refine hnQ ?_
    show wpCode _ (ctxIn _ ((_, posO (rSz w b1 b2 A)) :: _)) _ st1.p _
    rw [hp1]
    refine sum_call gsum hvs ?_
    intro h2 T2 ts E2
    rw [absL_sum]
    have git2 := E2.keep _ _ (D1.at u0) (by kt_eqs)
    have gacc2 := E2.keep _ _ (D1.at u1) (by kt_eqs)
    have gLc2 := E2.keep _ _ (D1.at e1) (by kt_eqs)
    obtain ⟨N2, hN2⟩ := le_size git2 (Nat.le_add_left _ _)
    refine back_loop (X0 := XX w b1 b2 tb []) (X := XX w b1 b2 tb [hkApp 0 (acc+292) accs na (.int (size4 m) ts)]) (own := [acc+292]) hrun1 (sz_seg1 w b1 b2 f A z (size4 m) ts N2 T2) rfl rfl rfl ⟨ok_app (by rw [sizeL]; omega), trivial⟩ hN2 (glob_ext E2 (by kt_len) D1.glob) ⟨gacc2, trivial⟩ ⟨trivial, trivial⟩ ⟨Nat.le_add_left _ _, trivial⟩ rfl fun h3 T3 p3 st3 hV3 D3 E3' hnQ => ?_
    refine hnQ ?_
    refine K' p3 T3 h3 ⟨E.trans2 (((E1'.trans E2).trans E3').mono fun c hc => ?_), E3'.keep _ _ git2 (by kt_eqs), ⟨_, _, D3.at hV3, ?_⟩, false, ⟨hs, 0, 0, 0, 0, 0, tk, 0, 0, 0, 0, 0, _, .none, .none⟩, _, E3'.keep _ _ gLc2 (by kt_eqs), fun e => by cases e⟩
    · left
      simp only [List.mem_append, List.mem_cons, List.not_mem_nil, or_false] at hc ⊢
      rcases hc with hc | rfl
      · exact hc
      · right; left; rfl
    · rw [List.take_add_one, List.getElem?_map, hm]
      exact hacc.snoc ⟨ts, rfl⟩
  · rintro p' T' h ⟨E, qit, ⟨accs, na, qacc, hacc⟩, f, z, ne, qLc, hf⟩
    obtain ⟨N, hN⟩ := le_size qit (Nat.le_add_left _ _)
    have ql := E.keep _ _ fl (by kt_eqs)
    refine code_done (X0 := XX w b1 b2 tb []) (X := XX w b1 b2 tb [hkEnd 0 1 (it+292) (l+292) rs nr rs.length]) (N := N) (own := [it+292]) (sz_end w b1 b2 L0 L ck cs it acc Lc l p0 p1 p' rs nr rs.length N T') rfl rfl rfl ⟨hkEnd_ok (by simp), trivial⟩ hN (glob_ext E (by kt_len) G) ⟨qit, ql, trivial⟩ ?_ ?_ fun h3 T3 st3 hV3 D3 E3' hnQ => ?_
    · ktd_rel
    · kt_len
    have hf' : f = false := by cases f with | false => rfl | true => have := hf rfl; omega
    subst hf'
    refine hnQ ?_
    refine K h3 T3 accs na _ _ _ ne (E.trans2 (E3'.mono fun c hc => .inl ?_)) (E3'.keep _ _ qacc (by kt_eqs)) ?_ (E3'.keep _ _ qLc (by kt_eqs))
    · simp only [List.mem_cons, List.not_mem_nil, or_false] at hc ⊢
      left; exact hc
    · rw [List.take_of_length_le (by simp; have := hrs.length; omega)] at hacc
      exact hacc
end
end Mine
namespace Mine
noncomputable section
open PySem PySem.W PySem.W.X
structure PaA where
  (L0 a l : Nat)
  (p0 p : Pos)
  (its rs : List Value)
  (n nr N T : Nat)
structure PaB where
  accs : List Value
  (na : Nat)
  hs : Int
  tk : Tok
  v : Value
  ne : Nat
  h1 : Int
  k1 : Tok
  (nL N T : Nat)
noncomputable def rPaA (w : World) (b1 b2 : Bool) (A : PaA) : Option St := rPa0 w b1 b2 A.L0 A.a A.l A.p0 A.p A.its A.rs A.n A.nr A.N A.T
noncomputable def stPa1 (w : World) (b1 b2 : Bool) (A : PaA) (B : PaB) : St :=
  resumeO (rPaA w b1 b2 A) (.ok .next) [⟨A.N+296, listO B.accs B.na, true⟩, ⟨A.N+297, dictO [⟨B.hs, .str (nm "spot") B.tk, B.v⟩] B.ne, true⟩, ⟨A.N+292, frameO [⟨B.h1, .str (nm "word") B.k1, .ref (A.a+292)⟩] B.nL, true⟩, ⟨A.N+294, cellO none, true⟩, ⟨A.N+293, cellO (some (.ref (A.l+292))), true⟩, ⟨A.a+292, listO A.its A.n, false⟩] [] B.N B.T
noncomputable def rPa1 (w : World) (b1 b2 : Bool) (A : PaA) (B : PaB) : Option St :=
  run (XX w b1 b2 tb [hkLen 6 (A.a+292) A.its A.n, hkRIter 0 (B.N+293) 0 A.its.length (B.T+4) (B.T+3) (B.T+5)]) [3, 3, 2, 2, 2, 4, 4, 0, 0, 0, 0, 4, 1, 0, 0, 0, 0, 1, 1, 0, 1, 0, 1, 1, 1, 2, 1] (stPa1 w b1 b2 A B)
noncomputable def paFor (w : World) : Stmt := stmtAt w 281 2
noncomputable def paLoop (w : World) (it L ck cs : Addr) : Code := .forLoop (forT (paFor w)) (.ref it) (forB (paFor w)) [] (cenvC w 281 L (paC ck cs))
noncomputable def kvPa (a sz pr : Addr) : List (Option Str × Value) := [(some (nm "word"), .ref a), (some (nm "sizes"), .ref sz), (some (nm "pairs"), .ref pr)]
theorem pa_seg1 (w : World) (b1 b2 : Bool) (A : PaA) (B : PaB) : let o := rPa1 w b1 b2 A B
    seen (fun env => (nth env 0, nth env 2, nth env 3, shape (nth env 5), nth env 6, nth env 7)) o = some (toldA o, toldC o, toldO o, .call (paLoop w (B.N+294) (A.N+292) (A.N+294) (A.N+293)), ctxIn (paLoop w (B.N+294) (A.N+292) (A.N+294) (A.N+293)) (belowPa w (A.L0+292) (A.N+292) (A.N+294) (A.N+293) A.p0 (posO o)),
      (some ⟨B.N+294, rngI 0 (A.its.length - 0), true⟩, some ⟨B.N+292, listO [] 0, true⟩, some ⟨A.N+296, listO B.accs B.na, true⟩, some (A.N+292, some (.type "frame", none, #[], kvPa (A.a+292) (A.N+296) (B.N+292))), some ⟨A.N+294, cellO none, true⟩, some ⟨A.N+293, cellO (some (.ref (A.l+292))), true⟩), [], toldM o, toldI o, true) := by
  cases b1 <;> kernel_rfl
structure PtA where
  (L0 L ck cs it sz l pr a : Nat)
  (p0 p1 p : Pos)
  (j : Nat)
  left : Int
  szs : List Value
  nsz : Nat
  rs : List Value
  nr : Nat
  prs : List Value
  npr : Nat
  es : List DictEntry
  nL : Nat
  kv : Option Value
  (x y : Int)
  (tx ty : Tok)
  (N T : Nat)
noncomputable def stPt (w : World) (A : PtA) : St :=
  begin (ctxIn (paLoop w (A.it+292) (A.L+292) (A.ck+292) (A.cs+292)) (belowPa w (A.L0+292) (A.L+292) (A.ck+292) (A.cs+292) A.p0 A.p1)) A.p [⟨A.it+292, rngI A.j A.left, true⟩, ⟨A.L+292, frameO A.es A.nL, true⟩, ⟨A.ck+292, cellO A.kv, true⟩, ⟨A.cs+292, cellO (some (.ref (A.l+292))), false⟩, ⟨A.sz+292, listO A.szs A.nsz, false⟩] [] A.N A.T
end
end Mine

namespace Mine
noncomputable section
open PySem PySem.W PySem.W.X PySem.Calls PyProof.Rows
noncomputable def m4O (m : M4) (t : Tok × Tok × Tok × Tok) : Obj := tupO [.int m.1 t.1, .int m.2.1 t.2.1, .int m.2.2.1 t.2.2.1, .int m.2.2.2 t.2.2.2]
noncomputable def eqM (m m' : M4) : Bool := m.1 == m'.1 && (m.2.1 == m'.2.1 && (m.2.2.1 == m'.2.2.1 && m.2.2.2 == m'.2.2.2))
theorem eqM_iff {m m' : M4} : eqM m m' = true ↔ m = m' := by
  obtain ⟨a, b, c, d⟩ := m
  obtain ⟨a', b', c', d'⟩ := m'
  simp [eqM]
noncomputable def hkTupEq (j k : Nat) (a b : Addr) (m m' : M4) (t t' : Tok × Tok × Tok × Tok) (r : Bool) : Hook :=
  ⟨.call (.builtin "tuple.__eq__") ⟨[.ref a, .ref b], []⟩, [(j, a, m4O m t, none), (k, b, m4O m' t', none)], fun _ _ => .ok (.ret (.bool r)), fun _ => [], 0⟩
theorem ok_tupeq {X : Cx} {j k : Nat} {a b : Addr} {m m' : M4} {t t' : Tok × Tok × Tok × Tok} {r : Bool} (hr : eqM m m' = r) : HookOk X (hkTupEq j k a b m m' t t' r) := by
  refine hook_ok (v := fun _ _ => .bool r) fun A Q E s _ _ hp hq => ?_
  obtain ⟨ha, hb, _⟩ := hp
  have hT : s.TypeIs (.ref a) "tuple" := ⟨_, ha, rfl⟩
  let e : Nat → Bool := fun i => match i with | 0 => m.1 == m'.1 | 1 => m.2.1 == m'.2.1 | 2 => m.2.2.1 == m'.2.2.1 | _ => m.2.2.2 == m'.2.2.2
  refine call_meets F.slot_tuple_eq hT F.entry_tuple_eq (F.args_tuple_eq_2 _ _) (SeqAt.tuple_eqAt a b ⟨[.int m.1 t.1, .int m.2.1 t.2.1, .int m.2.2.1 t.2.2.1, .int m.2.2.2 t.2.2.2]⟩ ⟨[.int m'.1 t'.1, .int m'.2.1 t'.2.1, .int m'.2.2.1 t'.2.2.1, .int m'.2.2.2 t'.2.2.2]⟩ 0 0 none none #[] #[] e) ⟨ha, hb, ?_, ?_⟩
  · intro i h1 h2
    have h4 : i < 4 := h1
    rcases (by omega : i = 0 ∨ i = 1 ∨ i = 2 ∨ i = 3) with rfl | rfl | rfl | rfl
    · exact SeqAt.EqAt.int_int _ _ _ _
    · exact SeqAt.EqAt.int_int _ _ _ _
    · exact SeqAt.EqAt.int_int _ _ _ _
    · exact SeqAt.EqAt.int_int _ _ _ _
  · have e1 : ((List.range (min 4 4)).all e && (4 : Nat) == 4) = r := by
      rw [← hr]
      show (e 0 && (e 1 && (e 2 && (e 3 && true))) && true) = eqM m m'
      simp only [Bool.and_true]
      rfl
    show Q (.bool ((List.range (min 4 4)).all e && (4 : Nat) == 4)) s
    rw [e1]
    exact hq
noncomputable def DifE' (e : Ent) : List Ent → Prop
  | [] => True
  | f :: l => ((e.own = true ∨ f.own = true) → (kindOf e.o ≠ kindOf f.o ∨ e.a ≠ f.a)) ∧ DifE' e l
noncomputable def Dif' : List Ent → Prop
  | [] => True
  | e :: l => DifE' e l ∧ Dif' l
theorem difE'_all {h : Heap} {e : Ent} (h1 : h.get? e.a = some e.o) : ∀ {l : List Ent}, AllE (fun e => h.get? e.a = some e.o) l → DifE' e l → ∀ f ∈ l, (e.own = true ∨ f.own = true) → e.a ≠ f.a
  | [], _, _, _, hm, _ => nomatch hm
  | g :: l, he, hd, f, hm, ho => by
    rcases List.mem_cons.mp hm with rfl | q
    · rcases hd.1 ho with k | k
      · exact ne_kind h1 he.1 k
      · exact k
    · exact difE'_all h1 he.2 hd.2 f q ho
theorem dif'_apart {h : Heap} : ∀ {l : List Ent}, AllE (fun e => h.get? e.a = some e.o) l → Dif' l → l.Pairwise fun e f => (e.own = true ∨ f.own = true) → e.a ≠ f.a
  | [], _, _ => .nil
  | e :: l, he, hd => List.pairwise_cons.mpr ⟨fun f hf ho => difE'_all he.1 he.2 hd.1 f hf ho, dif'_apart he.2 hd.2⟩
theorem on_dif' {X : Cx} {Γ : Ctx} {p : Pos} {t : Sem Fin} {κ : List Fr} {env : List Ent} {gl : List GenState} {N T : Nat} {E : List (Addr × Addr)} {C : List (Code × Code)} {O : List (Obj × Obj)} {h : Heap}
    (hs : h.objs.size = N + 292) (g : Glob X h) (he : AllE (fun e => h.get? e.a = some e.o) env) (nd : Dif' env) (hi : AllE (fun e => 292 ≤ e.a) env) : On X ⟨Γ, p, t, κ, env, gl, N, 0, T, 0, E, C, O⟩ h :=
  ⟨by rw [hs]; rfl, allE he, dif'_apart he nd, fun e h1 _ => .inl (allE hi e h1), g⟩
end
end Mine

namespace Mine
noncomputable section
open PySem PySem.W PySem.W.X
set_option maxHeartbeats 4000000
noncomputable def ptE (f : Bool) (a sz pr : Nat) (z : Zs) : List DictEntry := match f with
  | true => [⟨z.h1, .str (nm "word") z.k1, .ref (a+292)⟩, ⟨z.h2, .str (nm "sizes") z.k2, .ref (sz+292)⟩, ⟨z.h3, .str (nm "pairs") z.k3, .ref (pr+292)⟩]
  | false => [⟨z.h1, .str (nm "word") z.k1, .ref (a+292)⟩, ⟨z.h2, .str (nm "sizes") z.k2, .ref (sz+292)⟩, ⟨z.h3, .str (nm "pairs") z.k3, .ref (pr+292)⟩, ⟨z.h4, .str (nm "same") z.k4, z.v4⟩]
noncomputable def xPt (w : World) (b1 b2 : Bool) (A : PtA) (r : Bool) : Cx :=
  XX w b1 b2 tb [hkRNext 0 (A.it+292) A.j A.left, hkInt "int.__add__" [.int A.j A.T, .int 1 (A.T+1)] (A.j+1), hkItem 4 (A.sz+292) A.szs A.nsz (A.j+1) (A.T+2) (.int A.x A.tx), hkItem 4 (A.sz+292) A.szs A.nsz A.j A.T (.int A.y A.ty), hkVal "int.__lt__" [.int A.x A.tx, .int A.y A.ty] (.bool r), hkInt "int.__add__" [.int A.j A.T, .int 1 (A.T+3)] (A.j+1), hkRIter 0 (A.N+292) 0 (A.j+1) (A.T+5) (A.T+4) (A.T+6)]
noncomputable def smE (w : World) : PySem.Expr := asgV ((ifB ((forB (paFor w)).getD 0 (.Pass default))).getD 0 (.Pass default))
noncomputable def smEnv (w : World) (L Lc ck cs : Addr) : Env := compEnv (scopeOf (smE w)) Lc [(nm "spots", cs), (nm "k", ck)] (cenvC w 281 L (paC ck cs))
noncomputable def smLoop (w : World) (it acc L Lc ck cs : Addr) : Code := .compLoop (smE w) 0 (.ref it) (.ref acc) (smEnv w L Lc ck cs)
noncomputable def smStart (w : World) (it acc L Lc ck cs : Addr) : Code := .compStart (smE w) 0 (.ref it) (.ref acc) (smEnv w L Lc ck cs)
noncomputable def belowSm (w : World) (L0 L ck cs it : Addr) (p0 p1 p2 : Pos) : List (Code × Pos) := (paLoop w it L ck cs, p2) :: belowPa w L0 L ck cs p0 p1
theorem pt_seg0 (w : World) (b1 b2 f : Bool) (A : PtA) (z : Zs) : let o := run (xPt w b1 b2 A false) [1, 1, 3, 3, 2, 3, 2, 5, 5, 5, 3, 2, 3, 5, 5, 5, 4, 5] (stPt w { A with es := ptE f A.a A.sz A.pr z })
    seen (fun env => (nth env 0, nth env 1, nth env 2)) o = some (toldA o, toldC o, toldO o, .again (paLoop w (A.it+292) (A.L+292) (A.ck+292) (A.cs+292)), ctxIn (paLoop w (A.it+292) (A.L+292) (A.ck+292) (A.cs+292)) (belowPa w (A.L0+292) (A.L+292) (A.ck+292) (A.cs+292) A.p0 A.p1),
      (some ⟨A.it+292, rngI (A.j+1) (A.left-1), true⟩, some ⟨A.L+292, frameO (ptE f A.a A.sz A.pr z) A.nL, true⟩, some ⟨A.ck+292, cellO (some (.int A.j A.T)), true⟩), [], toldM o, toldI o, true) := by
  cases f <;> cases b1 <;> kernel_rfl
noncomputable def rPt (w : World) (b1 b2 : Bool) (A : PtA) : Option St :=
  run (xPt w b1 b2 A true) [1, 1, 3, 3, 2, 3, 2, 5, 5, 5, 3, 2, 3, 5, 5, 5, 4, 5, 0, 0, 3, 6, 0, 0, 0, 0, 1, 1, 0, 1, 0, 1, 1, 1, 7, 1] (stPt w A)
theorem pt_seg1 (w : World) (b1 b2 f : Bool) (A : PtA) (z : Zs) : let o := rPt w b1 b2 { A with es := ptE f A.a A.sz A.pr z }
    seen (fun env => (nth env 0, nth env 1, nth env 2, nth env 4, nth env 5, nth env 6)) o = some (toldA o, toldC o, toldO o, .call (smStart w (A.N+293) (A.N+294) (A.L+292) (A.N+295) (A.ck+292) (A.cs+292)), ctxIn (smStart w (A.N+293) (A.N+294) (A.L+292) (A.N+295) (A.ck+292) (A.cs+292)) (belowSm w (A.L0+292) (A.L+292) (A.ck+292) (A.cs+292) (A.it+292) A.p0 A.p1 (posO o)),
      (some ⟨A.N+295, dictO [] 0, true⟩, some ⟨A.N+294, listO [] 0, true⟩, some ⟨A.N+293, rngI 0 (A.j+1-0), true⟩, some ⟨A.it+292, rngI (A.j+1) (A.left-1), true⟩, some ⟨A.L+292, frameO (ptE f A.a A.sz A.pr z) A.nL, true⟩, some ⟨A.ck+292, cellO (some (.int A.j A.T)), true⟩), [], toldM o, toldI o, true) := by
  cases f <;> cases b1 <;> kernel_rfl
structure SmA where
  (L0 L ck cs it0 it acc Lc l ta tb : Nat)
  (p0 p1 p2 p : Pos)
  (i j : Nat)
  left : Int
  accs : List Value
  na : Nat
  es : List DictEntry
  ne : Nat
  tj : Tok
  rs : List Value
  nr : Nat
  (m m' : M4)
  (t t' : Tok × Tok × Tok × Tok)
  (N T : Nat)
noncomputable def stSm (w : World) (A : SmA) : St :=
  begin (ctxIn (smLoop w (A.it+292) (A.acc+292) (A.L+292) (A.Lc+292) (A.ck+292) (A.cs+292)) (belowSm w (A.L0+292) (A.L+292) (A.ck+292) (A.cs+292) (A.it0+292) A.p0 A.p1 A.p2)) A.p [⟨A.it+292, rngI A.i A.left, true⟩, ⟨A.acc+292, listO A.accs A.na, true⟩, ⟨A.Lc+292, dictO A.es A.ne, true⟩, ⟨A.ck+292, cellO (some (.int A.j A.tj)), false⟩, ⟨A.cs+292, cellO (some (.ref (A.l+292))), false⟩, ⟨A.l+292, listO A.rs A.nr, false⟩, ⟨A.ta+292, m4O A.m A.t, false⟩, ⟨A.tb+292, m4O A.m' A.t', false⟩] [] A.N A.T
noncomputable def smEs (f : Bool) (z : Zs) : List DictEntry := match f with
  | true => []
  | false => [⟨z.h1, .str (nm "j") z.k1, z.v4⟩]
noncomputable def xSm (w : World) (b1 b2 : Bool) (A : SmA) (r : Bool) : Cx :=
  XX w b1 b2 tb [hkRNext 0 (A.it+292) A.i A.left, hkItem 5 (A.l+292) A.rs A.nr A.i A.T (.ref (A.ta+292)), hkInt "int.__add__" [.int A.j A.tj, .int 1 (A.T+2)] (A.j+1), hkItem 5 (A.l+292) A.rs A.nr (A.j+1) (A.T+3) (.ref (A.tb+292)), hkTupEq 6 7 (A.ta+292) (A.tb+292) A.m A.m' A.t A.t' r, hkApp 1 (A.acc+292) A.accs A.na (.int A.i A.T)]
theorem sm_seg0 (w : World) (b1 b2 f : Bool) (A : SmA) (z : Zs) : let o := run (xSm w b1 b2 A false) [1, 1, 3, 3, 5, 3, 6, 6, 6, 2, 5, 4, 3, 6, 6, 6, 4, 7, 8, 7, 5] (stSm w { A with es := smEs f z })
    seen (fun env => (nth env 0, nth env 1, shape (nth env 2))) o = some (toldA o, toldC o, toldO o, .again (smLoop w (A.it+292) (A.acc+292) (A.L+292) (A.Lc+292) (A.ck+292) (A.cs+292)), ctxIn (smLoop w (A.it+292) (A.acc+292) (A.L+292) (A.Lc+292) (A.ck+292) (A.cs+292)) (belowSm w (A.L0+292) (A.L+292) (A.ck+292) (A.cs+292) (A.it0+292) A.p0 A.p1 A.p2),
      (some ⟨A.it+292, rngI (A.i+1) (A.left-1), true⟩, some ⟨A.acc+292, listO A.accs A.na, true⟩, some (A.Lc+292, some (.type "dict", none, #[], [(some (nm "j"), .int A.i A.T)]))), [], toldM o, toldI o, true) := by
  cases f <;> cases b1 <;> kernel_rfl
theorem sm_seg1 (w : World) (b1 b2 f : Bool) (A : SmA) (z : Zs) : let o := run (xSm w b1 b2 A true) [1, 1, 3, 3, 5, 3, 6, 6, 6, 2, 5, 4, 3, 6, 6, 6, 4, 7, 8, 7, 5, 3, 6] (stSm w { A with es := smEs f z })
    seen (fun env => (nth env 0, nth env 1, shape (nth env 2))) o = some (toldA o, toldC o, toldO o, .again (smLoop w (A.it+292) (A.acc+292) (A.L+292) (A.Lc+292) (A.ck+292) (A.cs+292)), ctxIn (smLoop w (A.it+292) (A.acc+292) (A.L+292) (A.Lc+292) (A.ck+292) (A.cs+292)) (belowSm w (A.L0+292) (A.L+292) (A.ck+292) (A.cs+292) (A.it0+292) A.p0 A.p1 A.p2),
      (some ⟨A.it+292, rngI (A.i+1) (A.left-1), true⟩, some ⟨A.acc+292, listO (A.accs ++ [.int A.i A.T]) (A.na+1), true⟩, some (A.Lc+292, some (.type "dict", none, #[], [(some (nm "j"), .int A.i A.T)]))), [], toldM o, toldI o, true) := by
  cases f <;> cases b1 <;> kernel_rfl
theorem sm_end (w : World) (b1 b2 : Bool) (L0 L ck cs it0 it acc Lc : Nat) (p0 p1 p2 p : Pos) (x left : Int) (N T : Nat) : let o := run (XX w b1 b2 tb [hkREnd 0 (it+292) x left]) [1, 1, 1] (begin (ctxIn (smLoop w (it+292) (acc+292) (L+292) (Lc+292) (ck+292) (cs+292)) (belowSm w (L0+292) (L+292) (ck+292) (cs+292) (it0+292) p0 p1 p2)) p [⟨it+292, rngI x left, true⟩] [] N T)
    seen (fun _ => ()) o = some (toldA o, toldC o, toldO o, .done .next, ctxIn (smLoop w (it+292) (acc+292) (L+292) (Lc+292) (ck+292) (cs+292)) (belowSm w (L0+292) (L+292) (ck+292) (cs+292) (it0+292) p0 p1 p2), (), [], toldM o, toldI o, true) := by
  kernel_rfl
structure PtB where
  accs : List Value
  (na : Nat)
  hj : Int
  kj : Tok
  vj : Value
  (ne N T : Nat)
noncomputable def stPt2 (w : World) (b1 b2 : Bool) (A : PtA) (B : PtB) : St :=
  resumeO (rPt w b1 b2 A) (.ok .next) [⟨A.N+294, listO B.accs B.na, true⟩, ⟨A.N+295, dictO [⟨B.hj, .str (nm "j") B.kj, B.vj⟩] B.ne, true⟩, ⟨A.L+292, frameO A.es A.nL, true⟩, ⟨A.ck+292, cellO (some (.int A.j A.T)), true⟩, ⟨A.pr+292, listO A.prs A.npr, true⟩] [] B.N B.T
noncomputable def rPt2 (w : World) (b1 b2 : Bool) (A : PtA) (B : PtB) : Option St := run (XX w b1 b2 tb []) [3, 3, 2, 2, 2, 3, 5, 5, 5, 5, 0, 0, 0, 0, 3] (stPt2 w b1 b2 A B)
noncomputable def kvPt (a sz pr : Addr) (v : Value) : List (Option Str × Value) := [(some (nm "word"), .ref a), (some (nm "sizes"), .ref sz), (some (nm "pairs"), .ref pr), (some (nm "same"), v)]
theorem pt_seg2 (w : World) (b1 b2 f : Bool) (A : PtA) (z : Zs) (B : PtB) : let o := rPt2 w b1 b2 { A with es := ptE f A.a A.sz A.pr z } B
    seen (fun env => (nth env 0, shape (nth env 2), nth env 3, nth env 4)) o = some (toldA o, toldC o, toldO o, .call (.call (.builtin "max") ⟨[.ref (A.N+294)], []⟩), ctxIn (.call (.builtin "max") ⟨[.ref (A.N+294)], []⟩) ((paLoop w (A.it+292) (A.L+292) (A.ck+292) (A.cs+292), posO o) :: belowPa w (A.L0+292) (A.L+292) (A.ck+292) (A.cs+292) A.p0 A.p1),
      (some ⟨A.N+294, listO B.accs B.na, true⟩, some (A.L+292, some (.type "frame", none, #[], kvPt (A.a+292) (A.sz+292) (A.pr+292) (.ref (A.N+294)))), some ⟨A.ck+292, cellO (some (.int A.j A.T)), true⟩, some ⟨A.pr+292, listO A.prs A.npr, true⟩), [], toldM o, toldI o, true) := by
  cases f <;> cases b1 <;> kernel_rfl
noncomputable def stPt3 (w : World) (b1 b2 : Bool) (A : PtA) (B : PtB) (M : Nat) (tm : Tok) (N T : Nat) : St :=
  resumeO (rPt2 w b1 b2 A B) (.ok (.ret (.int M tm))) [⟨A.ck+292, cellO (some (.int A.j A.T)), false⟩, ⟨A.pr+292, listO A.prs A.npr, true⟩] [] N T
theorem pt_seg3 (w : World) (b1 b2 f : Bool) (A : PtA) (z : Zs) (B : PtB) (M : Nat) (tm : Tok) (N T : Nat) : let o := run (XX w b1 b2 tb [hkStrOf M tm, hkStrOf A.j A.T, hkApp 2 (A.pr+292) A.prs A.npr (.ref (N+292))]) [1, 0, 0, 1, 2, 3] (stPt3 w b1 b2 { A with es := ptE f A.a A.sz A.pr z } B M tm N T)
    seen (fun env => (nth env 0, nth env 2)) o = some (toldA o, toldC o, toldO o, .again (paLoop w (A.it+292) (A.L+292) (A.ck+292) (A.cs+292)), ctxIn (paLoop w (A.it+292) (A.L+292) (A.ck+292) (A.cs+292)) (belowPa w (A.L0+292) (A.L+292) (A.ck+292) (A.cs+292) A.p0 A.p1),
      (some ⟨N+292, tupO [.str (digs M) T, .str (digs A.j) (T+1)], true⟩, some ⟨A.pr+292, listO (A.prs ++ [.ref (N+292)]) (A.npr+1), true⟩), [], toldM o, toldI o, true) := by
  cases f <;> cases b1 <;> kernel_rfl
theorem pa_end (w : World) (b1 b2 : Bool) (L0 L ck cs it : Nat) (p0 p1 p : Pos) (x left : Int) (N T : Nat) : let o := run (XX w b1 b2 tb [hkREnd 0 (it+292) x left]) [1, 1, 1, 0] (begin (ctxIn (paLoop w (it+292) (L+292) (ck+292) (cs+292)) (belowPa w (L0+292) (L+292) (ck+292) (cs+292) p0 p1)) p [⟨it+292, rngI x left, true⟩] [] N T)
    seen (fun _ => ()) o = some (toldA o, toldC o, toldO o, .done .next, ctxIn (.block [] (cenvC w 281 (L+292) (paC (ck+292) (cs+292)))) (belowPa w (L0+292) (L+292) (ck+292) (cs+292) p0 p1), (), [], toldM o, toldI o, true) := by
  kernel_rfl
theorem pa_seg2 (w : World) (b1 b2 f : Bool) (A : PaA) (B : PaB) (z : Zs) (nL N T : Nat) : let o := run (XX w b1 b2 tb []) [1] (resumeO (rPa1 w b1 b2 A B) (.ok .next) [⟨A.N+292, frameO (ptE f A.a (A.N+4) B.N z) nL, true⟩] [] N T)
    seen (fun _ => ()) o = some (toldA o, toldC o, toldO o, .done (.ret (.ref (B.N+292))), ctxIn (fcodeC w 281 (A.N+292) (paC (A.N+294) (A.N+293))) (belowLaw w (A.L0+292) A.p0), (), [], toldM o, toldI o, true) := by
  cases f <;> cases b1 <;> kernel_rfl
end
end Mine

namespace Mine
noncomputable section
open PySem PySem.W PySem.W.X
set_option maxHeartbeats 4000000
noncomputable def sameL (f : Nat → M4) (m : M4) (a i : Nat) : List Int := ((List.range' a i).filter fun j => eqM (f j) m).map fun (j : Nat) => (j : Int)
theorem sameL_succ (f : Nat → M4) (m : M4) (a i : Nat) : sameL f m a (i + 1) = sameL f m a i ++ (if eqM (f (a + i)) m then [((a + i : Nat) : Int)] else []) := by
  unfold sameL
  rw [List.range'_concat, List.filter_append, List.map_append]
  congr 1
  simp only [Nat.one_mul]
  cases h : eqM (f (a + i)) m <;> simp [h]
theorem mem_sameL {f : Nat → M4} {m : M4} {a i : Nat} {x : Int} : x ∈ sameL f m a i ↔ ∃ j : Nat, a ≤ j ∧ j < a + i ∧ f j = m ∧ x = j := by
  simp only [sameL, List.mem_map, List.mem_filter, List.mem_range'_1, eqM_iff]
  constructor
  · rintro ⟨j, ⟨⟨h1, h2⟩, h3⟩, rfl⟩; exact ⟨j, h1, h2, h3, rfl⟩
  · rintro ⟨j, h1, h2, h3, rfl⟩; exact ⟨j, ⟨⟨h1, h2⟩, h3⟩, rfl⟩
theorem kvs_j {es : List DictEntry} {s : Str} {v : Value} (h : kvs es = [(some s, v)]) : ∃ hs t, es = [⟨hs, .str s t, v⟩] := kvs_one h
noncomputable def zs0 : Zs := ⟨0, 0, 0, 0, 0, 0, 0, 0, 0, 0, 0, 0, .none, .none, .none⟩
theorem sm_loop (w : World) (b1 b2 : Bool) (L0 L ck cs it0 it acc Lc l : Nat) (p0 p1 p2 p : Pos) (j : Nat) (tj : Tok) (rs : List Value) (nr : Nat) (f : Nat → M4) (d : Drawn) (ox : OsState) (R : Result → Shared → Prop) (h0 : Heap) (T : Nat)
    (G : Glob (XX w b1 b2 tb []) h0) (fit : h0.get? (it+292) = some (rngI 0 (j+1-0))) (facc : h0.get? (acc+292) = some (listO [] 0)) (fLc : h0.get? (Lc+292) = some (dictO [] 0)) (fck : h0.get? (ck+292) = some (cellO (some (.int j tj)))) (fcs : h0.get? (cs+292) = some (cellO (some (.ref (l+292)))))
    (fl : h0.get? (l+292) = some (listO rs nr)) (hal : acc ≠ l) (hj : j < 100) (hrs : ∀ i, i ≤ j + 1 → ∃ v, rs[i]? = some v ∧ SpotV h0 v (f i))
    (K : ∀ h' T' accs na (hs : Int) (tk : Tok) v ne, Ext [it+292, acc+292, Lc+292] h0 h' → h'.get? (acc+292) = some (listO accs na) → All2 IntV accs (sameL f (f (j+1)) 0 (j+1)) → h'.get? (Lc+292) = some (dictO [⟨hs, .str (nm "j") tk, v⟩] ne) → R (.ok .next) ⟨h', ⟨[]⟩, d, T', ox⟩) :
    wpCode (model PySem.Challenge.pw_pe0217_01 (setW w b1 b2)) (ctxIn (smLoop w (it+292) (acc+292) (L+292) (Lc+292) (ck+292) (cs+292)) (belowSm w (L0+292) (L+292) (ck+292) (cs+292) (it0+292) p0 p1 p2)) R p ⟨h0, ⟨[]⟩, d, T, ox⟩ := by
  have ne1 : it ≠ acc := fun e => ne_kind fit facc (by simp [kindOf, rngI, listO]) (by rw [e])
  have ne2 : it ≠ Lc := fun e => ne_kind fit fLc (by simp [kindOf, rngI, dictO]) (by rw [e])
  have ne3 : it ≠ l := fun e => ne_kind fit fl (by simp [kindOf, rngI, listO]) (by rw [e])
  have ne4 : acc ≠ Lc := fun e => ne_kind facc fLc (by simp [kindOf, dictO, listO]) (by rw [e])
  have ne5 : Lc ≠ l := fun e => ne_kind fLc fl (by simp [kindOf, dictO, listO]) (by rw [e])
  have ne6 : it ≠ ck := fun e => ne_kind fit fck (by simp [kindOf, rngI, cellO]) (by rw [e])
  have ne7 : it ≠ cs := fun e => ne_kind fit fcs (by simp [kindOf, rngI, cellO]) (by rw [e])
  have ne8 : acc ≠ ck := fun e => ne_kind facc fck (by simp [kindOf, listO, cellO]) (by rw [e])
  have ne9 : acc ≠ cs := fun e => ne_kind facc fcs (by simp [kindOf, listO, cellO]) (by rw [e])
  have ne10 : Lc ≠ ck := fun e => ne_kind fLc fck (by simp [kindOf, dictO, cellO]) (by rw [e])
  have ne11 : Lc ≠ cs := fun e => ne_kind fLc fcs (by simp [kindOf, dictO, cellO]) (by rw [e])
  have nt0 : ∀ c ∈ [it+292, acc+292, Lc+292], ∀ vs, h0.get? c ≠ some (tupO vs) := notupL (by ktr_rel)
  refine loop0 (fun i h' => Ext [it+292, acc+292, Lc+292] h0 h' ∧ h'.get? (it+292) = some (rngI i (j+1-i)) ∧ (∃ accs na, h'.get? (acc+292) = some (listO accs na) ∧ All2 IntV accs (sameL f (f (j+1)) 0 i) ∧ accs.length ≤ i) ∧
    ∃ fl z ne, h'.get? (Lc+292) = some (dictO (smEs fl z) ne) ∧ (fl = true → i = 0)) (j+1)
    ⟨Ext.refl _ _, fit, ⟨[], 0, facc, trivial, Nat.le_refl _⟩, true, zs0, 0, fLc, fun _ => rfl⟩ ?_ ?_
  · rintro i hi p' T' h ⟨E, qit, ⟨accs, na, qacc, hacc, hlen⟩, fl', z, ne, qLc, hf⟩ K'
    obtain ⟨N, hN⟩ := le_size qit (Nat.le_add_left _ _)
    have ql := E.keep _ _ fl (by kt_eqs)
    have qck := E.keep _ _ fck (by kt_eqs)
    have qcs := E.keep _ _ fcs (by kt_eqs)
    obtain ⟨va, hva, sa⟩ := hrs i (by omega)
    obtain ⟨vb, hvb, sb⟩ := hrs (j+1) (by omega)
    obtain ⟨ta, t, rfl, qta⟩ := spotV_of (sa.ext E nt0)
    obtain ⟨tb, t', rfl, qtb⟩ := spotV_of (sb.ext E nt0)
    let A : SmA := ⟨L0, L, ck, cs, it0, it, acc, Lc, l, ta, tb, p0, p1, p2, p', i, j, j+1-i, accs, na, smEs fl' z, ne, tj, rs, nr, f i, f (j+1), t, t', N, T'⟩
    have D : ∀ r, On (xSm w b1 b2 A r) (stSm w A) h := by
      intro r
      refine on_dif' hN (glob_ext E (by kt_len) G) ⟨qit, qacc, qLc, qck, qcs, ql, qta, qtb, trivial⟩ ?_ ?_
      · ktd_rel
      · kt_len
    have step : ∀ h3 p3 T3 accs' na', Ext [it+292, acc+292, Lc+292] h h3 → h3.get? (it+292) = some (rngI (i+1) (j+1-i-1)) → h3.get? (acc+292) = some (listO accs' na') → All2 IntV accs' (sameL f (f (j+1)) 0 (i+1)) → accs'.length ≤ i + 1 → (∃ es ne, h3.get? (Lc+292) = some (dictO es ne) ∧ kvs es = [(some (nm "j"), .int i T')]) →
        wpCode (model PySem.Challenge.pw_pe0217_01 (setW w b1 b2)) (ctxIn (smLoop w (it+292) (acc+292) (L+292) (Lc+292) (ck+292) (cs+292)) (belowSm w (L0+292) (L+292) (ck+292) (cs+292) (it0+292) p0 p1 p2)) R p3 ⟨h3, ⟨[]⟩, d, T3, ox⟩ := by
      rintro h3 p3 T3 accs' na' E3 g1 g2 hv hl' ⟨es, ne', g3, hk⟩
      obtain ⟨hs, tk, rfl⟩ := kvs_one hk
      refine K' p3 T3 h3 ⟨E.trans2 E3, ?_, ⟨accs', na', g2, hv, hl'⟩, false, ⟨hs, 0, 0, 0, 0, 0, tk, 0, 0, 0, 0, 0, _, .none, .none⟩, _, g3, fun e => by cases e⟩
      rw [g1]; congr 2; omega
    have h5 : ((j : Int) + 1).toNat = j + 1 := by omega
    cases hr : eqM (f i) (f (j+1)) with
    | false =>
      refine code_of_means (X := xSm w b1 b2 A false) (N := N) (means_of_loop (sm_seg0 w b1 b2 fl' A z) ⟨ok_rnext (by show (0 : Int) < (j : Int) + 1 - i; omega), ok_item (by omega) (by show (i : Int) < 2 ^ 63; omega) (by simpa [A] using hva), ok_add, ok_item (by omega) (by show (j : Int) + 1 < 2 ^ 63; omega) (by show rs[((j : Int) + 1).toNat]? = _; rw [h5]; exact hvb), ok_tupeq hr, ok_app (by show accs.length ≤ _; rw [sizeL]; omega), trivial⟩ (D _) rfl fun h3 T3 p3 st3 hV3 D3 E3 => ?_)
      obtain ⟨u0, u1, u2⟩ := pr3 hV3
      obtain ⟨es, ne', ow, e2, hk⟩ := shape_ok u2
      refine step h3 p3 T3 accs na E3 (D3.at u0) (D3.at u1) ?_ (by omega) ⟨es, ne', D3.at e2, hk⟩
      rw [sameL_succ]
      simp only [Nat.zero_add, hr, Bool.false_eq_true, if_false, List.append_nil]
      exact hacc
    | true =>
      refine code_of_means (X := xSm w b1 b2 A true) (N := N) (means_of_loop (sm_seg1 w b1 b2 fl' A z) ⟨ok_rnext (by show (0 : Int) < (j : Int) + 1 - i; omega), ok_item (by omega) (by show (i : Int) < 2 ^ 63; omega) (by simpa [A] using hva), ok_add, ok_item (by omega) (by show (j : Int) + 1 < 2 ^ 63; omega) (by show rs[((j : Int) + 1).toNat]? = _; rw [h5]; exact hvb), ok_tupeq hr, ok_app (by show accs.length ≤ _; rw [sizeL]; omega), trivial⟩ (D _) rfl fun h3 T3 p3 st3 hV3 D3 E3 => ?_)
      obtain ⟨u0, u1, u2⟩ := pr3 hV3
      obtain ⟨es, ne', ow, e2, hk⟩ := shape_ok u2
      refine step h3 p3 T3 (accs ++ [.int i T']) (na+1) E3 (D3.at u0) (D3.at u1) ?_ (by simp; omega) ⟨es, ne', D3.at e2, hk⟩
      rw [sameL_succ]
      simp only [Nat.zero_add, hr, if_true]
      exact hacc.snoc ⟨T', rfl⟩
  · rintro p' T' h ⟨E, qit, ⟨accs, na, qacc, hacc, hlen⟩, fl', z, ne, qLc, hf⟩
    obtain ⟨N, hN⟩ := le_size qit (Nat.le_add_left _ _)
    refine code_done (X0 := XX w b1 b2 tb []) (X := XX w b1 b2 tb [hkREnd 0 (it+292) (j+1 : Nat) (j+1-(j+1 : Nat))]) (N := N) (own := [it+292]) (sm_end w b1 b2 L0 L ck cs it0 it acc Lc p0 p1 p2 p' (j+1 : Nat) (j+1-(j+1 : Nat)) N T') rfl rfl rfl ⟨ok_rend (by omega), trivial⟩ hN (glob_ext E (by kt_len) G) ⟨qit, trivial⟩ ⟨trivial, trivial⟩ ⟨Nat.le_add_left _ _, trivial⟩ fun h3 T3 st3 hV3 D3 E3' hnQ => ?_
    have hf' : fl' = false := by cases fl' with | false => rfl | true => have := hf rfl; omega
    subst hf'
    refine hnQ ?_
    refine K h3 T3 accs na _ _ _ ne (E.trans2 (E3'.mono fun c hc => .inl ?_)) (E3'.keep _ _ qacc (by kt_eqs)) hacc (E3'.keep _ _ qLc (by kt_eqs))
    simp only [List.mem_cons, List.not_mem_nil, or_false] at hc ⊢
    left; exact hc
end
end Mine

namespace Mine
noncomputable section
open PySem PySem.W PySem.W.X PySem.Calls PyProof.Rows
set_option maxHeartbeats 4000000
theorem iter_range {prog : Program} {w : World} {s : Shared} {it : Addr} {x left : Int} (h : s.heap.get? it = some (rngI x left)) : ∀ (A : Around) (Q : Value → Shared → Prop) (E : Value → Shared → Prop), Q (.ref it) s → wpAny (model prog w) A (pyIter (.ref it)) Q E s := fun A Q E q => by
  have hT : s.TypeIs (.ref it) "range_iterator" := ⟨_, h, rfl⟩
  refine wpAny_pyIter_slot hT F.slot_range_iterator_iter (wpAny_call_entry F.slot_range_iterator_iter hT F.entry_range_iterator_iter ?_ (F.args_range_iterator_iter_1 _))
  show wpAny _ _ (ret (.ref it)) _ _ s
  exact wpAny_pure ⟨_, rfl, "range_iterator", _, hT, F.slot_range_iterator_next.lookup, q⟩
end
end Mine
namespace Mine
noncomputable section
open PySem PySem.W PySem.W.X
set_option maxHeartbeats 4000000
theorem ptE_of {f : Bool} {a sz pr : Nat} {v : Value} {es : List DictEntry} (h : kvs es = match f with | true => kvPa (a+292) (sz+292) (pr+292) | false => kvPt (a+292) (sz+292) (pr+292) v) : ∃ z, es = ptE f a sz pr z := by
  cases f with
  | true =>
    obtain ⟨z1, k1, r1, rfl, h1⟩ := kvs_cons h
    obtain ⟨z2, k2, r2, rfl, h2⟩ := kvs_cons h1
    obtain ⟨z3, k3, r3, rfl, h3⟩ := kvs_cons h2
    cases kvs_nil h3
    exact ⟨⟨z1, z2, z3, 0, 0, 0, k1, k2, k3, 0, 0, 0, .none, .none, .none⟩, rfl⟩
  | false =>
    obtain ⟨z1, k1, r1, rfl, h1⟩ := kvs_cons h
    obtain ⟨z2, k2, r2, rfl, h2⟩ := kvs_cons h1
    obtain ⟨z3, k3, r3, rfl, h3⟩ := kvs_cons h2
    obtain ⟨z4, k4, r4, rfl, h4⟩ := kvs_cons h3
    cases kvs_nil h4
    exact ⟨⟨z1, z2, z3, z4, 0, 0, k1, k2, k3, k4, 0, 0, v, .none, .none⟩, rfl⟩
noncomputable def gPairs (g : Nat → Option Nat) (i : Nat) : List (Str × Str) := (List.range i).filterMap fun k => (g k).map fun M => (digs M, digs k)
theorem gPairs_succ (g : Nat → Option Nat) (i : Nat) : gPairs g (i + 1) = gPairs g i ++ (match g i with | some M => [(digs M, digs i)] | none => []) := by
  unfold gPairs
  rw [List.range_succ, List.filterMap_append]
  congr 1
  cases h : g i <;> simp [h]
theorem pt_turn (w : World) (b1 b2 fE : Bool) (L0 L ck cs it sz l pr a : Nat) (p0 p1 p : Pos) (j : Nat) (left : Int) (szs : List Value) (nsz : Nat) (rs : List Value) (nr : Nat) (prs : List Value) (npr : Nat) (z : Zs) (nL : Nat) (kv : Option Value)
    (f : Nat → M4) (o : Option Nat) (ys : List (Str × Str)) (T : Nat) (d : Drawn) (ox : OsState) (R : Result → Shared → Prop) (h : Heap)
    (hleft : 0 < left) (hj : j < 24) (G : Glob (XX w b1 b2 tb []) h) (fit : h.get? (it+292) = some (rngI j left)) (fL : h.get? (L+292) = some (frameO (ptE fE a sz pr z) nL)) (fck : h.get? (ck+292) = some (cellO kv)) (fcs : h.get? (cs+292) = some (cellO (some (.ref (l+292)))))
    (fsz : h.get? (sz+292) = some (listO szs nsz)) (fl : h.get? (l+292) = some (listO rs nr)) (fpr : h.get? (pr+292) = some (listO prs npr)) (hcc : ck ≠ cs) (hps : pr ≠ sz) (hpl : pr ≠ l)
    (hsz : ∀ i, i ≤ j + 1 → ∃ t, szs[i]? = some (.int (size4 (f i)) t)) (hrs : ∀ i, i ≤ j + 1 → ∃ v, rs[i]? = some v ∧ SpotV h v (f i)) (hys : All2 (PieceV h) prs ys) (hzr : prs.length ≤ 100)
    (ho0 : o = none → ¬ size4 (f (j+1)) < size4 (f j)) (ho1 : ∀ M, o = some M → size4 (f (j+1)) < size4 (f j) ∧ M ≤ j ∧ f M = f (j+1) ∧ ∀ i, i ≤ j → f i = f (j+1) → i ≤ M)
    (K : ∀ h' T' p' fE' z' nL' kv' prs' npr', Ext [it+292, L+292, ck+292, pr+292] h h' → h'.get? (it+292) = some (rngI (j+1) (left-1)) → h'.get? (L+292) = some (frameO (ptE fE' a sz pr z') nL') → h'.get? (ck+292) = some (cellO kv') → h'.get? (pr+292) = some (listO prs' npr') →
      All2 (PieceV h') prs' (ys ++ match o with | some M => [(digs M, digs j)] | none => []) →
      wpCode (model PySem.Challenge.pw_pe0217_01 (setW w b1 b2)) (ctxIn (paLoop w (it+292) (L+292) (ck+292) (cs+292)) (belowPa w (L0+292) (L+292) (ck+292) (cs+292) p0 p1)) R p' ⟨h', ⟨[]⟩, d, T', ox⟩) :
    wpCode (model PySem.Challenge.pw_pe0217_01 (setW w b1 b2)) (ctxIn (paLoop w (it+292) (L+292) (ck+292) (cs+292)) (belowPa w (L0+292) (L+292) (ck+292) (cs+292) p0 p1)) R p ⟨h, ⟨[]⟩, d, T, ox⟩ := by
  obtain ⟨N, hN⟩ := le_size fit (Nat.le_add_left _ _)
  have lit := lt_of_get fit hN
  have lL := lt_of_get fL hN
  have lck := lt_of_get fck hN
  have lcs := lt_of_get fcs hN
  have lsz := lt_of_get fsz hN
  have ll := lt_of_get fl hN
  have lpr := lt_of_get fpr hN
  have ne1 : it ≠ L := fun e => ne_kind fit fL (by simp [kindOf, rngI, frameO]) (by rw [e])
  have ne2 : it ≠ ck := fun e => ne_kind fit fck (by simp [kindOf, rngI, cellO]) (by rw [e])
  have ne3 : it ≠ cs := fun e => ne_kind fit fcs (by simp [kindOf, rngI, cellO]) (by rw [e])
  have ne4 : it ≠ sz := fun e => ne_kind fit fsz (by simp [kindOf, rngI, listO]) (by rw [e])
  have ne5 : it ≠ l := fun e => ne_kind fit fl (by simp [kindOf, rngI, listO]) (by rw [e])
  have ne6 : it ≠ pr := fun e => ne_kind fit fpr (by simp [kindOf, rngI, listO]) (by rw [e])
  have ne7 : L ≠ ck := fun e => ne_kind fL fck (by simp [kindOf, frameO, cellO]) (by rw [e])
  have ne8 : L ≠ cs := fun e => ne_kind fL fcs (by simp [kindOf, frameO, cellO]) (by rw [e])
  have ne9 : L ≠ sz := fun e => ne_kind fL fsz (by simp [kindOf, frameO, listO]) (by rw [e])
  have ne10 : L ≠ l := fun e => ne_kind fL fl (by simp [kindOf, frameO, listO]) (by rw [e])
  have ne11 : L ≠ pr := fun e => ne_kind fL fpr (by simp [kindOf, frameO, listO]) (by rw [e])
  have ne12 : ck ≠ sz := fun e => ne_kind fck fsz (by simp [kindOf, cellO, listO]) (by rw [e])
  have ne13 : ck ≠ l := fun e => ne_kind fck fl (by simp [kindOf, cellO, listO]) (by rw [e])
  have ne14 : ck ≠ pr := fun e => ne_kind fck fpr (by simp [kindOf, cellO, listO]) (by rw [e])
  have ne15 : cs ≠ pr := fun e => ne_kind fcs fpr (by simp [kindOf, cellO, listO]) (by rw [e])
  obtain ⟨tx, hxx⟩ := hsz (j+1) (by omega)
  obtain ⟨ty, hyy⟩ := hsz j (by omega)
  let A : PtA := ⟨L0, L, ck, cs, it, sz, l, pr, a, p0, p1, p, j, left, szs, nsz, rs, nr, prs, npr, ptE fE a sz pr z, nL, kv, size4 (f (j+1)), size4 (f j), tx, ty, N, T⟩
  have h5 : ((j : Int) + 1).toNat = j + 1 := by omega
  have hooks : ∀ r, decide (size4 (f (j+1)) < size4 (f j)) = r → AllOk (xPt w b1 b2 A r) (xPt w b1 b2 A r).hooks := fun r hr =>
    ⟨ok_rnext hleft, ok_add, ok_item (by omega) (by show (j : Int) + 1 < 2 ^ 63; omega) (by show szs[((j : Int) + 1).toNat]? = _; rw [h5]; exact hxx), ok_item (by omega) (by show (j : Int) < 2 ^ 63; omega) (by simpa [A] using hyy), ok_lt hr, ok_add, ok_riter (by omega) (by show (0 : Int) ≤ (j : Int) + 1; omega) (by show (j : Int) + 1 ≤ 1000; omega), trivial⟩
  have D : ∀ r, On (xPt w b1 b2 A r) (stPt w A) h := by
    intro r
    refine on_dif hN G ⟨fit, fL, fck, fcs, fsz, trivial⟩ ?_ ?_
    · ktd_rel
    · kt_len
  cases o with
  | none =>
    refine code_of_means (X := xPt w b1 b2 A false) (N := N) (means_of_loop (pt_seg0 w b1 b2 fE A z) (hooks false (by simpa using ho0 rfl)) (D _) rfl fun h1 T1 p1' st1 hV1 D1 E1 => ?_)
    obtain ⟨u0, u1, u2⟩ := pr3 hV1
    have E1' : Ext [it+292, L+292, ck+292] h h1 := E1
    have nt : ∀ c ∈ [it+292, L+292, ck+292], ∀ vs, h.get? c ≠ some (tupO vs) := notupL (by ktr_rel)
    refine K h1 T1 p1' fE z nL _ prs npr (E1'.mono fun c hc => .inl ?_) (D1.at u0) (D1.at u1) (D1.at u2) (E1'.keep _ _ fpr (by kt_eqs)) ?_
    · simp only [List.mem_cons, List.not_mem_nil, or_false] at hc ⊢
      rcases hc with rfl | rfl | rfl <;> simp
    · simp only [List.append_nil]
      exact pieces_ext E1' nt hys
  | some M =>
    obtain ⟨hlt, hMj, hfM, hmax⟩ := ho1 M rfl
    refine code_of_means (X := xPt w b1 b2 A true) (N := N) (means_of_cut (pt_seg1 w b1 b2 fE A z) (hooks true (by simpa using hlt)) (D _) fun h1 T1 st1 hrun1 hV1 D1 E1 => ?_)
    obtain ⟨u0, u1, u2, u3, u4, u5⟩ := pr6 hV1
    have E1' : Ext [it+292, L+292, ck+292] h h1 := E1
    have nt0 : ∀ c ∈ [it+292, L+292, ck+292], ∀ vs, h.get? c ≠ some (tupO vs) := notupL (by ktr_rel)
    have gLc1 : h1.get? (N+295) = some (dictO [] 0) := D1.at u0
    have gacc1 : h1.get? (N+294) = some (listO [] 0) := D1.at u1
    have git1 : h1.get? (N+293) = some (rngI 0 (j+1-0)) := D1.at u2
    have gi1 : h1.get? (it+292) = some (rngI (j+1) (left-1)) := D1.at u3
    have gL1 : h1.get? (L+292) = some (frameO (ptE fE a sz pr z) nL) := D1.at u4
    have gck1 : h1.get? (ck+292) = some (cellO (some (.int j T))) := D1.at u5
    have gcs1 := E1'.keep _ _ fcs (by kt_eqs)
    have gl1 := E1'.keep _ _ fl (by kt_eqs)
    have gpr1 := E1'.keep _ _ fpr (by kt_eqs)
    have hys1 := pieces_ext E1' nt0 hys
    refine comp_start (by kernel_rfl) (by kernel_rfl) rfl (iter_range git1) fun p2 => ?_
    refine sm_loop w b1 b2 L0 L ck cs it (N+1) (N+2) (N+3) l p0 p1 _ p2 j T rs nr f d ox _ h1 T1 D1.glob git1 gacc1 gLc1 gck1 gcs1 gl1 (by omega) (by omega) (fun i hi => ?_) ?_
    · obtain ⟨v, hv, sv⟩ := hrs i hi
      exact ⟨v, hv, sv.ext E1' nt0⟩
    intro h2 T2 accs na hs tk v ne E2 gacc2 hacc gLc2
    have E2' : Ext [N+293, N+294, N+295] h1 h2 := E2
    have gi2 := E2'.keep _ _ gi1 (by kt_eqs)
    have gL2 := E2'.keep _ _ gL1 (by kt_eqs)
    have gck2 := E2'.keep _ _ gck1 (by kt_eqs)
    have gpr2 := E2'.keep _ _ gpr1 (by kt_eqs)
    have nt1 : ∀ c ∈ [N+293, N+294, N+295], ∀ vs, h1.get? c ≠ some (tupO vs) := notupL (by ktr_rel)
    have hys2 := pieces_ext E2' nt1 hys1
    obtain ⟨N2, hN2⟩ := le_size gi2 (Nat.le_add_left _ _)
    have hNN : N + 4 ≤ N2 := by have := lt_of_get (a := N+3) gLc2 hN2; omega
    let B : PtB := ⟨accs, na, hs, tk, v, ne, N2, T2⟩
    refine back_cut (X0 := XX w b1 b2 tb []) (X := XX w b1 b2 tb []) (own := [N+294, N+295, L+292, ck+292, pr+292]) hrun1 (pt_seg2 w b1 b2 fE A z B) rfl rfl rfl trivial hN2 (glob_ext E2' (by kt_len) D1.glob) ⟨gacc2, gLc2, gL2, gck2, gpr2, trivial⟩ ?_ ?_ fun h3 T3 st3 hrun3 hV3 D3 E3' hnQ => ?_
    · ktd_rel
    · kt_len
    obtain ⟨y0, y1, y2, y3⟩ := pr4 hV3
    obtain ⟨es3, nL3, ow3, e3, hk3⟩ := shape_ok y1
    obtain ⟨z3, rfl⟩ := ptE_of (f := false) (a := a) (sz := sz) (pr := pr) (v := .ref (N+294)) hk3
    have gi3 := E3'.keep _ _ gi2 (by kt_eqs)
    have gacc3 : h3.get? (N+294) = some (listO accs na) := D3.at y0
    have gck3 : h3.get? (ck+292) = some (cellO (some (.int j T))) := D3.at y2
    have gpr3 : h3.get? (pr+292) = some (listO prs npr) := D3.at y3
    have gL3 : h3.get? (L+292) = some (frameO (ptE false a sz pr z3) nL3) := D3.at e3
    have nt2 : ∀ c ∈ [N+294, N+295, L+292, ck+292, pr+292], ∀ vs, h2.get? c ≠ some (tupO vs) := notupL (by ktr_rel)
    have hys3 := pieces_ext E3' nt2 hys2
    have hp3 : posO (rPt2 w b1 b2 A B) = st3.p := by
      have hrun3' : rPt2 w b1 b2 A B = some st3 := hrun3
      rw [hrun3']; rfl
    refine hnQ ?_
    show wpCode _ (ctxIn _ ((_, posO (rPt2 w b1 b2 A B)) :: _)) _ st3.p _
    rw [hp3]
    refine max_call gacc3 hacc ?_ ?_
    · intro e
      have : (M : Int) ∈ sameL f (f (j+1)) 0 (j+1) := mem_sameL.mpr ⟨M, by omega, by omega, hfM, rfl⟩
      rw [e] at this; cases this
    intro h4 T4 tm Mx E4 hMx hMle
    have hMM : Mx = (M : Int) := by
      obtain ⟨i, _, hi, hfi, rfl⟩ := mem_sameL.mp hMx
      have h1 := hmax i (by omega) hfi
      have h2 := hMle (M : Int) (mem_sameL.mpr ⟨M, by omega, by omega, hfM, rfl⟩)
      omega
    subst hMM
    have gi4 := E4.keep _ _ gi3 (by kt_eqs)
    have gck4 := E4.keep _ _ gck3 (by kt_eqs)
    have gpr4 := E4.keep _ _ gpr3 (by kt_eqs)
    have gL4 := E4.keep _ _ gL3 (by kt_eqs)
    have hys4 := pieces_ext E4 (by simp) hys3
    obtain ⟨N4, hN4⟩ := le_size gi4 (Nat.le_add_left _ _)
    refine back_loop (X0 := XX w b1 b2 tb []) (X := XX w b1 b2 tb [hkStrOf M tm, hkStrOf j T, hkApp 2 (pr+292) prs npr (.ref (N4+292))]) (own := [pr+292]) hrun3 (pt_seg3 w b1 b2 fE A z B M tm N4 T4) rfl rfl rfl ⟨ok_strof (by omega), ok_strof hj, ok_app (by rw [sizeL]; omega), trivial⟩ hN4 (glob_ext E4 (by kt_len) D3.glob) ⟨gck4, gpr4, trivial⟩ ?_ ?_ rfl fun h5 T5 p5 st5 hV5 D5 E5' hnQ => ?_
    · ktd_rel
    · kt_len
    obtain ⟨q0, q1⟩ := pr2 hV5
    have nt4 : ∀ c ∈ [pr+292], ∀ vs, h4.get? c ≠ some (tupO vs) := notupL (by ktr_rel)
    refine hnQ ?_
    refine K h5 T5 p5 false z3 nL3 _ _ _ (((((E1'.trans E2').trans E3').trans E4).trans E5').drop ?_) (E5'.keep _ _ gi4 (by kt_eqs)) (E5'.keep _ _ gL4 (by kt_eqs)) (E5'.keep _ _ gck4 (by kt_eqs)) (D5.at q1) ?_
    · repeat' first | exact fa_nil | refine fa_app ?_ ?_ | refine fa_cons (Or.inl (by k_mem)) ?_ | refine fa_cons (Or.inr (nw0 hN rfl)) ?_ | refine fa_cons (Or.inr (nw1 hN hNN rfl)) ?_ | refine fa_cons (Or.inr (nw2 hN hNN rfl)) ?_
    · exact (pieces_ext E5' nt4 hys4).snoc ⟨N4, _, _, rfl, D5.at q0⟩
end
end Mine

namespace Mine
noncomputable section
open PySem PySem.W PySem.W.X
set_option maxHeartbeats 4000000
noncomputable def whT : Stmt → PySem.Expr
  | .While t _ _ _ => t
  | _ => dfltE
noncomputable def whB : Stmt → List Stmt
  | .While _ b _ _ => b
  | _ => []
noncomputable def leC (ca cs : Addr) : List (Str × Addr) := [(nm "at", ca), (nm "spots", cs)]
noncomputable def leWh (w : World) : Stmt := stmtAt w 286 2
noncomputable def leLoop (w : World) (L ca cs : Addr) : Code := .whileLoop (whT (leWh w)) (whB (leWh w)) [] (cenvC w 286 L (leC ca cs))
noncomputable def belowLe (w : World) (L0 L ca cs : Addr) (p0 p1 : Pos) : List (Code × Pos) := (fcodeC w 286 L (leC ca cs), p1) :: belowLaw w L0 p0
noncomputable def stLe0 (w : World) (L0 a l : Nat) (p0 p : Pos) (its rs : List Value) (n nr N T : Nat) : St :=
  begin (ctxIn (.call (.ref 286) ⟨[.ref (a+292), .ref (l+292)], []⟩) (belowLaw w (L0+292) p0)) p [⟨a+292, listO its n, false⟩, ⟨l+292, listO rs nr, false⟩] [] N T
noncomputable def rLe0 (w : World) (b1 b2 : Bool) (L0 a l : Nat) (p0 p : Pos) (its rs : List Value) (n nr N T : Nat) : Option St :=
  run (XX w b1 b2 tb []) [0, 0, 3, 3, 2, 2, 0, 0, 5, 5, 3, 3] (stLe0 w L0 a l p0 p its rs n nr N T)
theorem le_seg0 (w : World) (b1 b2 : Bool) (L0 a l : Nat) (p0 p : Pos) (its rs : List Value) (n nr N T : Nat) : let o := rLe0 w b1 b2 L0 a l p0 p its rs n nr N T
    seen (fun env => (nth env 0, nth env 1, nth env 2, nth env 3, shape (nth env 4))) o = some (toldA o, toldC o, toldO o, .call (leLoop w (N+292) (N+294) (N+293)), ctxIn (leLoop w (N+292) (N+294) (N+293)) (belowLe w (L0+292) (N+292) (N+294) (N+293) p0 (posO o)),
      (some ⟨N+296, listO [.ref (N+295)] 0, true⟩, some ⟨N+295, tupO [.str emp (T+1), .str emp (T+2)], true⟩, some ⟨N+294, cellO (some (.int 0 (T+4))), true⟩, some ⟨N+293, cellO (some (.ref (l+292))), true⟩, some (N+292, some (.type "frame", none, #[], [(some (nm "word"), .ref (a+292)), (some (nm "left"), .ref (N+296))]))), [], toldM o, toldI o, true) := by
  cases b1 <;> kernel_rfl
structure WtA where
  (L0 L ca cs lf l a : Nat)
  (p0 p1 p : Pos)
  (i : Nat)
  ti : Tok
  its : List Value
  n : Nat
  rs : List Value
  nr : Nat
  lfs : List Value
  nlf : Nat
  es : List DictEntry
  (nL N T : Nat)
noncomputable def stWt (w : World) (A : WtA) : St :=
  begin (ctxIn (leLoop w (A.L+292) (A.ca+292) (A.cs+292)) (belowLe w (A.L0+292) (A.L+292) (A.ca+292) (A.cs+292) A.p0 A.p1)) A.p [⟨A.L+292, frameO A.es A.nL, true⟩, ⟨A.ca+292, cellO (some (.int A.i A.ti)), true⟩, ⟨A.cs+292, cellO (some (.ref (A.l+292))), false⟩, ⟨A.l+292, listO A.rs A.nr, false⟩] [] A.N A.T
noncomputable def wtE (f : Bool) (a lf : Nat) (z : Zs) : List DictEntry := match f with
  | true => [⟨z.h1, .str (nm "word") z.k1, .ref (a+292)⟩, ⟨z.h2, .str (nm "left") z.k2, .ref (lf+292)⟩]
  | false => [⟨z.h1, .str (nm "word") z.k1, .ref (a+292)⟩, ⟨z.h2, .str (nm "left") z.k2, .ref (lf+292)⟩, ⟨z.h3, .str (nm "last") z.k3, z.v4⟩]
noncomputable def callA : PySem.Expr → PySem.Expr
  | .Call _ (a :: _) _ _ => a
  | _ => dfltE
noncomputable def lsE (w : World) : PySem.Expr := callA (asgV ((whB (leWh w)).getD 0 (.Pass default)))
noncomputable def lsEnv (w : World) (L Lc ca cs : Addr) : Env := compEnv (scopeOf (lsE w)) Lc [(nm "spots", cs), (nm "at", ca)] (cenvC w 286 L (leC ca cs))
noncomputable def lsLoop (w : World) (it acc L Lc ca cs : Addr) : Code := .compLoop (lsE w) 0 (.ref it) (.ref acc) (lsEnv w L Lc ca cs)
noncomputable def lsStart (w : World) (it acc L Lc ca cs : Addr) : Code := .compStart (lsE w) 0 (.ref it) (.ref acc) (lsEnv w L Lc ca cs)
noncomputable def belowLs (w : World) (L0 L ca cs : Addr) (p0 p1 p2 : Pos) : List (Code × Pos) := (leLoop w L ca cs, p2) :: belowLe w L0 L ca cs p0 p1
noncomputable def rWt (w : World) (b1 b2 : Bool) (A : WtA) : Option St :=
  run (XX w b1 b2 tb [hkLen 3 (A.l+292) A.rs A.nr, hkVal "int.__lt__" [.int A.i A.ti, .int A.rs.length (A.T+1)] (.bool true), hkLen 3 (A.l+292) A.rs A.nr, hkRIter 0 (A.N+292) A.i A.rs.length A.ti (A.T+3) (A.T+4)]) [2, 0, 0, 3, 1, 2, 0, 0, 0, 0, 2, 0, 0, 3, 3, 0, 0, 0, 0, 1, 1, 0, 1, 0, 1, 1, 1, 4, 1] (stWt w A)
theorem wt_seg0 (w : World) (b1 b2 f : Bool) (A : WtA) (z : Zs) : let o := rWt w b1 b2 { A with es := wtE f A.a A.lf z }
    seen (fun env => (nth env 0, nth env 1, nth env 2, nth env 4, nth env 5)) o = some (toldA o, toldC o, toldO o, .call (lsStart w (A.N+293) (A.N+294) (A.L+292) (A.N+295) (A.ca+292) (A.cs+292)), ctxIn (lsStart w (A.N+293) (A.N+294) (A.L+292) (A.N+295) (A.ca+292) (A.cs+292)) (belowLs w (A.L0+292) (A.L+292) (A.ca+292) (A.cs+292) A.p0 A.p1 (posO o)),
      (some ⟨A.N+295, dictO [] 0, true⟩, some ⟨A.N+294, listO [] 0, true⟩, some ⟨A.N+293, rngI A.i (A.rs.length - A.i), true⟩, some ⟨A.L+292, frameO (wtE f A.a A.lf z) A.nL, true⟩, some ⟨A.ca+292, cellO (some (.int A.i A.ti)), true⟩), [], toldM o, toldI o, true) := by
  cases f <;> cases b1 <;> kernel_rfl
theorem wt_end (w : World) (b1 b2 f : Bool) (A : WtA) (z : Zs) : let o := run (XX w b1 b2 tb [hkLen 3 (A.l+292) A.rs A.nr, hkVal "int.__lt__" [.int A.i A.ti, .int A.rs.length (A.T+1)] (.bool false)]) [2, 0, 0, 3, 1, 2] (stWt w { A with es := wtE f A.a A.lf z })
    seen (fun env => nth env 0) o = some (toldA o, toldC o, toldO o, .done .next, ctxIn (leLoop w (A.L+292) (A.ca+292) (A.cs+292)) (belowLe w (A.L0+292) (A.L+292) (A.ca+292) (A.cs+292) A.p0 A.p1), some ⟨A.L+292, frameO (wtE f A.a A.lf z) A.nL, true⟩, [], toldM o, toldI o, true) := by
  cases f <;> cases b1 <;> kernel_rfl
structure LsA where
  (L0 L ca cs it acc Lc l ta tb : Nat)
  (p0 p1 p2 p : Pos)
  (i x : Nat)
  ti : Tok
  left : Int
  accs : List Value
  na : Nat
  es : List DictEntry
  ne : Nat
  rs : List Value
  nr : Nat
  (m m' : M4)
  (t t' : Tok × Tok × Tok × Tok)
  (N T : Nat)
noncomputable def stLs (w : World) (A : LsA) : St :=
  begin (ctxIn (lsLoop w (A.it+292) (A.acc+292) (A.L+292) (A.Lc+292) (A.ca+292) (A.cs+292)) (belowLs w (A.L0+292) (A.L+292) (A.ca+292) (A.cs+292) A.p0 A.p1 A.p2)) A.p [⟨A.it+292, rngI A.x A.left, true⟩, ⟨A.acc+292, listO A.accs A.na, true⟩, ⟨A.Lc+292, dictO A.es A.ne, true⟩, ⟨A.ca+292, cellO (some (.int A.i A.ti)), false⟩, ⟨A.cs+292, cellO (some (.ref (A.l+292))), false⟩, ⟨A.l+292, listO A.rs A.nr, false⟩, ⟨A.ta+292, m4O A.m A.t, false⟩, ⟨A.tb+292, m4O A.m' A.t', false⟩] [] A.N A.T
noncomputable def lsEs (f : Bool) (z : Zs) : List DictEntry := match f with
  | true => []
  | false => [⟨z.h1, .str (nm "k") z.k1, z.v4⟩]
noncomputable def xLs (w : World) (b1 b2 : Bool) (A : LsA) (r : Bool) : Cx :=
  XX w b1 b2 tb [hkRNext 0 (A.it+292) A.x A.left, hkItem 5 (A.l+292) A.rs A.nr A.x A.T (.ref (A.ta+292)), hkItem 5 (A.l+292) A.rs A.nr A.i A.ti (.ref (A.tb+292)), hkTupEq 6 7 (A.ta+292) (A.tb+292) A.m A.m' A.t A.t' r, hkApp 1 (A.acc+292) A.accs A.na (.int A.x A.T)]
structure WtB where
  accs : List Value
  (na : Nat)
  hj : Int
  kj : Tok
  vj : Value
  (ne N T : Nat)
noncomputable def stWt2 (w : World) (b1 b2 : Bool) (A : WtA) (B : WtB) : St :=
  resumeO (rWt w b1 b2 A) (.ok .next) [⟨A.N+294, listO B.accs B.na, true⟩, ⟨A.N+295, dictO [⟨B.hj, .str (nm "k") B.kj, B.vj⟩] B.ne, true⟩] [] B.N B.T
theorem ls_seg0 (w : World) (b1 b2 f : Bool) (A : LsA) (z : Zs) : let o := run (xLs w b1 b2 A false) [1, 1, 3, 3, 5, 3, 6, 6, 6, 2, 5, 4, 6, 6, 6, 3, 7, 8, 7, 4] (stLs w { A with es := lsEs f z })
    seen (fun env => (nth env 0, nth env 1, shape (nth env 2))) o = some (toldA o, toldC o, toldO o, .again (lsLoop w (A.it+292) (A.acc+292) (A.L+292) (A.Lc+292) (A.ca+292) (A.cs+292)), ctxIn (lsLoop w (A.it+292) (A.acc+292) (A.L+292) (A.Lc+292) (A.ca+292) (A.cs+292)) (belowLs w (A.L0+292) (A.L+292) (A.ca+292) (A.cs+292) A.p0 A.p1 A.p2),
      (some ⟨A.it+292, rngI (A.x+1) (A.left-1), true⟩, some ⟨A.acc+292, listO A.accs A.na, true⟩, some (A.Lc+292, some (.type "dict", none, #[], [(some (nm "k"), .int A.x A.T)]))), [], toldM o, toldI o, true) := by
  cases f <;> cases b1 <;> kernel_rfl
theorem ls_seg1 (w : World) (b1 b2 f : Bool) (A : LsA) (z : Zs) : let o := run (xLs w b1 b2 A true) [1, 1, 3, 3, 5, 3, 6, 6, 6, 2, 5, 4, 6, 6, 6, 3, 7, 8, 7, 4, 3, 5] (stLs w { A with es := lsEs f z })
    seen (fun env => (nth env 0, nth env 1, shape (nth env 2))) o = some (toldA o, toldC o, toldO o, .again (lsLoop w (A.it+292) (A.acc+292) (A.L+292) (A.Lc+292) (A.ca+292) (A.cs+292)), ctxIn (lsLoop w (A.it+292) (A.acc+292) (A.L+292) (A.Lc+292) (A.ca+292) (A.cs+292)) (belowLs w (A.L0+292) (A.L+292) (A.ca+292) (A.cs+292) A.p0 A.p1 A.p2),
      (some ⟨A.it+292, rngI (A.x+1) (A.left-1), true⟩, some ⟨A.acc+292, listO (A.accs ++ [.int A.x A.T]) (A.na+1), true⟩, some (A.Lc+292, some (.type "dict", none, #[], [(some (nm "k"), .int A.x A.T)]))), [], toldM o, toldI o, true) := by
  cases f <;> cases b1 <;> kernel_rfl
theorem ls_end (w : World) (b1 b2 : Bool) (L0 L ca cs it acc Lc : Nat) (p0 p1 p2 p : Pos) (x left : Int) (N T : Nat) : let o := run (XX w b1 b2 tb [hkREnd 0 (it+292) x left]) [1, 1, 1] (begin (ctxIn (lsLoop w (it+292) (acc+292) (L+292) (Lc+292) (ca+292) (cs+292)) (belowLs w (L0+292) (L+292) (ca+292) (cs+292) p0 p1 p2)) p [⟨it+292, rngI x left, true⟩] [] N T)
    seen (fun _ => ()) o = some (toldA o, toldC o, toldO o, .done .next, ctxIn (lsLoop w (it+292) (acc+292) (L+292) (Lc+292) (ca+292) (cs+292)) (belowLs w (L0+292) (L+292) (ca+292) (cs+292) p0 p1 p2), (), [], toldM o, toldI o, true) := by
  kernel_rfl
noncomputable def rWt2 (w : World) (b1 b2 : Bool) (A : WtA) (B : WtB) : Option St := run (XX w b1 b2 tb []) [2, 2, 2] (stWt2 w b1 b2 A B)
theorem wt_seg1 (w : World) (b1 b2 f : Bool) (A : WtA) (z : Zs) (B : WtB) : let o := rWt2 w b1 b2 { A with es := wtE f A.a A.lf z } B
    seen (fun env => nth env 0) o = some (toldA o, toldC o, toldO o, .call (.call (.builtin "max") ⟨[.ref (A.N+294)], []⟩), ctxIn (.call (.builtin "max") ⟨[.ref (A.N+294)], []⟩) ((leLoop w (A.L+292) (A.ca+292) (A.cs+292), posO o) :: belowLe w (A.L0+292) (A.L+292) (A.ca+292) (A.cs+292) A.p0 A.p1),
      some ⟨A.N+294, listO B.accs B.na, true⟩, [], toldM o, toldI o, true) := by
  cases f <;> cases b1 <;> kernel_rfl
noncomputable def stWt3 (w : World) (b1 b2 : Bool) (A : WtA) (B : WtB) (M : Nat) (tm : Tok) (N T : Nat) : St :=
  resumeO (rWt2 w b1 b2 A B) (.ok (.ret (.int M tm))) [⟨A.L+292, frameO A.es A.nL, true⟩, ⟨A.ca+292, cellO (some (.int A.i A.ti)), true⟩, ⟨A.a+292, listO A.its A.n, false⟩, ⟨A.lf+292, listO A.lfs A.nlf, true⟩] [] N T
noncomputable def kvWt (a lf : Addr) (v : Value) : List (Option Str × Value) := [(some (nm "word"), .ref a), (some (nm "left"), .ref lf), (some (nm "last"), v)]
theorem wt_seg2 (w : World) (b1 b2 f : Bool) (A : WtA) (z : Zs) (B : WtB) (M : Nat) (tm : Tok) (N T : Nat) (S : Str) (ts : Tok) : let o := run (XX w b1 b2 tb [hkLen 2 (A.a+292) A.its A.n, hkVal "int.__lt__" [.int M tm, .int A.its.length (T+2)] (.bool true), hkItem 2 (A.a+292) A.its A.n M tm (.str S ts), hkStrOf M tm, hkApp 4 (A.lf+292) A.lfs A.nlf (.ref (N+292)), hkInt "int.__add__" [.int M tm, .int 1 (T+4)] (M+1)]) [1, 1, 1, 0, 0, 1, 1, 2, 1, 4, 4, 4, 4, 1, 1, 3, 3, 3, 3, 0, 0, 1, 4, 5, 2, 6, 3, 3] (stWt3 w b1 b2 { A with es := wtE f A.a A.lf z } B M tm N T)
    seen (fun env => (nth env 0, shape (nth env 1), nth env 2, nth env 4)) o = some (toldA o, toldC o, toldO o, .again (leLoop w (A.L+292) (A.ca+292) (A.cs+292)), ctxIn (leLoop w (A.L+292) (A.ca+292) (A.cs+292)) (belowLe w (A.L0+292) (A.L+292) (A.ca+292) (A.cs+292) A.p0 A.p1),
      (some ⟨N+292, tupO [.str S ts, .str (digs M) (T+3)], true⟩, some (A.L+292, some (.type "frame", none, #[], kvWt (A.a+292) (A.lf+292) (.int M tm))), some ⟨A.ca+292, cellO (some (.int (M+1) (T+5))), true⟩, some ⟨A.lf+292, listO (A.lfs ++ [.ref (N+292)]) (A.nlf+1), true⟩), [], toldM o, toldI o, true) := by
  cases f <;> cases b1 <;> kernel_rfl
theorem wt_seg3 (w : World) (b1 b2 f : Bool) (A : WtA) (z : Zs) (B : WtB) (M : Nat) (tm : Tok) (N T : Nat) : let o := run (XX w b1 b2 tb [hkLen 2 (A.a+292) A.its A.n, hkVal "int.__lt__" [.int M tm, .int A.its.length (T+2)] (.bool false), hkInt "int.__add__" [.int M tm, .int 1 (T+3)] (M+1)]) [1, 1, 1, 0, 0, 1, 1, 2, 1, 3, 2, 2] (stWt3 w b1 b2 { A with es := wtE f A.a A.lf z } B M tm N T)
    seen (fun env => (shape (nth env 0), nth env 1, nth env 3)) o = some (toldA o, toldC o, toldO o, .again (leLoop w (A.L+292) (A.ca+292) (A.cs+292)), ctxIn (leLoop w (A.L+292) (A.ca+292) (A.cs+292)) (belowLe w (A.L0+292) (A.L+292) (A.ca+292) (A.cs+292) A.p0 A.p1),
      (some (A.L+292, some (.type "frame", none, #[], kvWt (A.a+292) (A.lf+292) (.int M tm))), some ⟨A.ca+292, cellO (some (.int (M+1) (T+4))), true⟩, some ⟨A.lf+292, listO A.lfs A.nlf, true⟩), [], toldM o, toldI o, true) := by
  cases f <;> cases b1 <;> kernel_rfl
theorem le_seg1 (w : World) (b1 b2 f : Bool) (L0 a l : Nat) (p0 p : Pos) (its rs : List Value) (n nr N T : Nat) (z : Zs) (nL N' T' : Nat) : let o := run (XX w b1 b2 tb []) [1] (resumeO (rLe0 w b1 b2 L0 a l p0 p its rs n nr N T) (.ok .next) [⟨N+292, frameO (wtE f a (N+4) z) nL, true⟩] [] N' T')
    seen (fun _ => ()) o = some (toldA o, toldC o, toldO o, .done (.ret (.ref (N+296))), ctxIn (fcodeC w 286 (N+292) (leC (N+294) (N+293))) (belowLaw w (L0+292) p0), (), [], toldM o, toldI o, true) := by
  cases f <;> cases b1 <;> kernel_rfl
end
end Mine

namespace Mine
noncomputable section
open PySem PySem.W PySem.W.X
set_option maxHeartbeats 4000000
theorem ls_loop (w : World) (b1 b2 : Bool) (L0 L ca cs it acc Lc l : Nat) (p0 p1 p2 p : Pos) (i : Nat) (ti : Tok) (rs : List Value) (nr : Nat) (f : Nat → M4) (d : Drawn) (ox : OsState) (R : Result → Shared → Prop) (h0 : Heap) (T : Nat)
    (G : Glob (XX w b1 b2 tb []) h0) (fit : h0.get? (it+292) = some (rngI i (rs.length - i))) (facc : h0.get? (acc+292) = some (listO [] 0)) (fLc : h0.get? (Lc+292) = some (dictO [] 0)) (fca : h0.get? (ca+292) = some (cellO (some (.int i ti)))) (fcs : h0.get? (cs+292) = some (cellO (some (.ref (l+292)))))
    (fl : h0.get? (l+292) = some (listO rs nr)) (hal : acc ≠ l) (hi : i < rs.length) (hz : rs.length ≤ 100) (hrs : ∀ k, k < rs.length → ∃ v, rs[k]? = some v ∧ SpotV h0 v (f k))
    (K : ∀ h' T' accs na (hs : Int) (tk : Tok) v ne, Ext [it+292, acc+292, Lc+292] h0 h' → h'.get? (acc+292) = some (listO accs na) → All2 IntV accs (sameL f (f i) i (rs.length - i)) → h'.get? (Lc+292) = some (dictO [⟨hs, .str (nm "k") tk, v⟩] ne) → R (.ok .next) ⟨h', ⟨[]⟩, d, T', ox⟩) :
    wpCode (model PySem.Challenge.pw_pe0217_01 (setW w b1 b2)) (ctxIn (lsLoop w (it+292) (acc+292) (L+292) (Lc+292) (ca+292) (cs+292)) (belowLs w (L0+292) (L+292) (ca+292) (cs+292) p0 p1 p2)) R p ⟨h0, ⟨[]⟩, d, T, ox⟩ := by
  have ne1 : it ≠ acc := fun e => ne_kind fit facc (by simp [kindOf, rngI, listO]) (by rw [e])
  have ne2 : it ≠ Lc := fun e => ne_kind fit fLc (by simp [kindOf, rngI, dictO]) (by rw [e])
  have ne3 : it ≠ l := fun e => ne_kind fit fl (by simp [kindOf, rngI, listO]) (by rw [e])
  have ne4 : acc ≠ Lc := fun e => ne_kind facc fLc (by simp [kindOf, dictO, listO]) (by rw [e])
  have ne5 : Lc ≠ l := fun e => ne_kind fLc fl (by simp [kindOf, dictO, listO]) (by rw [e])
  have ne6 : it ≠ ca := fun e => ne_kind fit fca (by simp [kindOf, rngI, cellO]) (by rw [e])
  have ne7 : it ≠ cs := fun e => ne_kind fit fcs (by simp [kindOf, rngI, cellO]) (by rw [e])
  have ne8 : acc ≠ ca := fun e => ne_kind facc fca (by simp [kindOf, listO, cellO]) (by rw [e])
  have ne9 : acc ≠ cs := fun e => ne_kind facc fcs (by simp [kindOf, listO, cellO]) (by rw [e])
  have ne10 : Lc ≠ ca := fun e => ne_kind fLc fca (by simp [kindOf, dictO, cellO]) (by rw [e])
  have ne11 : Lc ≠ cs := fun e => ne_kind fLc fcs (by simp [kindOf, dictO, cellO]) (by rw [e])
  have nt0 : ∀ c ∈ [it+292, acc+292, Lc+292], ∀ vs, h0.get? c ≠ some (tupO vs) := notupL (by ktr_rel)
  refine loop0 (fun k h' => Ext [it+292, acc+292, Lc+292] h0 h' ∧ h'.get? (it+292) = some (rngI (i+k : Nat) (rs.length-(i+k : Nat))) ∧ (∃ accs na, h'.get? (acc+292) = some (listO accs na) ∧ All2 IntV accs (sameL f (f i) i k) ∧ accs.length ≤ k) ∧
    ∃ fl z ne, h'.get? (Lc+292) = some (dictO (lsEs fl z) ne) ∧ (fl = true → k = 0)) (rs.length - i)
    ⟨Ext.refl _ _, fit, ⟨[], 0, facc, trivial, Nat.le_refl _⟩, true, zs0, 0, fLc, fun _ => rfl⟩ ?_ ?_
  · rintro k hk p' T' h ⟨E, qit, ⟨accs, na, qacc, hacc, hlen⟩, fl', z, ne, qLc, hf⟩ K'
    obtain ⟨N, hN⟩ := le_size qit (Nat.le_add_left _ _)
    have ql := E.keep _ _ fl (by kt_eqs)
    have qca := E.keep _ _ fca (by kt_eqs)
    have qcs := E.keep _ _ fcs (by kt_eqs)
    obtain ⟨va, hva, sa⟩ := hrs (i+k) (by omega)
    obtain ⟨vb, hvb, sb⟩ := hrs i (by omega)
    obtain ⟨ta, t, rfl, qta⟩ := spotV_of (sa.ext E nt0)
    obtain ⟨tb, t', rfl, qtb⟩ := spotV_of (sb.ext E nt0)
    let A : LsA := ⟨L0, L, ca, cs, it, acc, Lc, l, ta, tb, p0, p1, p2, p', i, i+k, ti, rs.length-(i+k : Nat), accs, na, lsEs fl' z, ne, rs, nr, f (i+k), f i, t, t', N, T'⟩
    have D : ∀ r, On (xLs w b1 b2 A r) (stLs w A) h := by
      intro r
      refine on_dif' hN (glob_ext E (by kt_len) G) ⟨qit, qacc, qLc, qca, qcs, ql, qta, qtb, trivial⟩ ?_ ?_
      · ktd_rel
      · kt_len
    have step : ∀ h3 p3 T3 accs' na', Ext [it+292, acc+292, Lc+292] h h3 → h3.get? (it+292) = some (rngI (((i+k : Nat) : Int)+1) (rs.length-(i+k : Nat)-1)) → h3.get? (acc+292) = some (listO accs' na') → All2 IntV accs' (sameL f (f i) i (k+1)) → accs'.length ≤ k + 1 → (∃ es ne, h3.get? (Lc+292) = some (dictO es ne) ∧ kvs es = [(some (nm "k"), .int (i+k : Nat) T')]) →
        wpCode (model PySem.Challenge.pw_pe0217_01 (setW w b1 b2)) (ctxIn (lsLoop w (it+292) (acc+292) (L+292) (Lc+292) (ca+292) (cs+292)) (belowLs w (L0+292) (L+292) (ca+292) (cs+292) p0 p1 p2)) R p3 ⟨h3, ⟨[]⟩, d, T3, ox⟩ := by
      rintro h3 p3 T3 accs' na' E3 g1 g2 hv hl' ⟨es, ne', g3, hk'⟩
      obtain ⟨hs, tk, rfl⟩ := kvs_one hk'
      refine K' p3 T3 h3 ⟨E.trans2 E3, ?_, ⟨accs', na', g2, hv, hl'⟩, false, ⟨hs, 0, 0, 0, 0, 0, tk, 0, 0, 0, 0, 0, _, .none, .none⟩, _, g3, fun e => by cases e⟩
      rw [g1]; congr 2; omega
    have hooks : ∀ r, eqM (f (i+k)) (f i) = r → AllOk (xLs w b1 b2 A r) (xLs w b1 b2 A r).hooks := fun r hr =>
      ⟨ok_rnext (by show (0 : Int) < (rs.length : Int) - (i+k : Nat); omega), ok_item (by omega) (by show ((i+k : Nat) : Int) < 2 ^ 63; omega) (by show rs[((i+k : Nat) : Int).toNat]? = _; rw [Int.toNat_natCast]; exact hva), ok_item (by omega) (by show (i : Int) < 2 ^ 63; omega) (by simpa [A] using hvb), ok_tupeq hr, ok_app (by show accs.length ≤ _; rw [sizeL]; omega), trivial⟩
    cases hr : eqM (f (i+k)) (f i) with
    | false =>
      refine code_of_means (X := xLs w b1 b2 A false) (N := N) (means_of_loop (ls_seg0 w b1 b2 fl' A z) (hooks _ hr) (D _) rfl fun h3 T3 p3 st3 hV3 D3 E3 => ?_)
      obtain ⟨u0, u1, u2⟩ := pr3 hV3
      obtain ⟨es, ne', ow, e2, hk2⟩ := shape_ok u2
      refine step h3 p3 T3 accs na E3 (D3.at u0) (D3.at u1) ?_ (by omega) ⟨es, ne', D3.at e2, hk2⟩
      rw [sameL_succ]
      simp only [hr, Bool.false_eq_true, if_false, List.append_nil]
      exact hacc
    | true =>
      refine code_of_means (X := xLs w b1 b2 A true) (N := N) (means_of_loop (ls_seg1 w b1 b2 fl' A z) (hooks _ hr) (D _) rfl fun h3 T3 p3 st3 hV3 D3 E3 => ?_)
      obtain ⟨u0, u1, u2⟩ := pr3 hV3
      obtain ⟨es, ne', ow, e2, hk2⟩ := shape_ok u2
      refine step h3 p3 T3 (accs ++ [.int (i+k : Nat) T']) (na+1) E3 (D3.at u0) (D3.at u1) ?_ (by simp; omega) ⟨es, ne', D3.at e2, hk2⟩
      rw [sameL_succ]
      simp only [hr, if_true]
      exact hacc.snoc ⟨T', rfl⟩
  · rintro p' T' h ⟨E, qit, ⟨accs, na, qacc, hacc, hlen⟩, fl', z, ne, qLc, hf⟩
    obtain ⟨N, hN⟩ := le_size qit (Nat.le_add_left _ _)
    refine code_done (X0 := XX w b1 b2 tb []) (X := XX w b1 b2 tb [hkREnd 0 (it+292) (i+(rs.length - i) : Nat) (rs.length-(i+(rs.length - i) : Nat))]) (N := N) (own := [it+292]) (ls_end w b1 b2 L0 L ca cs it acc Lc p0 p1 p2 p' (i+(rs.length - i) : Nat) (rs.length-(i+(rs.length - i) : Nat)) N T') rfl rfl rfl ⟨ok_rend (by omega), trivial⟩ hN (glob_ext E (by kt_len) G) ⟨qit, trivial⟩ ⟨trivial, trivial⟩ ⟨Nat.le_add_left _ _, trivial⟩ fun h3 T3 st3 hV3 D3 E3' hnQ => ?_
    have hf' : fl' = false := by cases fl' with | false => rfl | true => have := hf rfl; omega
    subst hf'
    refine hnQ ?_
    refine K h3 T3 accs na _ _ _ ne (E.trans2 (E3'.mono fun c hc => .inl ?_)) (E3'.keep _ _ qacc (by kt_eqs)) hacc (E3'.keep _ _ qLc (by kt_eqs))
    simp only [List.mem_cons, List.not_mem_nil, or_false] at hc ⊢
    left; exact hc
end
end Mine

namespace Mine
noncomputable section
open PySem PySem.W PySem.W.X
set_option maxHeartbeats 4000000
theorem rn_end (w : World) (b1 b2 : Bool) (L0 L it : Nat) (p0 p1 p : Pos) (x left : Int) (es : List DictEntry) (ne N T : Nat) :
    let o := run (XX w b1 b2 tb [hkREnd 0 (it+292) x left]) [1, 1, 1, 0] (begin (ctxIn (rnLoop w (it+292) (L+292)) (belowRun w (L0+292) (L+292) p0 p1)) p [⟨it+292, rngI x left, true⟩, ⟨L+292, frameO es ne, true⟩] [] N T)
    seen (fun env => nth env 3) o = some (toldA o, toldC o, toldO o, .done .next, ctxIn (.block [] (cenv w 269 (L+292))) (belowRun w (L0+292) (L+292) p0 p1), some ⟨L+292, frameO es ne, true⟩, [], toldM o, toldI o, true) := by
  cases b1 <;> kernel_rfl
theorem rn_seg2 (w : World) (b1 b2 : Bool) (L0 a : Nat) (p0 p : Pos) (its : List Value) (n N T : Nat) (h1 : Int) (k1 : Tok) (ne N' T' : Nat) (z : Zs) (ne' N'' T'' : Nat) :
    let o := run (XX w b1 b2 tb []) [1, 1] (resumeO (rRn1 w b1 b2 L0 a p0 p its n N T [⟨h1, .str (nm "word") k1, .ref (a+292)⟩] ne N' T') (.ok .next) [⟨N+292, frameO (e6 a (N+2) N' z.v4 z.v5 z.v6 z.h1 z.h2 z.h3 z.h4 z.h5 z.h6 z.k1 z.k2 z.k3 z.k4 z.k5 z.k6) ne', true⟩] [] N'' T'')
    seen (fun env => nth env 0) o = some (toldA o, toldC o, toldO o, .done (.ret (.ref (N''+292))), ctxIn (fcode w 269 (N + 292)) (belowLaw w (L0+292) p0), some ⟨N''+292, tupO [.ref (N+294), .ref (N'+292)], true⟩, [], toldM o, toldI o, true) := by
  cases b1 <;> kernel_rfl
noncomputable def runS (S : List Str) : Nat → List (Str × Str) × List (Str × Str)
  | 0 => ([], [])
  | k + 1 => match (runS S k).1.getLast? with
    | none => turnS [] (runS S k).2 (emp, emp) (S.getD k emp) (digs k)
    | some x => turnS (runS S k).1.dropLast (runS S k).2 x (S.getD k emp) (digs k)
theorem turnS_ok {xs ys : List (Str × Str)} {x : Str × Str} {s p : Str} (hx : ∀ y ∈ xs, PieceOk y) (h : PieceOk x) (hs : NameS s) (hp : PlaceS p) : ∀ y ∈ (turnS xs ys x s p).1, PieceOk y := by
  unfold turnS
  split
  · exact hx
  · intro y hy
    simp only [List.mem_append, List.mem_cons, List.not_mem_nil, or_false] at hy
    rcases hy with hy | rfl | rfl
    · exact hx y hy
    · exact h
    · exact ⟨hs, hp⟩
theorem turnS_len {xs ys : List (Str × Str)} {x : Str × Str} {s p : Str} : (turnS xs ys x s p).1.length ≤ xs.length + 2 ∧ (turnS xs ys x s p).2.length ≤ ys.length + 1 := by
  unfold turnS
  split <;> simp
theorem runS_ok {S : List Str} (hS : ∀ s ∈ S, NameS s) : ∀ k, k ≤ S.length → k ≤ 24 → (∀ y ∈ (runS S k).1, PieceOk y) ∧ (runS S k).1.length ≤ 2 * k ∧ (runS S k).2.length ≤ k
  | 0, _, _ => ⟨by simp [runS], by simp [runS], by simp [runS]⟩
  | k + 1, h, h' => by
    obtain ⟨i1, i2, i3⟩ := runS_ok hS k (by omega) (by omega)
    have hn : NameS (S.getD k emp) := hS _ (by rw [List.getD_eq_getElem?_getD, List.getElem?_eq_getElem (by omega)]; exact List.getElem_mem _)
    have hp : PlaceS (digs k) := .inr ⟨k, by omega, rfl⟩
    unfold runS
    cases hl : (runS S k).1.getLast? with
    | none =>
      have t := @turnS_len [] (runS S k).2 (emp, emp) (S.getD k emp) (digs k)
      refine ⟨turnS_ok (by simp) ⟨.inl rfl, .inl rfl⟩ hn hp, ?_, ?_⟩
      · have := t.1; simp only [List.length_nil] at this; show (turnS _ _ _ _ _).1.length ≤ _; omega
      · have := t.2; show (turnS _ _ _ _ _).2.length ≤ _; omega
    | some x =>
      have t := @turnS_len (runS S k).1.dropLast (runS S k).2 x (S.getD k emp) (digs k)
      have hm : x ∈ (runS S k).1 := List.mem_of_getLast? hl
      have hpos : 0 < (runS S k).1.length := List.length_pos_of_mem hm
      refine ⟨turnS_ok (fun y hy => i1 y ((List.dropLast_sublist _).subset hy)) (i1 x hm) hn hp, ?_, ?_⟩
      · have := t.1; simp only [List.length_dropLast] at this; show (turnS _ _ _ _ _).1.length ≤ _; omega
      · have := t.2; show (turnS _ _ _ _ _).2.length ≤ _; omega
theorem sign_name {v : Value} {r : Nat} (q : SignV v r) : ∃ t, v = .str (lt4 r) t ∧ NameS (lt4 r) := by
  obtain ⟨t, e, h⟩ := q
  refine ⟨t, e, ?_⟩
  rcases h with rfl | rfl | rfl | rfl
  · exact .inr (.inr (.inr (.inr rfl)))
  · exact .inr (.inl rfl)
  · exact .inr (.inr (.inr (.inl rfl)))
  · exact .inr (.inr (.inl rfl))
theorem signs_name : ∀ {its : List Value} {ws : List Nat}, All2 SignV its ws → ∀ s ∈ ws.map lt4, NameS s
  | _ :: _, _ :: _, q, s, hs => by
    rcases List.mem_cons.mp hs with rfl | hs
    · exact (sign_name q.1).choose_spec.2
    · exact signs_name q.2 s hs
  | [], [], _, _, hs => nomatch hs
  | [], _ :: _, q, _, _ => q.elim
  | _ :: _, [], q, _, _ => q.elim
theorem run_call (w : World) (b1 b2 : Bool) (L0 a : Nat) (p0 p : Pos) (its : List Value) (n : Nat) (ws : List Nat) (T : Nat) (d : Drawn) (ox : OsState) (R : Result → Shared → Prop) (h : Heap)
    (hw : All2 SignV its ws) (hz : its.length ≤ 24) (hn : 0 < its.length) (G : Glob (XX w b1 b2 tb []) h) (f1 : h.get? (a+292) = some (listO its n))
    (K : ∀ h' T' (lt pl dd pr : Nat) ps np prs npr (hdh : Int) (kd t2 : Tok) nd, Ext [] h h' → h.objs.size ≤ lt + 292 → h.objs.size ≤ pl + 292 → h.objs.size ≤ dd + 292 → h.objs.size ≤ pr + 292 → h'.get? (lt+292) = some (tupO [.ref (pl+292), .ref (pr+292)]) →
      h'.get? (pl+292) = some (pileO (dd+292) ps np) → h'.get? (dd+292) = some (dictO [⟨hdh, .str (nm "_initial_size") kd, .int 0 t2⟩] nd) → h'.get? (pr+292) = some (listO prs npr) → All2 (PieceV h') ps (runS (ws.map lt4) its.length).1 → All2 (PieceV h') prs (runS (ws.map lt4) its.length).2 →
      R (.ok (.ret (.ref (lt+292)))) ⟨h', ⟨[]⟩, d, T', ox⟩) :
    wpCode (model PySem.Challenge.pw_pe0217_01 (setW w b1 b2)) (ctxIn (.call (.ref 269) ⟨[.ref (a+292)], []⟩) (belowLaw w (L0+292) p0)) R p ⟨h, ⟨[]⟩, d, T, ox⟩ := by
  obtain ⟨N, hN⟩ := le_size f1 (Nat.le_add_left _ _)
  have la := lt_of_get f1 hN
  refine code_cut (X0 := XX w b1 b2 tb []) (X := XX w b1 b2 tb []) (N := N) (own := []) (rn_seg0 w b1 b2 L0 a p0 p its n N T) rfl rfl rfl trivial hN G ⟨f1, trivial⟩ ⟨trivial, trivial⟩ ⟨Nat.le_add_left _ _, trivial⟩ fun h1 T1 st1 hrun1 hV1 D1 E1' hnQ => ?_
  obtain ⟨v0, v1, v2⟩ := pr3 hV1
  obtain ⟨es1, ne1, ow1, e1, hk1⟩ := shape_ok v2
  obtain ⟨z1, k1, r1, rfl, hk1'⟩ := kvs_cons hk1
  cases kvs_nil hk1'
  have g0 := D1.at v0; have g1 := D1.at v1; have g2 := D1.at e1
  have fa1 := E1'.keep _ _ f1 (by kt_eqs)
  refine hnQ ?_
  refine init_call w b1 b2 L0 N (N+2) (N+1) p0 _ _ _ 0 0 T1 d ox _ h1 D1.glob g0 g1 ?_
  intro h2 T2 hdh kd t2 nd E2 gpl2 gdd2
  have gL2 := E2.keep _ _ g2 (by kt_eqs)
  have fa2 := E2.keep _ _ fa1 (by kt_eqs)
  obtain ⟨N2, hN2⟩ := le_size gL2 (Nat.le_add_left _ _)
  have hNN : N + 3 ≤ N2 := by have := lt_of_get (a := N+2) gpl2 hN2; omega
  have G2 : Glob (XX w b1 b2 tb []) h2 := glob_ext E2 (by kt_len) D1.glob
  refine back_cut (X0 := XX w b1 b2 tb []) (X := XX w b1 b2 tb [hkLen 2 (a+292) its n, hkRIter 0 (N2+293) 0 its.length (T2 + 4) (T2 + 3) (T2 + 5)]) (own := [N + 292]) hrun1 (rn_seg1 w b1 b2 L0 a p0 p its n N T z1 k1 ne1 N2 T2) rfl rfl rfl ⟨ok_len (by omega), ok_riter (by omega) (by omega) (by omega), trivial⟩ hN2 G2 ⟨gL2, fa2, gpl2, trivial⟩ ?_ ?_ fun h3 T3 st3 hrun3 hV3 D3 E3' hnQ => ?_
  · ktd_rel
  · kt_len
  obtain ⟨u0, u1, u2⟩ := pr3 hV3
  obtain ⟨es3, ne3, ow3, e3', hk3⟩ := shape_ok u2
  have git3 := D3.at u0; have gpr3 := D3.at u1; have gL3 := D3.at e3'
  have gpl3 := E3'.keep _ _ gpl2 (by kt_eqs)
  have gdd3 := E3'.keep _ _ gdd2 (by kt_eqs)
  have fa3 := E3'.keep _ _ fa2 (by kt_eqs)
  have hlen : ws.length = its.length := hw.length.symm
  have hSn := signs_name hw
  refine hnQ ?_
  refine loop0 (fun k h' => Ext [N2+294, N+292, N+294, N2+292] h3 h' ∧ h'.get? (N2+294) = some (rngI k (its.length - k)) ∧ (∃ es ne v4 v5 v6, h'.get? (N+292) = some (frameO es ne) ∧ kvs es = kvA (k == 0) (a+292) (N+294) (N2+292) v4 v5 v6) ∧
    (∃ ps np, h'.get? (N+294) = some (pileO (N+293) ps np) ∧ All2 (PieceV h') ps (runS (ws.map lt4) k).1) ∧ (∃ prs npr, h'.get? (N2+292) = some (listO prs npr) ∧ All2 (PieceV h') prs (runS (ws.map lt4) k).2)) its.length
    ⟨Ext.refl _ _, git3, ⟨es3, ne3, .none, .none, .none, gL3, hk3⟩, ⟨[], 0, gpl3, trivial⟩, ⟨[], 0, gpr3, trivial⟩⟩ ?_ ?_
  · rintro k hk p' T' h' ⟨E, qit, ⟨es, ne, v4, v5, v6, qL, hkv⟩, ⟨ps, np, qpl, hps⟩, prs, npr, qpr, hprs⟩ K'
    have qdd := E.keep _ _ gdd3 (by kt_eqs)
    have qa := E.keep _ _ fa3 (by kt_eqs)
    obtain ⟨r, hr⟩ : ∃ r, ws[k]? = some r := ⟨ws[k], List.getElem?_eq_getElem (by omega)⟩
    obtain ⟨v, hv, hsv⟩ := hw.get k hr
    obtain ⟨ts, rfl, hname⟩ := sign_name hsv
    obtain ⟨i1, i2, i3⟩ := runS_ok hSn k (by simp; omega) (by omega)
    have hgd : (ws.map lt4).getD k emp = lt4 r := by rw [List.getD_eq_getElem?_getD, List.getElem?_map, hr]; rfl
    have l1 := hps.length
    have l2 := hprs.length
    have key : ∀ (xs : List (Str × Str)) (x : Str × Str), ((ps = [] ∧ xs = [] ∧ x = (emp, emp)) ∨ All2 (PieceV h') ps (xs ++ [x])) → PieceOk x → ((k == 0) = true → x = (emp, emp)) → runS (ws.map lt4) (k + 1) = turnS xs (runS (ws.map lt4) k).2 x (lt4 r) (digs k) →
        wpCode (model PySem.Challenge.pw_pe0217_01 (setW w b1 b2)) (ctxIn (rnLoop w (N2 + 294) (N + 292)) (belowRun w (L0+292) (N + 292) p0 (posO (rRn1 w b1 b2 L0 a p0 p its n N T [⟨z1, .str (nm "word") k1, .ref (a+292)⟩] ne1 N2 T2)))) (fun r s' => MeansK (model PySem.Challenge.pw_pe0217_01 (setW w b1 b2)) (PostR R) st3.κ st3.Γ st3.p (kOf st3.t r) s') p' ⟨h', ⟨[]⟩, d, T', ox⟩ := by
      intro xs x hx hok h0 hrs
      refine rn_turn w b1 b2 (k == 0) L0 N (N2+2) a (N+2) (N+1) N2 p0 _ p' k (its.length - k) ps np prs npr its n hdh kd (.int 0 t2) nd es ne v4 v5 v6 (lt4 r) ts xs (runS (ws.map lt4) k).2 x T' d ox _ h' hkv (by omega) (by omega) (glob_ext E (by kt_len) D3.glob) qit qL qpl qdd qpr qa (by omega) hv hname (by omega) (by omega) hx hok hprs ?_ ?_
      · intro hf
        rw [h0 hf]
        obtain ⟨t, _, h4⟩ := hsv
        rcases h4 with rfl | rfl | rfl | rfl <;> rfl
      · intro h7 T7 p7 es7 ne7 v4' v5' v6' ps' np' prs' npr' E7 qit7 qL7 hk7 qpl7 hps7 qpr7 hpr7
        refine K' p7 T7 h7 ⟨E.trans2 E7, ?_, ⟨es7, ne7, v4', v5', v6', qL7, hk7⟩, ⟨ps', np', qpl7, by rw [hrs]; exact hps7⟩, prs', npr', qpr7, by rw [hrs]; exact hpr7⟩
        rw [qit7]
        congr 2
        omega
    cases hl : (runS (ws.map lt4) k).1.getLast? with
    | none =>
      have h0 : (runS (ws.map lt4) k).1 = [] := List.getLast?_eq_none_iff.mp hl
      rw [h0] at hps l1
      have : ps = [] := List.length_eq_zero_iff.mp l1
      exact key [] (emp, emp) (.inl ⟨this, rfl, rfl⟩) ⟨.inl rfl, .inl rfl⟩ (fun _ => rfl) (by rw [runS, hl, hgd])
    | some x =>
      obtain ⟨xs, hxs⟩ := List.getLast?_eq_some_iff.mp hl
      refine key xs x (.inr (by rw [← hxs]; exact hps)) (i1 x (by rw [hxs]; simp)) (fun hk0 => ?_) ?_
      · have : k = 0 := by simpa using hk0
        subst this
        cases hl
      · rw [runS, hl, hgd, hxs]
        simp
  · rintro p' T' h' ⟨E, qit, ⟨es, ne, v4, v5, v6, qL, hkv⟩, ⟨ps, np, qpl, hps⟩, prs, npr, qpr, hprs⟩
    obtain ⟨N4, hN4⟩ := le_size qL (Nat.le_add_left _ _)
    have qdd := E.keep _ _ gdd3 (by kt_eqs)
    refine code_done (X0 := XX w b1 b2 tb []) (X := XX w b1 b2 tb [hkREnd 0 (N2+294) its.length (its.length - its.length)]) (N := N4) (own := [N2+294, N+292]) (rn_end w b1 b2 L0 N (N2+2) p0 _ p' its.length (its.length - its.length) es ne N4 T') rfl rfl rfl ⟨ok_rend (by omega), trivial⟩ hN4 (glob_ext E (by kt_len) D3.glob) ⟨qit, qL, trivial⟩ ?_ ?_ fun h5 T5 st5 hV5 D5 E5' hnQ => ?_
    · ktd_rel
    · kt_len
    have qL5 := D5.at hV5
    have qpl5 := E5'.keep _ _ qpl (by kt_eqs)
    have qpr5 := E5'.keep _ _ qpr (by kt_eqs)
    have qdd5 := E5'.keep _ _ qdd (by kt_eqs)
    have nt5 : ∀ c ∈ [N2+294, N+292], ∀ vs, h'.get? c ≠ some (tupO vs) := notupL (by ktr_rel)
    have hps5 := pieces_ext E5' nt5 hps
    have hpr5 := pieces_ext E5' nt5 hprs
    have hk0 : (its.length == 0) = false := by rw [beq_eq_false_iff_ne]; omega
    rw [hk0] at hkv
    obtain ⟨z, rfl⟩ := esA_of (f := false) (l := a) (pl := N+2) (pr := N2) hkv
    obtain ⟨N5, hN5⟩ := le_size qL5 (Nat.le_add_left _ _)
    refine hnQ ?_
    refine back_done (X0 := XX w b1 b2 tb []) (X := XX w b1 b2 tb []) (own := [N+292]) hrun3 (rn_seg2 w b1 b2 L0 a p0 p its n N T z1 k1 ne1 N2 T2 z ne N5 T5) rfl rfl rfl trivial hN5 (glob_ext E5' (by kt_len) (glob_ext E (by kt_len) D3.glob)) ⟨qL5, trivial⟩ ⟨trivial, trivial⟩ ⟨Nat.le_add_left _ _, trivial⟩ fun h6 T6 st6 hV6 D6 E6' hnQ => ?_
    have nt6 : ∀ c ∈ [N+292], ∀ vs, h5.get? c ≠ some (tupO vs) := notupL (by ktr_rel)
    have s1 := E1'.size; have s2 := E2.size; have s3 := E3'.size; have s4 := E.size; have s5 := E5'.size
    refine hnQ ?_
    refine K h6 T6 N5 (N+2) (N+1) N2 ps np prs npr hdh kd t2 nd ((((((E1'.trans E2).trans E3').trans E).trans E5').trans E6').new ?_) (by omega) (by omega) (by omega) (by omega) (D6.at hV6) (E6'.keep _ _ qpl5 (by kt_eqs)) (E6'.keep _ _ qdd5 (by kt_eqs)) (E6'.keep _ _ qpr5 (by kt_eqs)) (pieces_ext E6' nt6 hps5) (pieces_ext E6' nt6 hpr5)
    repeat' first | exact fa_nil | refine fa_app ?_ ?_ | refine fa_cons (nw0 hN rfl) ?_ | refine fa_cons (nw1 hN (Nat.le_of_add_right_le hNN) rfl) ?_ | refine fa_cons (nw2 hN (Nat.le_of_add_right_le hNN) rfl) ?_ | refine fa_cons (nw2 hN (Nat.le_refl N) rfl) ?_
end
end Mine

namespace Mine
noncomputable section
open PySem PySem.W PySem.W.X
set_option maxHeartbeats 4000000
theorem wtE_of {f : Bool} {a lf : Nat} {v : Value} {es : List DictEntry} (h : kvs es = match f with | true => [(some (nm "word"), .ref (a+292)), (some (nm "left"), .ref (lf+292))] | false => kvWt (a+292) (lf+292) v) : ∃ z, es = wtE f a lf z := by
  cases f with
  | true =>
    obtain ⟨z1, k1, r1, rfl, h1⟩ := kvs_cons h
    obtain ⟨z2, k2, r2, rfl, h2⟩ := kvs_cons h1
    cases kvs_nil h2
    exact ⟨⟨z1, z2, 0, 0, 0, 0, k1, k2, 0, 0, 0, 0, .none, .none, .none⟩, rfl⟩
  | false =>
    obtain ⟨z1, k1, r1, rfl, h1⟩ := kvs_cons h
    obtain ⟨z2, k2, r2, rfl, h2⟩ := kvs_cons h1
    obtain ⟨z3, k3, r3, rfl, h3⟩ := kvs_cons h2
    cases kvs_nil h3
    exact ⟨⟨z1, z2, z3, 0, 0, 0, k1, k2, k3, 0, 0, 0, v, .none, .none⟩, rfl⟩
theorem wt_turn (w : World) (b1 b2 fE : Bool) (L0 L ca cs lf l a : Nat) (p0 p1 p : Pos) (i : Nat) (ti : Tok) (its : List Value) (n : Nat) (rs : List Value) (nr : Nat) (lfs : List Value) (nlf : Nat) (z : Zs) (nL : Nat)
    (f : Nat → M4) (M : Nat) (ws : List Nat) (ys : List (Str × Str)) (T : Nat) (d : Drawn) (ox : OsState) (R : Result → Shared → Prop) (h : Heap)
    (hi : i < rs.length) (hz : rs.length ≤ 25) (hlen : rs.length = its.length + 1) (hw : All2 SignV its ws) (G : Glob (XX w b1 b2 tb []) h) (fL : h.get? (L+292) = some (frameO (wtE fE a lf z) nL)) (fca : h.get? (ca+292) = some (cellO (some (.int i ti)))) (fcs : h.get? (cs+292) = some (cellO (some (.ref (l+292)))))
    (fl : h.get? (l+292) = some (listO rs nr)) (fa : h.get? (a+292) = some (listO its n)) (flf : h.get? (lf+292) = some (listO lfs nlf)) (hcc : ca ≠ cs) (hlfa : lf ≠ a) (hlfl : lf ≠ l)
    (hrs : ∀ k, k < rs.length → ∃ v, rs[k]? = some v ∧ SpotV h v (f k)) (hys : All2 (PieceV h) lfs ys) (hzr : lfs.length ≤ 100)
    (hM : i ≤ M ∧ M < rs.length ∧ f M = f i ∧ ∀ k, i ≤ k → k < rs.length → f k = f i → k ≤ M)
    (K : ∀ h' T' p' z' nL' ti' lfs' nlf', Ext [L+292, ca+292, lf+292] h h' → h'.get? (L+292) = some (frameO (wtE false a lf z') nL') → h'.get? (ca+292) = some (cellO (some (.int (M+1 : Nat) ti'))) → h'.get? (lf+292) = some (listO lfs' nlf') → lfs'.length ≤ lfs.length + 1 →
      All2 (PieceV h') lfs' (ys ++ if M < its.length then [(lt4 (ws.getD M 0), digs M)] else []) →
      wpCode (model PySem.Challenge.pw_pe0217_01 (setW w b1 b2)) (ctxIn (leLoop w (L+292) (ca+292) (cs+292)) (belowLe w (L0+292) (L+292) (ca+292) (cs+292) p0 p1)) R p' ⟨h', ⟨[]⟩, d, T', ox⟩) :
    wpCode (model PySem.Challenge.pw_pe0217_01 (setW w b1 b2)) (ctxIn (leLoop w (L+292) (ca+292) (cs+292)) (belowLe w (L0+292) (L+292) (ca+292) (cs+292) p0 p1)) R p ⟨h, ⟨[]⟩, d, T, ox⟩ := by
  obtain ⟨N, hN⟩ := le_size fL (Nat.le_add_left _ _)
  have lL := lt_of_get fL hN
  have lca := lt_of_get fca hN
  have lcs := lt_of_get fcs hN
  have llf := lt_of_get flf hN
  have ll := lt_of_get fl hN
  have la := lt_of_get fa hN
  have ne1 : L ≠ ca := fun e => ne_kind fL fca (by simp [kindOf, frameO, cellO]) (by rw [e])
  have ne2 : L ≠ cs := fun e => ne_kind fL fcs (by simp [kindOf, frameO, cellO]) (by rw [e])
  have ne3 : L ≠ l := fun e => ne_kind fL fl (by simp [kindOf, frameO, listO]) (by rw [e])
  have ne4 : L ≠ a := fun e => ne_kind fL fa (by simp [kindOf, frameO, listO]) (by rw [e])
  have ne5 : L ≠ lf := fun e => ne_kind fL flf (by simp [kindOf, frameO, listO]) (by rw [e])
  have ne6 : ca ≠ l := fun e => ne_kind fca fl (by simp [kindOf, cellO, listO]) (by rw [e])
  have ne7 : ca ≠ a := fun e => ne_kind fca fa (by simp [kindOf, cellO, listO]) (by rw [e])
  have ne8 : ca ≠ lf := fun e => ne_kind fca flf (by simp [kindOf, cellO, listO]) (by rw [e])
  let A : WtA := ⟨L0, L, ca, cs, lf, l, a, p0, p1, p, i, ti, its, n, rs, nr, lfs, nlf, wtE fE a lf z, nL, N, T⟩
  refine code_cut (X0 := XX w b1 b2 tb []) (X := XX w b1 b2 tb [hkLen 3 (l+292) rs nr, hkVal "int.__lt__" [.int i ti, .int rs.length (T+1)] (.bool true), hkLen 3 (l+292) rs nr, hkRIter 0 (N+292) i rs.length ti (T+3) (T+4)]) (N := N) (own := [L+292, ca+292]) (wt_seg0 w b1 b2 fE A z) rfl rfl rfl ⟨ok_len (by omega), ok_lt (by simp; omega), ok_len (by omega), ok_riter (by omega) (by omega) (by omega), trivial⟩ hN G ⟨fL, fca, fcs, fl, trivial⟩ ?_ ?_ fun h1 T1 st1 hrun1 hV1 D1 E1' hnQ => ?_
  · ktd_rel
  · kt_len
  obtain ⟨u0, u1, u2, u4, u5⟩ := pr5 hV1
  have nt0 : ∀ c ∈ [L+292, ca+292], ∀ vs, h.get? c ≠ some (tupO vs) := notupL (by ktr_rel)
  have gLc1 : h1.get? (N+295) = some (dictO [] 0) := D1.at u0
  have gacc1 : h1.get? (N+294) = some (listO [] 0) := D1.at u1
  have git1 : h1.get? (N+293) = some (rngI i (rs.length - i)) := D1.at u2
  have gL1 : h1.get? (L+292) = some (frameO (wtE fE a lf z) nL) := D1.at u4
  have gca1 : h1.get? (ca+292) = some (cellO (some (.int i ti))) := D1.at u5
  have gcs1 := E1'.keep _ _ fcs (by kt_eqs)
  have gl1 := E1'.keep _ _ fl (by kt_eqs)
  have ga1 := E1'.keep _ _ fa (by kt_eqs)
  have glf1 := E1'.keep _ _ flf (by kt_eqs)
  have hys1 := pieces_ext E1' nt0 hys
  refine hnQ ?_
  refine comp_start (by kernel_rfl) (by kernel_rfl) rfl (iter_range git1) fun p2 => ?_
  refine ls_loop w b1 b2 L0 L ca cs (N+1) (N+2) (N+3) l p0 p1 _ p2 i ti rs nr f d ox _ h1 T1 D1.glob git1 gacc1 gLc1 gca1 gcs1 gl1 (by omega) hi (by omega) (fun k hk => ?_) ?_
  · obtain ⟨v, hv, sv⟩ := hrs k hk
    exact ⟨v, hv, sv.ext E1' nt0⟩
  intro h2 T2 accs na hs tk v ne E2 gacc2 hacc gLc2
  have E2' : Ext [N+293, N+294, N+295] h1 h2 := E2
  have gL2 := E2'.keep _ _ gL1 (by kt_eqs)
  have gca2 := E2'.keep _ _ gca1 (by kt_eqs)
  have ga2 := E2'.keep _ _ ga1 (by kt_eqs)
  have glf2 := E2'.keep _ _ glf1 (by kt_eqs)
  have nt1 : ∀ c ∈ [N+293, N+294, N+295], ∀ vs, h1.get? c ≠ some (tupO vs) := notupL (by ktr_rel)
  have hys2 := pieces_ext E2' nt1 hys1
  obtain ⟨N2, hN2⟩ := le_size gL2 (Nat.le_add_left _ _)
  have hNN : N + 4 ≤ N2 := by have := lt_of_get (a := N+3) gLc2 hN2; omega
  let B : WtB := ⟨accs, na, hs, tk, v, ne, N2, T2⟩
  refine back_cut (X0 := XX w b1 b2 tb []) (X := XX w b1 b2 tb []) (own := [N+294, N+295]) hrun1 (wt_seg1 w b1 b2 fE A z B) rfl rfl rfl trivial hN2 (glob_ext E2' (by kt_len) D1.glob) ⟨gacc2, gLc2, trivial⟩ ?_ ?_ fun h3 T3 st3 hrun3 hV3 D3 E3' hnQ => ?_
  · ktd_rel
  · kt_len
  have gacc3 : h3.get? (N+294) = some (listO accs na) := D3.at hV3
  have gL3 := E3'.keep _ _ gL2 (by kt_eqs)
  have gca3 := E3'.keep _ _ gca2 (by kt_eqs)
  have ga3 := E3'.keep _ _ ga2 (by kt_eqs)
  have glf3 := E3'.keep _ _ glf2 (by kt_eqs)
  have nt2 : ∀ c ∈ [N+294, N+295], ∀ vs, h2.get? c ≠ some (tupO vs) := notupL (by ktr_rel)
  have hys3 := pieces_ext E3' nt2 hys2
  have hp3 : posO (rWt2 w b1 b2 A B) = st3.p := by
    have hrun3' : rWt2 w b1 b2 A B = some st3 := hrun3
    rw [hrun3']; rfl
  refine hnQ ?_
  show wpCode _ (ctxIn _ ((_, posO (rWt2 w b1 b2 A B)) :: _)) _ st3.p _
  rw [hp3]
  have hMm : (M : Int) ∈ sameL f (f i) i (rs.length - i) := mem_sameL.mpr ⟨M, hM.1, by omega, hM.2.2.1, rfl⟩
  refine max_call gacc3 hacc (fun e => by rw [e] at hMm; cases hMm) ?_
  intro h4 T4 tm Mx E4 hMx hMle
  have hMM : Mx = (M : Int) := by
    obtain ⟨k, hk1, hk2, hfk, rfl⟩ := mem_sameL.mp hMx
    have h1 := hM.2.2.2 k hk1 (by omega) hfk
    have h2 := hMle (M : Int) hMm
    omega
  subst hMM
  have gL4 := E4.keep _ _ gL3 (by kt_eqs)
  have gca4 := E4.keep _ _ gca3 (by kt_eqs)
  have ga4 := E4.keep _ _ ga3 (by kt_eqs)
  have glf4 := E4.keep _ _ glf3 (by kt_eqs)
  have hys4 := pieces_ext E4 (by simp) hys3
  obtain ⟨N4, hN4⟩ := le_size gL4 (Nat.le_add_left _ _)
  have nt4 : ∀ c ∈ [L+292, ca+292, lf+292], ∀ vs, h4.get? c ≠ some (tupO vs) := notupL (by ktr_rel)
  have dif4 : Dif [⟨L+292, frameO (wtE fE a lf z) nL, true⟩, ⟨ca+292, cellO (some (.int i ti)), true⟩, ⟨a+292, listO its n, false⟩, ⟨lf+292, listO lfs nlf, true⟩] := by
    ktd_rel
  have ge4 : AllE (fun e => 292 ≤ e.a) [⟨L+292, frameO (wtE fE a lf z) nL, true⟩, ⟨ca+292, cellO (some (.int i ti)), true⟩, ⟨a+292, listO its n, false⟩, ⟨lf+292, listO lfs nlf, true⟩] := by kt_len
  have total : ∀ {h5 : Heap}, Ext [L+292, ca+292, lf+292] h4 h5 → Ext [L+292, ca+292, lf+292] h h5 := fun {h5} E5 => ((((E1'.trans E2').trans E3').trans E4).trans E5).drop (by kt_ors)
  by_cases hlt : M < its.length
  · obtain ⟨r, hr⟩ : ∃ r, ws[M]? = some r := ⟨ws[M]'(by have := hw.length; omega), List.getElem?_eq_getElem _⟩
    obtain ⟨v, hv, hsv⟩ := hw.get M hr
    obtain ⟨ts, rfl, hname⟩ := sign_name hsv
    refine back_loop (X0 := XX w b1 b2 tb []) (X := XX w b1 b2 tb [hkLen 2 (a+292) its n, hkVal "int.__lt__" [.int M tm, .int its.length (T4+2)] (.bool true), hkItem 2 (a+292) its n M tm (.str (lt4 r) ts), hkStrOf M tm, hkApp 4 (lf+292) lfs nlf (.ref (N4+292)), hkInt "int.__add__" [.int M tm, .int 1 (T4+4)] (M+1)]) (own := [L+292, ca+292, lf+292]) hrun3 (wt_seg2 w b1 b2 fE A z B M tm N4 T4 (lt4 r) ts) rfl rfl rfl ⟨ok_len (by omega), ok_lt (by simp; omega), ok_item (by omega) (by omega) (by simpa using hv), ok_strof (by omega), ok_app (by rw [sizeL]; omega), ok_add, trivial⟩ hN4 (glob_ext E4 (by kt_len) D3.glob) ⟨gL4, gca4, ga4, glf4, trivial⟩ dif4 ge4 rfl fun h5 T5 p5 st5 hV5 D5 E5' hnQ => ?_
    obtain ⟨q0, q1, q2, q3⟩ := pr4 hV5
    obtain ⟨es5, nL5, ow5, e5, hk5⟩ := shape_ok q1
    obtain ⟨z5, rfl⟩ := wtE_of (f := false) (a := a) (lf := lf) (v := .int M tm) hk5
    refine hnQ ?_
    refine K h5 T5 p5 z5 nL5 _ _ _ (total E5') (D5.at e5) (D5.at q2) (D5.at q3) (by show (lfs ++ [Value.ref (N4+292)]).length ≤ _; simp) ?_
    rw [if_pos hlt, List.getD_eq_getElem?_getD, hr]
    exact (pieces_ext E5' nt4 hys4).snoc ⟨N4, _, _, rfl, D5.at q0⟩
  · refine back_loop (X0 := XX w b1 b2 tb []) (X := XX w b1 b2 tb [hkLen 2 (a+292) its n, hkVal "int.__lt__" [.int M tm, .int its.length (T4+2)] (.bool false), hkInt "int.__add__" [.int M tm, .int 1 (T4+3)] (M+1)]) (own := [L+292, ca+292, lf+292]) hrun3 (wt_seg3 w b1 b2 fE A z B M tm N4 T4) rfl rfl rfl ⟨ok_len (by omega), ok_lt (by simp; omega), ok_add, trivial⟩ hN4 (glob_ext E4 (by kt_len) D3.glob) ⟨gL4, gca4, ga4, glf4, trivial⟩ dif4 ge4 rfl fun h5 T5 p5 st5 hV5 D5 E5' hnQ => ?_
    obtain ⟨q1, q2, q3⟩ := pr3 hV5
    obtain ⟨es5, nL5, ow5, e5, hk5⟩ := shape_ok q1
    obtain ⟨z5, rfl⟩ := wtE_of (f := false) (a := a) (lf := lf) (v := .int M tm) hk5
    refine hnQ ?_
    refine K h5 T5 p5 z5 nL5 _ _ _ (total E5') (D5.at e5) (D5.at q2) (D5.at q3) (by show lfs.length ≤ _; omega) ?_
    rw [if_neg hlt, List.append_nil]
    exact pieces_ext E5' nt4 hys4
noncomputable def leftGo (last : Nat → Nat) (ws : List Nat) : Nat → Nat → List (Str × Str)
  | 0, _ => []
  | m + 1, i => if i < ws.length + 1 then (if last i < ws.length then [(lt4 (ws.getD (last i) 0), digs (last i))] else []) ++ leftGo last ws m (last i + 1) else []
theorem left_call (w : World) (b1 b2 : Bool) (L0 a l : Nat) (p0 p : Pos) (its rs : List Value) (n nr : Nat) (ws : List Nat) (f : Nat → M4) (last : Nat → Nat) (T : Nat) (d : Drawn) (ox : OsState) (R : Result → Shared → Prop) (h : Heap)
    (hz : its.length ≤ 24) (hw : All2 SignV its ws) (G : Glob (XX w b1 b2 tb []) h) (fa : h.get? (a+292) = some (listO its n)) (fl : h.get? (l+292) = some (listO rs nr)) (hal : a ≠ l) (hrs : All2 (SpotV h) rs ((List.range (its.length + 1)).map f))
    (hl : ∀ i, i < its.length + 1 → i ≤ last i ∧ last i < its.length + 1 ∧ f (last i) = f i ∧ ∀ k, i ≤ k → k < its.length + 1 → f k = f i → k ≤ last i)
    (K : ∀ h' T' (lf : Nat) lfs nlf, Ext [] h h' → h.objs.size ≤ lf + 292 → h'.get? (lf+292) = some (listO lfs nlf) → All2 (PieceV h') lfs ((emp, emp) :: leftGo last ws (its.length + 1) 0) → R (.ok (.ret (.ref (lf+292)))) ⟨h', ⟨[]⟩, d, T', ox⟩) :
    wpCode (model PySem.Challenge.pw_pe0217_01 (setW w b1 b2)) (ctxIn (.call (.ref 286) ⟨[.ref (a+292), .ref (l+292)], []⟩) (belowLaw w (L0+292) p0)) R p ⟨h, ⟨[]⟩, d, T, ox⟩ := by
  obtain ⟨N, hN⟩ := le_size fa (Nat.le_add_left _ _)
  have la := lt_of_get fa hN
  have ll := lt_of_get fl hN
  refine code_cut (X0 := XX w b1 b2 tb []) (X := XX w b1 b2 tb []) (N := N) (own := []) (le_seg0 w b1 b2 L0 a l p0 p its rs n nr N T) rfl rfl rfl trivial hN G ⟨fa, fl, trivial⟩ ?_ ?_ fun h1 T1 st1 hrun1 hV1 D1 E1' hnQ => ?_
  · ktd_rel
  · kt_len
  obtain ⟨v0, v1, v2, v3, v4⟩ := pr5 hV1
  obtain ⟨es1, nL1, ow1, e1, hk1⟩ := shape_ok v4
  obtain ⟨z1, rfl⟩ := wtE_of (f := true) (a := a) (lf := N+4) (v := .none) hk1
  have glf := D1.at v0; have gbt := D1.at v1; have gca := D1.at v2; have gcs := D1.at v3
  have gL : h1.get? (N+292) = some (frameO (wtE true a (N+4) z1) nL1) := D1.at e1
  have fa1 := E1'.keep _ _ fa (by kt_eqs)
  have fl1 := E1'.keep _ _ fl (by kt_eqs)
  have hrs1 := spots_ext E1' (by simp) hrs
  have hlen : rs.length = its.length + 1 := by rw [hrs.length]; simp
  have hwl := hw.length
  have nt1 : ∀ c ∈ [N+292, N+294, N+296], ∀ vs, h1.get? c ≠ some (tupO vs) := notupL (by ktr_rel)
  have loop : ∀ (m i : Nat) (ti : Tok) (p' : Pos) (T' : Nat) (h' : Heap) (fE : Bool) (z : Zs) (nL : Nat) (lfs : List Value) (nlf : Nat) (ys : List (Str × Str)), rs.length - i ≤ m → lfs.length ≤ i + 1 → i ≤ rs.length → Ext [N+292, N+294, N+296] h1 h' → h'.get? (N+292) = some (frameO (wtE fE a (N+4) z) nL) → h'.get? (N+294) = some (cellO (some (.int i ti))) →
      h'.get? (N+296) = some (listO lfs nlf) → All2 (PieceV h') lfs ys → ys ++ leftGo last ws m i = (emp, emp) :: leftGo last ws (its.length + 1) 0 →
      wpCode (model PySem.Challenge.pw_pe0217_01 (setW w b1 b2)) (ctxIn (leLoop w (N+292) (N+294) (N+293)) (belowLe w (L0+292) (N+292) (N+294) (N+293) p0 (posO (rLe0 w b1 b2 L0 a l p0 p its rs n nr N T)))) (fun r s' => MeansK (model PySem.Challenge.pw_pe0217_01 (setW w b1 b2)) (PostR R) st1.κ st1.Γ st1.p (kOf st1.t r) s') p' ⟨h', ⟨[]⟩, d, T', ox⟩ := by
    intro m
    induction m with
    | zero =>
      intro i ti p' T' h' fE z nL lfs nlf ys hm hll hile E qL qca qlf hys hout
      have qcs := E.keep _ _ gcs (by kt_eqs)
      have ql := E.keep _ _ fl1 (by kt_eqs)
      obtain ⟨N4, hN4⟩ := le_size qL (Nat.le_add_left _ _)
      let A : WtA := ⟨L0, N, N+2, N+1, N+4, l, a, p0, posO (rLe0 w b1 b2 L0 a l p0 p its rs n nr N T), p', i, ti, its, n, rs, nr, lfs, nlf, wtE fE a (N+4) z, nL, N4, T'⟩
      refine code_done (X0 := XX w b1 b2 tb []) (X := XX w b1 b2 tb [hkLen 3 (l+292) rs nr, hkVal "int.__lt__" [.int i ti, .int rs.length (T'+1)] (.bool false)]) (N := N4) (own := [N+292, N+294]) (wt_end w b1 b2 fE A z) rfl rfl rfl ⟨ok_len (by omega), ok_lt (by simp; omega), trivial⟩ hN4 (glob_ext E (by kt_len) D1.glob) ⟨qL, qca, qcs, ql, trivial⟩ ?_ ?_ fun h5 T5 st5 hV5 D5 E5' hnQ => ?_
      · ktd_rel
      · kt_len
      have qL5 : h5.get? (N+292) = some (frameO (wtE fE a (N+4) z) nL) := D5.at hV5
      have qlf5 := E5'.keep _ _ qlf (by kt_eqs)
      have nt5 : ∀ c ∈ [N+292, N+294], ∀ vs, h'.get? c ≠ some (tupO vs) := notupL (by ktr_rel)
      have hys5 := pieces_ext E5' nt5 hys
      obtain ⟨N5, hN5⟩ := le_size qL5 (Nat.le_add_left _ _)
      refine hnQ ?_
      refine back_done (X0 := XX w b1 b2 tb []) (X := XX w b1 b2 tb []) (own := [N+292]) hrun1 (le_seg1 w b1 b2 fE L0 a l p0 p its rs n nr N T z nL N5 T5) rfl rfl rfl trivial hN5 (glob_ext E5' (by kt_len) (glob_ext E (by kt_len) D1.glob)) ⟨qL5, trivial⟩ ⟨trivial, trivial⟩ ⟨Nat.le_add_left _ _, trivial⟩ fun h6 T6 st6 hV6 D6 E6' hnQ => ?_
      have nt6 : ∀ c ∈ [N+292], ∀ vs, h5.get? c ≠ some (tupO vs) := notupL (by ktr_rel)
      refine hnQ ?_
      refine K h6 T6 (N+4) lfs nlf ((((E1'.trans E).trans E5').trans E6').new ?_) (by omega) (E6'.keep _ _ qlf5 (by kt_eqs)) ?_
      · intro c hc
        simp only [List.mem_append, List.mem_cons, List.not_mem_nil, or_false, false_or] at hc
        rw [hN]
        omega
      · have e0 : leftGo last ws 0 i = [] := rfl
        rw [e0, List.append_nil] at hout
        rw [← hout]
        exact pieces_ext E6' nt6 hys5
    | succ m ih =>
      intro i ti p' T' h' fE z nL lfs nlf ys hm hll hile E qL qca qlf hys hout
      by_cases hi : i < rs.length
      · have qcs := E.keep _ _ gcs (by kt_eqs)
        have ql := E.keep _ _ fl1 (by kt_eqs)
        have qa := E.keep _ _ fa1 (by kt_eqs)
        have qrs := spots_ext E nt1 hrs1
        have hli := hl i (by omega)
        refine wt_turn w b1 b2 fE L0 N (N+2) (N+1) (N+4) l a p0 _ p' i ti its n rs nr lfs nlf z nL f (last i) ws ys T' d ox _ h' hi (by omega) hlen hw (glob_ext E (by kt_len) D1.glob) qL qca qcs ql qa qlf (by omega) (by omega) (by omega) ?_ hys (by omega) (by rw [hlen]; exact hli) ?_
        · intro k hk
          exact qrs.get k (by rw [List.getElem?_map, List.getElem?_range (by omega)]; rfl)
        · intro h7 T7 p7 z7 nL7 ti7 lfs7 nlf7 E7 q1 q2 q3 q4 q5
          refine ih (last i + 1) ti7 p7 T7 h7 false z7 nL7 lfs7 nlf7 _ (by omega) (by omega) (by omega) (E.trans2 E7) q1 q2 q3 q5 ?_
          have e : leftGo last ws (m+1) i = (if last i < ws.length then [(lt4 (ws.getD (last i) 0), digs (last i))] else []) ++ leftGo last ws m (last i + 1) := if_pos (by omega)
          rw [← hout, List.append_assoc, e, hwl]
      · have e0 : leftGo last ws (m+1) i = leftGo last ws 0 i := by
          unfold leftGo
          rw [if_neg (by omega)]
        rw [e0] at hout
        -- nothing is left to walk
        have qcs := E.keep _ _ gcs (by kt_eqs)
        have ql := E.keep _ _ fl1 (by kt_eqs)
        obtain ⟨N4, hN4⟩ := le_size qL (Nat.le_add_left _ _)
        let A : WtA := ⟨L0, N, N+2, N+1, N+4, l, a, p0, posO (rLe0 w b1 b2 L0 a l p0 p its rs n nr N T), p', i, ti, its, n, rs, nr, lfs, nlf, wtE fE a (N+4) z, nL, N4, T'⟩
        refine code_done (X0 := XX w b1 b2 tb []) (X := XX w b1 b2 tb [hkLen 3 (l+292) rs nr, hkVal "int.__lt__" [.int i ti, .int rs.length (T'+1)] (.bool false)]) (N := N4) (own := [N+292, N+294]) (wt_end w b1 b2 fE A z) rfl rfl rfl ⟨ok_len (by omega), ok_lt (by simp; omega), trivial⟩ hN4 (glob_ext E (by kt_len) D1.glob) ⟨qL, qca, qcs, ql, trivial⟩ ?_ ?_ fun h5 T5 st5 hV5 D5 E5' hnQ => ?_
        · ktd_rel
        · kt_len
        have qL5 : h5.get? (N+292) = some (frameO (wtE fE a (N+4) z) nL) := D5.at hV5
        have qlf5 := E5'.keep _ _ qlf (by kt_eqs)
        have nt5 : ∀ c ∈ [N+292, N+294], ∀ vs, h'.get? c ≠ some (tupO vs) := notupL (by ktr_rel)
        have hys5 := pieces_ext E5' nt5 hys
        obtain ⟨N5, hN5⟩ := le_size qL5 (Nat.le_add_left _ _)
        refine hnQ ?_
        refine back_done (X0 := XX w b1 b2 tb []) (X := XX w b1 b2 tb []) (own := [N+292]) hrun1 (le_seg1 w b1 b2 fE L0 a l p0 p its rs n nr N T z nL N5 T5) rfl rfl rfl trivial hN5 (glob_ext E5' (by kt_len) (glob_ext E (by kt_len) D1.glob)) ⟨qL5, trivial⟩ ⟨trivial, trivial⟩ ⟨Nat.le_add_left _ _, trivial⟩ fun h6 T6 st6 hV6 D6 E6' hnQ => ?_
        have nt6 : ∀ c ∈ [N+292], ∀ vs, h5.get? c ≠ some (tupO vs) := notupL (by ktr_rel)
        refine hnQ ?_
        refine K h6 T6 (N+4) lfs nlf ((((E1'.trans E).trans E5').trans E6').new ?_) (by omega) (E6'.keep _ _ qlf5 (by kt_eqs)) ?_
        · intro c hc
          simp only [List.mem_append, List.mem_cons, List.not_mem_nil, or_false, false_or] at hc
          rw [hN]
          omega
        · have e1 : leftGo last ws 0 i = [] := rfl
          rw [e1, List.append_nil] at hout
          rw [← hout]
          exact pieces_ext E6' nt6 hys5
  refine hnQ ?_
  refine loop (its.length + 1) 0 _ _ T1 h1 true z1 nL1 [.ref (N+295)] 0 [(emp, emp)] (by omega) (by simp) (by omega) (Ext.refl _ _) gL gca glf ⟨⟨N+3, _, _, rfl, gbt⟩, trivial⟩ rfl
end
end Mine

namespace Mine
noncomputable section
open PySem PySem.W PySem.W.X
set_option maxHeartbeats 4000000
theorem pairs_call (w : World) (b1 b2 : Bool) (L0 a l : Nat) (p0 p : Pos) (its rs : List Value) (n nr : Nat) (f : Nat → M4) (g : Nat → Option Nat) (T : Nat) (d : Drawn) (ox : OsState) (R : Result → Shared → Prop) (h : Heap)
    (hz : its.length ≤ 24) (hn : 0 < its.length) (G : Glob (XX w b1 b2 tb []) h) (fa : h.get? (a+292) = some (listO its n)) (fl : h.get? (l+292) = some (listO rs nr)) (hal : a ≠ l) (hrs : All2 (SpotV h) rs ((List.range (its.length + 1)).map f))
    (hg0 : ∀ k, k < its.length → g k = none → ¬ size4 (f (k+1)) < size4 (f k)) (hg1 : ∀ k, k < its.length → ∀ M, g k = some M → size4 (f (k+1)) < size4 (f k) ∧ M ≤ k ∧ f M = f (k+1) ∧ ∀ i, i ≤ k → f i = f (k+1) → i ≤ M)
    (K : ∀ h' T' (pr : Nat) prs npr, Ext [] h h' → h.objs.size ≤ pr + 292 → h'.get? (pr+292) = some (listO prs npr) → All2 (PieceV h') prs (gPairs g its.length) → R (.ok (.ret (.ref (pr+292)))) ⟨h', ⟨[]⟩, d, T', ox⟩) :
    wpCode (model PySem.Challenge.pw_pe0217_01 (setW w b1 b2)) (ctxIn (.call (.ref 281) ⟨[.ref (a+292), .ref (l+292)], []⟩) (belowLaw w (L0+292) p0)) R p ⟨h, ⟨[]⟩, d, T, ox⟩ := by
  obtain ⟨N, hN⟩ := le_size fa (Nat.le_add_left _ _)
  have la := lt_of_get fa hN
  have ll := lt_of_get fl hN
  let A : PaA := ⟨L0, a, l, p0, p, its, rs, n, nr, N, T⟩
  refine code_cut (X0 := XX w b1 b2 tb []) (X := XX w b1 b2 tb []) (N := N) (own := []) (pa_seg0 w b1 b2 L0 a l p0 p its rs n nr N T) rfl rfl rfl trivial hN G ⟨fa, fl, trivial⟩ ?_ ?_ fun h1 T1 st1 hrun1 hV1 D1 E1' hnQ => ?_
  · ktd_rel
  · kt_len
  obtain ⟨v0, v1, v2, v3, v4, v5⟩ := pr6 hV1
  obtain ⟨es1, nL1, ow1, e1, hk1⟩ := shape_ok v5
  obtain ⟨z1, k1, rfl⟩ := kvs_one hk1
  have gLc := D1.at v0; have gacc := D1.at v1; have git := D1.at v2; have gck := D1.at v3; have gcs := D1.at v4; have gL := D1.at e1
  have fa1 := E1'.keep _ _ fa (by kt_eqs)
  have fl1 := E1'.keep _ _ fl (by kt_eqs)
  have hrs1 := spots_ext E1' (by simp) hrs
  have hlen : rs.length = its.length + 1 := by rw [hrs.length]; simp
  refine hnQ ?_
  refine comp_start (by kernel_rfl) (by kernel_rfl) rfl (iter_list (l := l+292) (i := 0) git) fun p' => ?_
  refine sz_loop w b1 b2 L0 N (N+2) (N+1) (N+3) (N+4) (N+5) l p0 _ rs nr _ d ox _ h1 p' T1 D1.glob git gacc gLc fl1 (by omega) hrs1 (by omega) (by omega) ?_
  intro h2 T2 accs na hs tk v ne E2 gacc2 hacc gLc2
  have E2' : Ext [N+295, N+296, N+297] h1 h2 := E2
  have gL2 := E2'.keep _ _ gL (by kt_eqs)
  have gck2 := E2'.keep _ _ gck (by kt_eqs)
  have gcs2 := E2'.keep _ _ gcs (by kt_eqs)
  have fa2 := E2'.keep _ _ fa1 (by kt_eqs)
  have fl2 := E2'.keep _ _ fl1 (by kt_eqs)
  have nt1 : ∀ c ∈ [N+295, N+296, N+297], ∀ vs, h1.get? c ≠ some (tupO vs) := notupL (by ktr_rel)
  have hrs2 := spots_ext E2' nt1 hrs1
  obtain ⟨N2, hN2⟩ := le_size gL2 (Nat.le_add_left _ _)
  have hNN : N + 6 ≤ N2 := by have := lt_of_get (a := N+5) gLc2 hN2; omega
  let B : PaB := ⟨accs, na, hs, tk, v, ne, z1, k1, nL1, N2, T2⟩
  refine back_cut (X0 := XX w b1 b2 tb []) (X := XX w b1 b2 tb [hkLen 6 (a+292) its n, hkRIter 0 (N2+293) 0 its.length (T2+4) (T2+3) (T2+5)]) (own := [N+296, N+297, N+292, N+294, N+293]) hrun1 (pa_seg1 w b1 b2 A B) rfl rfl rfl ⟨ok_len (by omega), ok_riter (by omega) (by omega) (by omega), trivial⟩ hN2 (glob_ext E2' (by kt_len) D1.glob) ⟨gacc2, gLc2, gL2, gck2, gcs2, fa2, trivial⟩ ?_ ?_ fun h3 T3 st3 hrun3 hV3 D3 E3' hnQ => ?_
  · ktd_rel
  · kt_len
  obtain ⟨u0, u1, u2, u3, u4, u5⟩ := pr6 hV3
  obtain ⟨es3, nL3, ow3, e3, hk3⟩ := shape_ok u3
  obtain ⟨z3, rfl⟩ := ptE_of (f := true) (a := a) (sz := N+4) (pr := N2) (v := .none) hk3
  have git3 : h3.get? (N2+294) = some (rngI 0 (its.length - 0)) := D3.at u0
  have gpr3 : h3.get? (N2+292) = some (listO [] 0) := D3.at u1
  have gsz3 : h3.get? (N+296) = some (listO accs na) := D3.at u2
  have gL3 : h3.get? (N+292) = some (frameO (ptE true a (N+4) N2 z3) nL3) := D3.at e3
  have gck3 : h3.get? (N+294) = some (cellO none) := D3.at u4
  have gcs3 : h3.get? (N+293) = some (cellO (some (.ref (l+292)))) := D3.at u5
  have fl3 := E3'.keep _ _ fl2 (by kt_eqs)
  have nt2 : ∀ c ∈ [N+296, N+297, N+292, N+294, N+293], ∀ vs, h2.get? c ≠ some (tupO vs) := notupL (by ktr_rel)
  have hrs3 := spots_ext E3' nt2 hrs2
  have nt3 : ∀ c ∈ [N2+294, N+292, N+294, N2+292], ∀ vs, h3.get? c ≠ some (tupO vs) := notupL (by ktr_rel)
  refine hnQ ?_
  refine loop0 (fun k h' => Ext [N2+294, N+292, N+294, N2+292] h3 h' ∧ h'.get? (N2+294) = some (rngI k (its.length - k)) ∧ (∃ fE z nL, h'.get? (N+292) = some (frameO (ptE fE a (N+4) N2 z) nL)) ∧ (∃ kv, h'.get? (N+294) = some (cellO kv)) ∧
    (∃ prs npr, h'.get? (N2+292) = some (listO prs npr) ∧ All2 (PieceV h') prs (gPairs g k))) its.length
    ⟨Ext.refl _ _, git3, ⟨true, z3, nL3, gL3⟩, ⟨none, gck3⟩, [], 0, gpr3, trivial⟩ ?_ ?_
  · rintro k hk p' T' h' ⟨E, qit, ⟨fE, z, nL, qL⟩, ⟨kv, qck⟩, prs, npr, qpr, hprs⟩ K'
    have qcs := E.keep _ _ gcs3 (by kt_eqs)
    have qsz := E.keep _ _ gsz3 (by kt_eqs)
    have ql := E.keep _ _ fl3 (by kt_eqs)
    have qrs := spots_ext E nt3 hrs3
    have hgl : (gPairs g k).length ≤ k := by
      unfold gPairs
      exact Nat.le_trans (List.length_filterMap_le _ _) (by simp)
    have hpl := hprs.length
    refine pt_turn w b1 b2 fE L0 N (N+2) (N+1) (N2+2) (N+4) l N2 a p0 _ p' k (its.length - k) accs na rs nr prs npr z nL kv f (g k) (gPairs g k) T' d ox _ h' (by omega) (by omega) (glob_ext E (by kt_len) D3.glob) qit qL qck qcs qsz ql qpr (by omega) (by omega) (by omega) ?_ ?_ hprs (by omega) (hg0 k hk) (hg1 k hk) ?_
    · intro i hi
      have hm : (((List.range (its.length + 1)).map f).map size4)[i]? = some (size4 (f i)) := by
        rw [List.getElem?_map, List.getElem?_map, List.getElem?_range (by omega)]; rfl
      obtain ⟨v, hv, t, rfl⟩ := hacc.get i hm
      exact ⟨t, hv⟩
    · intro i hi
      exact qrs.get i (by rw [List.getElem?_map, List.getElem?_range (by omega)]; rfl)
    · intro h7 T7 p7 fE' z' nL' kv' prs' npr' E7 q1 q2 q3 q4 q5
      refine K' p7 T7 h7 ⟨E.trans2 E7, ?_, ⟨fE', z', nL', q2⟩, ⟨kv', q3⟩, prs', npr', q4, ?_⟩
      · rw [q1]; congr 2; omega
      · rw [gPairs_succ]; exact q5
  · rintro p' T' h' ⟨E, qit, ⟨fE, z, nL, qL⟩, ⟨kv, qck⟩, prs, npr, qpr, hprs⟩
    obtain ⟨N4, hN4⟩ := le_size qit (Nat.le_add_left _ _)
    refine code_done (X0 := XX w b1 b2 tb []) (X := XX w b1 b2 tb [hkREnd 0 (N2+294) its.length (its.length - its.length)]) (N := N4) (own := [N2+294]) (pa_end w b1 b2 L0 N (N+2) (N+1) (N2+2) p0 _ p' its.length (its.length - its.length) N4 T') rfl rfl rfl ⟨ok_rend (by omega), trivial⟩ hN4 (glob_ext E (by kt_len) D3.glob) ⟨qit, trivial⟩ ⟨trivial, trivial⟩ ⟨Nat.le_add_left _ _, trivial⟩ fun h5 T5 st5 hV5 D5 E5' hnQ => ?_
    have qL5 := E5'.keep _ _ qL (by kt_eqs)
    have qpr5 := E5'.keep _ _ qpr (by kt_eqs)
    have nt5 : ∀ c ∈ [N2+294], ∀ vs, h'.get? c ≠ some (tupO vs) := notupL (by ktr_rel)
    obtain ⟨N5, hN5⟩ := le_size qL5 (Nat.le_add_left _ _)
    refine hnQ ?_
    refine back_done (X0 := XX w b1 b2 tb []) (X := XX w b1 b2 tb []) (own := [N+292]) hrun3 (pa_seg2 w b1 b2 fE A B z nL N5 T5) rfl rfl rfl trivial hN5 (glob_ext E5' (by kt_len) (glob_ext E (by kt_len) D3.glob)) ⟨qL5, trivial⟩ ⟨trivial, trivial⟩ ⟨Nat.le_add_left _ _, trivial⟩ fun h6 T6 st6 hV6 D6 E6' hnQ => ?_
    have nt6 : ∀ c ∈ [N+292], ∀ vs, h5.get? c ≠ some (tupO vs) := notupL (by ktr_rel)
    refine hnQ ?_
    refine K h6 T6 N2 prs npr ((((((E1'.trans E2').trans E3').trans E).trans E5').trans E6').new ?_) (by omega) (E6'.keep _ _ qpr5 (by kt_eqs)) (pieces_ext E6' nt6 (pieces_ext E5' nt5 hprs))
    repeat' first | exact fa_nil | refine fa_app ?_ ?_ | refine fa_cons ((nw0 hN rfl)) ?_ | refine fa_cons ((nw1 hN (Nat.le_of_add_right_le hNN) rfl)) ?_ | refine fa_cons ((nw2 hN (Nat.le_of_add_right_le hNN) rfl)) ?_
end
end Mine

namespace Mine
noncomputable section
open PySem PySem.W PySem.W.X
set_option maxHeartbeats 4000000
noncomputable def stLw (w : World) (j : Nat) (L : Nat) (p : Pos) (env : List Ent) (N T : Nat) : St :=
  ⟨ctxIn (fcode w 291 (L+292)) below0, p, execsF [stmtAt w 291 j] (cenv w 291 (L+292)), [], env, [], N, 0, T, 0, [], [], []⟩
structure LwF where
  L : Nat
  p : Pos
  h : Nat → Int
  k : Nat → Tok
  (nL N T : Nat)
noncomputable def lv0 (a : Nat) : List (Str × Value) := [(nm "script", .ref (a+292))]
noncomputable def lv1 (a wd : Nat) : List (Str × Value) := lv0 a ++ [(nm "word", .ref (wd+292))]
noncomputable def lv2 (a wd pl pr : Nat) : List (Str × Value) := lv1 a wd ++ [(nm "pile", .ref (pl+292)), (nm "pairs", .ref (pr+292))]
noncomputable def lv3 (a wd pl pr sp : Nat) : List (Str × Value) := lv2 a wd pl pr ++ [(nm "spots", .ref (sp+292))]
noncomputable def lv4 (a wd pl pr sp lf : Nat) : List (Str × Value) := lv3 a wd pl pr sp ++ [(nm "left", .ref (lf+292))]
noncomputable def lv5 (a wd pl pr sp lf : Nat) (td : Value) : List (Str × Value) := lv4 a wd pl pr sp lf ++ [(nm "told", td)]
noncomputable def lv7 (a wd pl pr sp lf : Nat) (td : Value) (pc : Nat) : List (Str × Value) := lv5 a wd pl pr sp lf td ++ [(nm "pieces", .ref (pc+292))]
noncomputable def lv9 (a wd pl pr sp lf : Nat) (td : Value) (pc tb : Nat) : List (Str × Value) := lv7 a wd pl pr sp lf td pc ++ [(nm "table", .ref (tb+292))]
noncomputable def stL (w : World) (j : Nat) (F : LwF) (l : List (Str × Value)) (env : List Ent) : St := stLw w j F.L F.p (⟨F.L+292, frameO (mkK F.h F.k 0 l) F.nL, true⟩ :: env) F.N F.T
end
end Mine

namespace Mine
noncomputable section
open PySem PySem.W PySem.W.X
set_option maxHeartbeats 4000000
noncomputable def rL (w : World) (b1 b2 : Bool) (os : List Nat) (j : Nat) (F : LwF) (l : List (Str × Value)) (env : List Ent) : Option St := run (XX w b1 b2 tb []) os (stL w j F l env)
structure LwG where
  h : Nat → Int
  k : Nat → Tok
  (nL N T : Nat)
noncomputable def stB (o : Option St) (L : Nat) (v : Value) (G : LwG) (l : List (Str × Value)) (env : List Ent) : St :=
  resumeO o (.ok (.ret v)) (⟨L+292, frameO (mkK G.h G.k 0 l) G.nL, true⟩ :: env) [] G.N G.T
theorem lw0_a (w : World) (b1 b2 : Bool) (F : LwF) (a : Nat) : let o := rL w b1 b2 [0, 1, 0] 0 F (lv0 a) []
    seen (fun env => shape (nth env 0)) o = some (toldA o, toldC o, toldO o, .call (.call (.ref 262) ⟨[.ref (a+292)], []⟩), ctxIn (.call (.ref 262) ⟨[.ref (a+292)], []⟩) (belowLaw w (F.L+292) (posO o)), some (F.L+292, some (.type "frame", none, #[], kvL (lv0 a))), [], toldM o, toldI o, flatO o) := by
  cases b1 <;> kernel_rfl
theorem lw0_b (w : World) (b1 b2 : Bool) (F : LwF) (a : Nat) (wd : Nat) (G : LwG) : let o := run (XX w b1 b2 tb []) [1, 1] (stB (rL w b1 b2 [0, 1, 0] 0 F (lv0 a) []) F.L (.ref (wd+292)) G (lv0 a) [])
    seen (fun env => shape (nth env 0)) o = some (toldA o, toldC o, toldO o, .done .next, ctxIn (fcode w 291 (F.L+292)) below0, some (F.L+292, some (.type "frame", none, #[], kvL (lv1 a wd))), [], toldM o, toldI o, true) := by
  cases b1 <;> kernel_rfl
theorem lw1_a (w : World) (b1 b2 : Bool) (F : LwF) (a wd : Nat) : let o := rL w b1 b2 [0, 1, 0] 1 F (lv1 a wd) []
    seen (fun env => shape (nth env 0)) o = some (toldA o, toldC o, toldO o, .call (.call (.ref 269) ⟨[.ref (wd+292)], []⟩), ctxIn (.call (.ref 269) ⟨[.ref (wd+292)], []⟩) (belowLaw w (F.L+292) (posO o)), some (F.L+292, some (.type "frame", none, #[], kvL (lv1 a wd))), [], toldM o, toldI o, flatO o) := by
  cases b1 <;> kernel_rfl
theorem lw1_b (w : World) (b1 b2 : Bool) (F : LwF) (a wd : Nat) (lt pl pr : Nat) (G : LwG) : let o := run (XX w b1 b2 tb []) [2, 2, 2, 0, 2, 0, 1, 1, 0, 1, 0, 1, 1, 3, 1, 1, 1, 0, 1, 0, 1, 1, 3, 1, 1, 1, 0, 1, 0, 1, 1, 3, 1, 1, 1, 4, 4, 4, 4] (stB (rL w b1 b2 [0, 1, 0] 1 F (lv1 a wd) []) F.L (.ref (lt+292)) G (lv1 a wd) [⟨lt+292, tupO [.ref (pl+292), .ref (pr+292)], false⟩])
    seen (fun env => shape (nth env 3)) o = some (toldA o, toldC o, toldO o, .done .next, ctxIn (fcode w 291 (F.L+292)) below0, some (F.L+292, some (.type "frame", none, #[], kvL (lv2 a wd pl pr))), [], toldM o, toldI o, true) := by
  cases b1 <;> kernel_rfl
theorem lw2_a (w : World) (b1 b2 : Bool) (F : LwF) (a wd pl pr : Nat) : let o := rL w b1 b2 [0, 1, 0] 2 F (lv2 a wd pl pr) []
    seen (fun env => shape (nth env 0)) o = some (toldA o, toldC o, toldO o, .call (.call (.ref 276) ⟨[.ref (wd+292)], []⟩), ctxIn (.call (.ref 276) ⟨[.ref (wd+292)], []⟩) (belowLaw w (F.L+292) (posO o)), some (F.L+292, some (.type "frame", none, #[], kvL (lv2 a wd pl pr))), [], toldM o, toldI o, flatO o) := by
  cases b1 <;> kernel_rfl
theorem lw2_b (w : World) (b1 b2 : Bool) (F : LwF) (a wd pl pr : Nat) (sp : Nat) (G : LwG) : let o := run (XX w b1 b2 tb []) [1, 1] (stB (rL w b1 b2 [0, 1, 0] 2 F (lv2 a wd pl pr) []) F.L (.ref (sp+292)) G (lv2 a wd pl pr) [])
    seen (fun env => shape (nth env 0)) o = some (toldA o, toldC o, toldO o, .done .next, ctxIn (fcode w 291 (F.L+292)) below0, some (F.L+292, some (.type "frame", none, #[], kvL (lv3 a wd pl pr sp))), [], toldM o, toldI o, true) := by
  cases b1 <;> kernel_rfl
theorem lw3_a (w : World) (b1 b2 : Bool) (F : LwF) (a wd pl pr sp : Nat) : let o := rL w b1 b2 [0, 1, 1, 0] 3 F (lv3 a wd pl pr sp) []
    seen (fun env => shape (nth env 0)) o = some (toldA o, toldC o, toldO o, .call (.call (.ref 286) ⟨[.ref (wd+292), .ref (sp+292)], []⟩), ctxIn (.call (.ref 286) ⟨[.ref (wd+292), .ref (sp+292)], []⟩) (belowLaw w (F.L+292) (posO o)), some (F.L+292, some (.type "frame", none, #[], kvL (lv3 a wd pl pr sp))), [], toldM o, toldI o, flatO o) := by
  cases b1 <;> kernel_rfl
theorem lw3_b (w : World) (b1 b2 : Bool) (F : LwF) (a wd pl pr sp : Nat) (lf : Nat) (G : LwG) : let o := run (XX w b1 b2 tb []) [1, 1] (stB (rL w b1 b2 [0, 1, 1, 0] 3 F (lv3 a wd pl pr sp) []) F.L (.ref (lf+292)) G (lv3 a wd pl pr sp) [])
    seen (fun env => shape (nth env 0)) o = some (toldA o, toldC o, toldO o, .done .next, ctxIn (fcode w 291 (F.L+292)) below0, some (F.L+292, some (.type "frame", none, #[], kvL (lv4 a wd pl pr sp lf))), [], toldM o, toldI o, true) := by
  cases b1 <;> kernel_rfl
end
end Mine

namespace Mine
noncomputable section
open PySem PySem.W PySem.W.X PySem.Calls PyProof.Rows
set_option maxHeartbeats 4000000
theorem pieces_comp {γ : Type} (w : World) (b1 b2 : Bool) (Γc : Ctx) (it acc Lc l : Nat) (rs : List Value) (nr : Nat) (xs : List (Str × Str)) (DE : Bool → Zs → List DictEntry) (O : Heap → Value → γ → Prop) (sel : Str × Str → Option γ) {gl : List GenState} (d : Drawn) (ox : OsState) (R : Result → Shared → Prop) (h0 : Heap) (p : Pos) (T : Nat)
    (hDE : ∀ z, DE true z = []) (G : Glob (XX w b1 b2 tb []) h0) (fit : h0.get? (it+292) = some (iterO (l+292) 0)) (facc : h0.get? (acc+292) = some (listO [] 0)) (fLc : h0.get? (Lc+292) = some (dictO [] 0)) (fl : h0.get? (l+292) = some (listO rs nr)) (hal : acc ≠ l)
    (hrs : All2 (PieceV h0) rs xs) (hz : rs.length ≤ 900)
    (Om : ∀ h h' v g, Ext [it+292, acc+292, Lc+292] h h' → (∀ c ∈ [it+292, acc+292, Lc+292], ∀ vs, h.get? c ≠ some (tupO vs)) → O h v g → O h' v g)
    (turn : ∀ (i : Nat) (x : Str × Str) (tp : Nat) (tk tv : Tok) (f : Bool) (z : Zs) (ne : Nat) (accs : List Value) (na : Nat) (h : Heap) (p : Pos) (T N : Nat), h.objs.size = N + 292 → Glob (XX w b1 b2 tb []) h → rs[i]? = some (.ref (tp+292)) → x ∈ xs → h.get? (it+292) = some (iterO (l+292) i) → h.get? (acc+292) = some (listO accs na) → h.get? (Lc+292) = some (dictO (DE f z) ne) →
      h.get? (l+292) = some (listO rs nr) → h.get? (tp+292) = some (tupO [.str x.1 tk, .str x.2 tv]) → accs.length ≤ 900 → Ext [it+292, acc+292, Lc+292] h0 h →
      (∀ h3 p3 T3 accs' na' z' ne', Ext [it+292, acc+292, Lc+292] h h3 → h3.get? (it+292) = some (iterO (l+292) (i+1 : Nat)) → h3.get? (acc+292) = some (listO accs' na') → h3.get? (Lc+292) = some (dictO (DE false z') ne') → (match sel x with | some g => ∃ v, accs' = accs ++ [v] ∧ O h3 v g | none => accs' = accs) → wpCode (model PySem.Challenge.pw_pe0217_01 (setW w b1 b2)) Γc R p3 ⟨h3, ⟨gl⟩, d, T3, ox⟩) →
      wpCode (model PySem.Challenge.pw_pe0217_01 (setW w b1 b2)) Γc R p ⟨h, ⟨gl⟩, d, T, ox⟩)
    (fin : ∀ (f : Bool) (z : Zs) (ne : Nat) (accs : List Value) (na : Nat) (h : Heap) (p : Pos) (T N : Nat), h.objs.size = N + 292 → Glob (XX w b1 b2 tb []) h → h.get? (it+292) = some (iterO (l+292) rs.length) → h.get? (acc+292) = some (listO accs na) → h.get? (Lc+292) = some (dictO (DE f z) ne) → h.get? (l+292) = some (listO rs nr) →
      Ext [it+292, acc+292, Lc+292] h0 h → All2 (O h) accs (xs.filterMap sel) → (f = true → rs = []) → wpCode (model PySem.Challenge.pw_pe0217_01 (setW w b1 b2)) Γc R p ⟨h, ⟨gl⟩, d, T, ox⟩) :
    wpCode (model PySem.Challenge.pw_pe0217_01 (setW w b1 b2)) Γc R p ⟨h0, ⟨gl⟩, d, T, ox⟩ := by
  have ne1 : it ≠ acc := fun e => ne_kind fit facc (by simp [kindOf, iterO, listO]) (by rw [e])
  have ne2 : it ≠ Lc := fun e => ne_kind fit fLc (by simp [kindOf, iterO, dictO]) (by rw [e])
  have ne3 : it ≠ l := fun e => ne_kind fit fl (by simp [kindOf, iterO, listO]) (by rw [e])
  have ne4 : acc ≠ Lc := fun e => ne_kind facc fLc (by simp [kindOf, dictO, listO]) (by rw [e])
  have ne5 : Lc ≠ l := fun e => ne_kind fLc fl (by simp [kindOf, dictO, listO]) (by rw [e])
  have nt0 : ∀ c ∈ [it+292, acc+292, Lc+292], ∀ vs, h0.get? c ≠ some (tupO vs) := notupL (by ktr_rel)
  have hlen : xs.length = rs.length := hrs.length.symm
  refine loop0 (fun i h' => Ext [it+292, acc+292, Lc+292] h0 h' ∧ h'.get? (it+292) = some (iterO (l+292) i) ∧ (∃ accs na, h'.get? (acc+292) = some (listO accs na) ∧ All2 (O h') accs ((xs.take i).filterMap sel)) ∧
    ∃ f z ne, h'.get? (Lc+292) = some (dictO (DE f z) ne) ∧ (f = true → i = 0)) rs.length
    ⟨Ext.refl _ _, fit, ⟨[], 0, facc, trivial⟩, true, zs0, 0, by rw [hDE]; exact fLc, fun _ => rfl⟩ ?_ ?_
  · rintro i hi p' T' h ⟨E, qit, ⟨accs, na, qacc, hacc⟩, f, z, ne, qLc, hf⟩ K'
    obtain ⟨N, hN⟩ := le_size qit (Nat.le_add_left _ _)
    have ql := E.keep _ _ fl (by kt_eqs)
    have qrs := pieces_ext E nt0 hrs
    obtain ⟨x, hx⟩ : ∃ x, xs[i]? = some x := ⟨xs[i], List.getElem?_eq_getElem (by omega)⟩
    obtain ⟨v, hv, tp, tk, tv, rfl, qt⟩ := qrs.get i hx
    have hal' : accs.length ≤ i := by
      rw [hacc.length]
      exact Nat.le_trans (List.length_filterMap_le _ _) (by simp; omega)
    have nt : ∀ c ∈ [it+292, acc+292, Lc+292], ∀ vs, h.get? c ≠ some (tupO vs) := notupL (by ktr_rel)
    refine turn i x tp tk tv f z ne accs na h p' T' N hN (glob_ext E (by kt_len) G) hv (List.mem_of_getElem? hx) qit qacc qLc ql qt (by omega) E ?_
    intro h3 p3 T3 accs' na' z' ne' E3 g1 g2 g3 hm
    refine K' p3 T3 h3 ⟨E.trans2 E3, g1, ⟨accs', na', g2, ?_⟩, false, z', ne', g3, fun e => by cases e⟩
    rw [List.take_add_one, hx, Option.toList_some, List.filterMap_append]
    have old := hacc.mono fun v g q => Om h h3 v g E3 nt q
    cases hs : sel x with
    | none =>
      rw [hs] at hm
      subst hm
      simp only [List.filterMap_cons, hs, List.filterMap_nil, List.append_nil]
      exact old
    | some g =>
      rw [hs] at hm
      obtain ⟨v, rfl, hO⟩ := hm
      simp only [List.filterMap_cons, hs, List.filterMap_nil]
      exact old.snoc hO
  · rintro p' T' h ⟨E, qit, ⟨accs, na, qacc, hacc⟩, f, z, ne, qLc, hf⟩
    obtain ⟨N, hN⟩ := le_size qit (Nat.le_add_left _ _)
    have ql := E.keep _ _ fl (by kt_eqs)
    rw [List.take_of_length_le (by omega)] at hacc
    exact fin f z ne accs na h p' T' N hN (glob_ext E (by kt_len) G) qit qacc qLc ql E hacc fun e => List.length_eq_zero_iff.mp (hf e)
noncomputable def addTok (x y : Str) (t u T : Tok) : Tok := if x.length == 0 then u else if y.length == 0 then t else T
noncomputable def hkSAdd (x : Str) (t : Tok) (y : Str) (u : Tok) : Hook :=
  ⟨.call (.builtin "str.__add__") ⟨[.str x t, .str y u], []⟩, [], fun T _ => .ok (.ret (.str (x ++ y) (addTok x y t u T))), fun _ => [], if x.length == 0 then 0 else if y.length == 0 then 0 else 1⟩
theorem emp_app {x y : Str} (h : (x.length == 0) = true) : x ++ y = y := by
  obtain ⟨⟨a⟩⟩ := x
  obtain ⟨⟨b⟩⟩ := y
  have : a = [] := by simpa [PySem.Str.length] using h
  subst this
  show (⟨(⟨[]⟩ : Array Nat) ++ ⟨b⟩⟩ : Str) = _
  simp
theorem app_emp {x y : Str} (h : (y.length == 0) = true) : x ++ y = x := by
  obtain ⟨⟨a⟩⟩ := x
  obtain ⟨⟨b⟩⟩ := y
  have : b = [] := by simpa [PySem.Str.length] using h
  subst this
  show (⟨(⟨a⟩ : Array Nat) ++ ⟨[]⟩⟩ : Str) = _
  simp
theorem ok_sadd {X : Cx} {x y : Str} {t u : Tok} (hz : (x ++ y).length ≤ sizeLine) : HookOk X (hkSAdd x t y u) := by
  have g := gives_str_add x y t u
  by_cases h1 : (x.length == 0) = true
  · have e : hkSAdd x t y u = hkVal "str.__add__" [.str x t, .str y u] (.str y u) := by
      unfold hkSAdd hkVal addTok
      simp only [h1, if_true, emp_app h1]
    rw [e]
    refine hook_ok (v := fun _ _ => .str y u) fun A Q E s _ _ _ hq => call_gives F.slot_str_add (typeIs_str s x t) F.entry_str_add (F.args_str_add_2 _ _) g ?_
    rw [if_pos h1]; exact hq
  · by_cases h2 : (y.length == 0) = true
    · have e : hkSAdd x t y u = hkVal "str.__add__" [.str x t, .str y u] (.str x t) := by
        unfold hkSAdd hkVal addTok
        simp only [h1, h2, if_true, Bool.false_eq_true, if_false, app_emp h2]
      rw [e]
      refine hook_ok (v := fun _ _ => .str x t) fun A Q E s _ _ _ hq => call_gives F.slot_str_add (typeIs_str s x t) F.entry_str_add (F.args_str_add_2 _ _) g ?_
      rw [if_neg h1, if_pos h2]; exact hq
    · have e : hkSAdd x t y u = hkStr "str.__add__" [.str x t, .str y u] (x ++ y) := by
        unfold hkSAdd hkStr addTok
        simp only [h1, h2, Bool.false_eq_true, if_false]
      rw [e]
      refine hook_ok (v := fun T _ => .str (x ++ y) T) fun A Q E s _ _ _ hq => call_gives F.slot_str_add (typeIs_str s x t) F.entry_str_add (F.args_str_add_2 _ _) g ?_
      rw [if_neg h1, if_neg h2]
      first | exact ⟨hz, hq⟩ | exact hq
end
end Mine

namespace Mine
noncomputable section
open PySem PySem.W PySem.W.X
set_option maxHeartbeats 4000000
noncomputable def tdE (w : World) : PySem.Expr := callA (asgV (stmtAt w 291 4))
noncomputable def tdEnv (w : World) (L Lc : Addr) : Env := compEnv (scopeOf (tdE w)) Lc [] (cenv w 291 L)
noncomputable def tdLoop (w : World) (it acc L Lc : Addr) : Code := .compLoop (tdE w) 0 (.ref it) (.ref acc) (tdEnv w L Lc)
noncomputable def tdStart (w : World) (it acc L Lc : Addr) : Code := .compStart (tdE w) 0 (.ref it) (.ref acc) (tdEnv w L Lc)
structure PcA where
  (L it acc Lc l tp : Nat)
  (p1 p : Pos)
  i : Nat
  rs : List Value
  nr : Nat
  accs : List Value
  na : Nat
  es : List DictEntry
  ne : Nat
  (K V : Str)
  (tk tv : Tok)
  (N T : Nat)
noncomputable def pcEnv (A : PcA) : List Ent := [⟨A.it+292, iterO (A.l+292) A.i, true⟩, ⟨A.acc+292, listO A.accs A.na, true⟩, ⟨A.Lc+292, dictO A.es A.ne, true⟩, ⟨A.l+292, listO A.rs A.nr, false⟩, ⟨A.tp+292, tupO [.str A.K A.tk, .str A.V A.tv], false⟩]
noncomputable def stTd (w : World) (A : PcA) : St :=
  begin (ctxIn (tdLoop w (A.it+292) (A.acc+292) (A.L+292) (A.Lc+292)) (belowLaw w (A.L+292) A.p1)) A.p (pcEnv A) [] A.N A.T
noncomputable def spEs (f : Bool) (z : Zs) : List DictEntry := match f with
  | true => []
  | false => [⟨z.h1, .str (nm "sign") z.k1, z.v4⟩, ⟨z.h2, .str (nm "place") z.k2, z.v5⟩]
noncomputable def rL4 (w : World) (b1 b2 : Bool) (F : LwF) (l : List (Str × Value)) (lf : Nat) (rs : List Value) (nr : Nat) : Option St := run (XX w b1 b2 tb []) [1, 2, 2, 0, 2, 0, 1] (stL w 4 F l [⟨lf+292, listO rs nr, false⟩])
theorem lw4_a (w : World) (b1 b2 : Bool) (F : LwF) (a wd pl pr sp lf : Nat) (rs : List Value) (nr : Nat) : let o := rL4 w b1 b2 F (lv4 a wd pl pr sp lf) lf rs nr
    seen (fun env => (nth env 0, nth env 1, nth env 2, shape (nth env 3))) o = some (toldA o, toldC o, toldO o, .call (tdStart w (F.N+292) (F.N+293) (F.L+292) (F.N+294)), ctxIn (tdStart w (F.N+292) (F.N+293) (F.L+292) (F.N+294)) (belowLaw w (F.L+292) (posO o)),
      (some ⟨F.N+294, dictO [] 0, true⟩, some ⟨F.N+293, listO [] 0, true⟩, some ⟨F.N+292, iterO (lf+292) 0, true⟩, some (F.L+292, some (.type "frame", none, #[], kvL (lv4 a wd pl pr sp lf)))), [], toldM o, toldI o, flatO o) := by
  cases b1 <;> kernel_rfl
theorem td_seg (w : World) (b1 b2 f : Bool) (A : PcA) (z : Zs) : let o := run (XX w b1 b2 tb [hkNext 0 3 (A.it+292) (A.l+292) A.rs A.nr A.i (.ref (A.tp+292)), hkSAdd A.K A.tk A.V A.tv, hkApp 4 (A.acc+292) A.accs A.na (.str (A.K ++ A.V) (addTok A.K A.V A.tk A.tv (A.T+2)))]) [1, 1, 1, 5, 5, 5, 0, 5, 0, 1, 1, 0, 1, 0, 1, 1, 6, 1, 1, 1, 0, 1, 0, 1, 1, 6, 1, 1, 1, 0, 1, 0, 1, 1, 6, 1, 1, 1, 6, 6, 6, 6, 6, 6, 2, 3] (stTd w { A with es := spEs f z })
    seen (fun env => (nth env 3, nth env 4, shape (nth env 5))) o = some (toldA o, toldC o, toldO o, .again (tdLoop w (A.it+292) (A.acc+292) (A.L+292) (A.Lc+292)), ctxIn (tdLoop w (A.it+292) (A.acc+292) (A.L+292) (A.Lc+292)) (belowLaw w (A.L+292) A.p1),
      (some ⟨A.it+292, iterO (A.l+292) (A.i+1), true⟩, some ⟨A.acc+292, listO (A.accs ++ [.str (A.K ++ A.V) (addTok A.K A.V A.tk A.tv (A.T+2))]) (A.na+1), true⟩, some (A.Lc+292, some (.type "dict", none, #[], [(some (nm "sign"), .str A.K A.tk), (some (nm "place"), .str A.V A.tv)]))), [], toldM o, toldI o, true) := by
  cases f <;> cases b1 <;> kernel_rfl
theorem td_end (w : World) (b1 b2 : Bool) (L it acc Lc l : Nat) (p1 p : Pos) (rs : List Value) (nr i N T : Nat) : let o := run (XX w b1 b2 tb [hkEnd 0 1 (it+292) (l+292) rs nr i]) [1, 1, 1] (begin (ctxIn (tdLoop w (it+292) (acc+292) (L+292) (Lc+292)) (belowLaw w (L+292) p1)) p [⟨it+292, iterO (l+292) i, true⟩, ⟨l+292, listO rs nr, false⟩] [] N T)
    seen (fun _ => ()) o = some (toldA o, toldC o, toldO o, .done .next, ctxIn (tdLoop w (it+292) (acc+292) (L+292) (Lc+292)) (belowLaw w (L+292) p1), (), [], toldM o, toldI o, true) := by
  kernel_rfl
noncomputable def rL4b (w : World) (b1 b2 : Bool) (F : LwF) (l : List (Str × Value)) (lf : Nat) (rs : List Value) (nr : Nat) (accs : List Value) (na : Nat) (z : Zs) (nz : Nat) (G : LwG) : Option St :=
  run (XX w b1 b2 tb []) [2, 2, 2, 2, 2, 2] (resumeO (rL4 w b1 b2 F l lf rs nr) (.ok .next) [⟨F.N+293, listO accs na, true⟩, ⟨F.N+294, dictO (spEs false z) nz, true⟩, ⟨F.L+292, frameO (mkK G.h G.k 0 l) G.nL, true⟩] [] G.N G.T)
theorem lw4_b (w : World) (b1 b2 : Bool) (F : LwF) (a wd pl pr sp lf : Nat) (rs : List Value) (nr : Nat) (accs : List Value) (na : Nat) (z : Zs) (nz : Nat) (G : LwG) : let o := rL4b w b1 b2 F (lv4 a wd pl pr sp lf) lf rs nr accs na z nz G
    seen (fun env => (nth env 0, shape (nth env 2))) o = some (toldA o, toldC o, toldO o, .call (.call (.builtin "str.join") ⟨[.str emp F.T, .ref (F.N+293)], []⟩), ctxIn (.call (.builtin "str.join") ⟨[.str emp F.T, .ref (F.N+293)], []⟩) (belowLaw w (F.L+292) (posO o)),
      (some ⟨F.N+293, listO accs na, true⟩, some (F.L+292, some (.type "frame", none, #[], kvL (lv4 a wd pl pr sp lf)))), [], toldM o, toldI o, flatO o) := by
  cases b1 <;> kernel_rfl
theorem lw4_c (w : World) (b1 b2 : Bool) (F : LwF) (a wd pl pr sp lf : Nat) (rs : List Value) (nr : Nat) (accs : List Value) (na : Nat) (z : Zs) (nz : Nat) (G G' : LwG) (td : Str) (tt : Tok) : let o := run (XX w b1 b2 tb []) [1, 1] (stB (rL4b w b1 b2 F (lv4 a wd pl pr sp lf) lf rs nr accs na z nz G) F.L (.str td tt) G' (lv4 a wd pl pr sp lf) [])
    seen (fun env => shape (nth env 0)) o = some (toldA o, toldC o, toldO o, .done .next, ctxIn (fcode w 291 (F.L+292)) below0, some (F.L+292, some (.type "frame", none, #[], kvL (lv5 a wd pl pr sp lf (.str td tt)))), [], toldM o, toldI o, true) := by
  cases b1 <;> kernel_rfl
end
end Mine

namespace Mine
noncomputable section
open PySem PySem.W PySem.W.X PySem.Calls PyProof.Rows
theorem code_of_builtin {prog : Program} {w : World} {id : String} {args : Args} {B : Builtin} {below : List (Code × Pos)} {R : Result → Shared → Prop} {p : Pos} {s : Shared} (entry : entryFor table id = some B)
    (h : WA (model prog w) (ctxIn (.builtin id args) below) (B args) (fun fin s' => ∀ p', Sem.finPost (model prog w) (ctxIn (.builtin id args) below) R fin p' s') (fun e s' => R (.error e) s') s) : wpCode (model prog w) (ctxIn (.builtin id args) below) R p s := by
  refine code_of_wp ?_
  show Sem.wp _ _ (match entryFor table id with | some b => b args | none => unsupported ((withoutEnding? id "#data").getD id)) _ _ _ _
  rw [entry]
  exact Sem.wp_mono _ _ _ (fun fin p' s' q => q p') (fun _ _ _ q => q) _ _ (h p)
theorem collect_gen {prog : Program} {w : World} {below : List (Code × Pos)} {R : Result → Shared → Prop} {p : Pos} {h : Heap} {gl : Array GenState} {d : Drawn} {T : Nat} {ox : OsState} {g : Addr} {o : Obj} (hg : h.get? g = some o) (hc : o.cls = .type "generator") {gi : Nat} (hgen : h.IsGen g gi)
    (K : ∀ h' p' n, Ext [] h h' → h'.objs.size = h.objs.size + 1 → h'.get? h.objs.size = some (listO [] n) → wpCode (model prog w) (ctxIn (.builtin "list.extend.loop" ⟨[.ref h.objs.size, .ref g, .ref h.objs.size], []⟩) below) R p' ⟨h', gl, d, T, ox⟩) :
    wpCode (model prog w) (ctxIn (.builtin "proto.collect" ⟨[.ref g], []⟩) below) R p ⟨h, gl, d, T, ox⟩ := by
  refine code_of_builtin F.entry_proto_collect ?_
  show WA _ _ (newList [] >>= fun l => again (.builtin "list.__iadd__" ⟨[l, .ref g], []⟩)) _ _ _
  have hT1 : (⟨h.push (listO [] 0), gl, d, T, ox⟩ : Shared).TypeIs (.ref g) "generator" := ⟨o, Heap.get?_push_of_some _ hg, hc⟩
  have hne : h.objs.size ≠ g := fun e => Nat.lt_irrefl _ (e ▸ Heap.lt_size hg)
  refine WA.bind (WA.any (wpAny_newObj_type ?_))
  refine WA.pure fun p1 => ⟨plainId_quiet F.plain_list_iadd _, ?_⟩
  show wpCode _ (ctxIn (.builtin "list.__iadd__" ⟨[.ref h.objs.size, .ref g], []⟩) below) R p1 ⟨h.push (listO [] 0), gl, d, T, ox⟩
  refine code_of_builtin F.entry_list_iadd ?_
  show WA _ _ (Builtin.List.listExtendWith (.ref h.objs.size) (.ref g) (.ref h.objs.size)) _ _ _
  unfold Builtin.List.listExtendWith
  refine WA.bind (WA.any (wpAny_typeOf hT1 ?_))
  have h1 : Builtin.List.listSameRef (.ref h.objs.size) (.ref g) = false := by simp [Builtin.List.listSameRef, hne]
  have h2 : (Value.type "generator" == Value.type "list") = false := by decide
  have h3 : (Value.type "generator" == Value.type "tuple") = false := by decide
  simp only [h1, h2, h3, Bool.or_false, Bool.false_eq_true, if_false]
  have hgen1 : (h.push (listO [] 0)).IsGen g gi := hgen.push _
  refine WA.bind (WA.any (wpAny_pyIter_gen hgen1 ?_))
  refine WA.bind (WA.any (wpAny_holding ?_))
  unfold Builtin.List.listLengthHint
  refine wpAny_bind (wpAny_specialOf hT1 F.gen_no_len ?_)
  show wpAny _ _ (specialOf (Value.ref g) (Str.ofString "__length_hint__") >>= _) _ _ _
  refine wpAny_bind (wpAny_specialOf hT1 F.gen_no_hint ?_)
  refine wpAny_pure ?_
  show WA _ _ (rule "list.extend.makes-room" >>= fun _ => Builtin.List.listTouch (.ref h.objs.size) >>= fun _ =>
    again (.builtin "list.extend.loop" ⟨[.ref h.objs.size, .ref g, .ref h.objs.size], []⟩)) _ _ _
  refine WA.bind (WA.any (wpAny_rule ?_))
  have hS₁ : (h.push (listO [] 0)).get? h.objs.size = some (listO [] 0) := Heap.get?_push_size _ rfl
  refine WA.bind (WA.any ?_)
  show wpAny _ _ (updateSeq h.objs.size (·.push .none) >>= fun _ => updateSeq h.objs.size (·.pop)) _ _ _
  refine wpAny_bind (wpAny_updateSeq hS₁ rfl ?_)
  have hS₂ := Heap.get?_update_self (Obj.mapSeq (·.push Value.none)) hS₁ rfl
  refine wpAny_updateSeq hS₂ rfl ?_
  have hS₃ := Heap.get?_update_self (Obj.mapSeq (·.pop)) hS₂ rfl
  have s1 : Heap.SameBut h.objs.size (h.push (listO [] 0)) ((h.push (listO [] 0)).update h.objs.size (Obj.mapSeq (·.push Value.none))) := Heap.SameBut.update ..
  have s2 : Heap.SameBut h.objs.size ((h.push (listO [] 0)).update h.objs.size (Obj.mapSeq (·.push Value.none))) (((h.push (listO [] 0)).update h.objs.size (Obj.mapSeq (·.push Value.none))).update h.objs.size (Obj.mapSeq (·.pop))) := Heap.SameBut.update ..
  refine WA.pure fun p2 => ⟨plainId_quiet F.plain_extend_loop _, ?_⟩
  have hsz : (((h.push (listO [] 0)).update h.objs.size (Obj.mapSeq (·.push Value.none))).update h.objs.size (Obj.mapSeq (·.pop))).objs.size = h.objs.size + 1 := by rw [s2.1, s1.1, Heap.size_push]
  refine K _ p2 _ ⟨fun b o' e _ => ?_, by rw [hsz]; exact Nat.le_succ _⟩ hsz hS₃
  have hb : b ≠ h.objs.size := Nat.ne_of_lt (Heap.lt_size e)
  exact (s2.2 b hb).trans ((s1.2 b hb).trans (Heap.get?_push_of_some _ e))
noncomputable def joinKV (K V : Str) : Str := Txt.join emp [K, V]
noncomputable def hkJoin2 (j : Nat) (D : Addr) (t : Tok) (K : Str) (tk : Tok) (V : Str) (tv : Tok) : Hook :=
  ⟨.call (.builtin "str.join") ⟨[.str emp t, .ref D], []⟩, [(j, D, tupO [.str K tk, .str V tv], none)], fun T _ => .ok (.ret (.str (joinKV K V) T)), fun _ => [], 1⟩
theorem ok_join2 {X : Cx} {j : Nat} {D : Addr} {t : Tok} {K V : Str} {tk tv : Tok} (hz : K.length + V.length ≤ 1000) : HookOk X (hkJoin2 j D t K tk V tv) := by
  refine hook_ok (v := fun T _ => .str (joinKV K V) T) fun A Q E s _ _ hp hq => ?_
  obtain ⟨hd, _⟩ := hp
  have he : emp.length = 0 := rfl
  have hok' := joinOk_of (sep := emp) (h := (by simp [he]; omega : (([K, V] : List Str).map (·.length)).sum + ([K, V] : List Str).length * emp.length ≤ 16777216))
  unfold JoinOk at hok'
  rw [Bool.not_eq_true'] at hok'
  exact call_meets F.slot_str_join (typeIs_str _ _ _) F.entry_str_join (F.args_str_join_2 _ _) (meets_str_join_tuple emp t D [(K, tk), (V, tv)] hok') ⟨⟨_, 0, hd, rfl, rfl⟩, ⟨joinFit_length hok', hq⟩⟩
noncomputable def optFlow (o : Option Value) : Flow := match o with
  | some v => .ret v
  | none => .brk
noncomputable def pnT (v : Value) : Sem Fin := PySem.W.R.bindR (PySem.W.Fast.tw9404975358583537561 v) fun o => .pure (.done (optFlow o))
theorem pnT_eq (v : Value) : (pyNext v >>= fun o => Pure.pure (Fin.done (optFlow o))) = pnT v := by
  unfold pnT
  rw [← PySem.W.R.bindR_eq, ← PySem.W.Fast.te9404975358583537561]
  rfl
theorem WA.next {prog : Program} {w : World} {Γ : PySem.Ctx} {v : Value} {Q : Option Value → Shared → Prop} {E : Value → Shared → Prop} {env : List Ent} {gl : List GenState} {N T : Nat} {h : Heap} {d : Drawn} {ox : OsState}
    (H : ∀ p, Means (model prog w) (PostR fun r s' => match r with | .ok (.ret v) => Q (some v) s' | .ok .brk => Q none s' | .ok _ => False | .error e => E e s') ⟨Γ, p, pnT v, [], env, gl, N, 0, T, 0, [], [], []⟩ h d ox) : WA (model prog w) Γ (pyNext v) Q E ⟨h, ⟨gl⟩, d, T, ox⟩ := fun p => by
  obtain ⟨e, s', r, q⟩ := H p
  cases e with
  | susp => exact q.elim
  | ret r' =>
    have z := (Sem.wp_iff_runs (M := model prog w) (Γ := Γ) (pnT v) (fun r s' => match r with | .ok (.ret v) => Q (some v) s' | .ok .brk => Q none s' | .ok _ => False | .error e => E e s') p ⟨h, ⟨gl⟩, d, T, ox⟩).mpr ⟨r', s', r, q⟩
    rw [← pnT_eq, Sem.wp_bind'] at z
    refine Sem.wp_mono _ _ _ (fun o p' s' q => ?_) (fun _ _ _ q => q) _ _ z
    rw [Sem.wp_pure'] at q
    cases o <;> exact q
end
end Mine

namespace Mine
noncomputable section
open PySem PySem.W PySem.W.X
set_option maxHeartbeats 4000000
noncomputable def cacheO : Obj := ⟨.none, none, .fields ⟨[]⟩, #[]⟩
noncomputable def genO (gi : Int) (v1 v2 : Value) : Obj := ⟨.type "generator", none, .fields ⟨[.int gi 0, v1, v2]⟩, #[]⟩
structure SsA where
  (L0 pl dd : Nat)
  (p0 p1 pn p : Pos)
  ps : List Value
  (np N T : Nat)
noncomputable def belowSs (w : World) (A : SsA) : List (Code × Pos) := (.builtin "str.__new__" ⟨[.type "str", .ref (A.pl+292)], []⟩, A.pn) :: (.builtin "type.__call__" ⟨[.type "str", .ref (A.pl+292)], []⟩, A.p1) :: belowLaw w (A.L0+292) A.p0
noncomputable def rSs0 (w : World) (b1 b2 : Bool) (A : SsA) : Option St :=
  run (XX w b1 b2 tb []) [0, 0, 1, 1, 0, 0, 0, 1, 2, 0, 0, 0, 2, 0, 0, 0, 0, 2, 0, 0, 1, 0, 0, 4, 7, 7, 7, 0, 0, 1, 1] (begin (ctxIn (.call (.ref 227) ⟨[.ref (A.pl+292)], []⟩) (belowSs w A)) A.p [⟨A.pl+292, pileO (A.dd+292) A.ps A.np, false⟩, ⟨222, cacheO, true⟩] [] A.N A.T)
noncomputable def ctxO : Option St → Ctx
  | some s => ctxOf s
  | none => ⟨.builtin "" {}, none, none, [], none⟩
noncomputable def glO : Option St → List GenState
  | some s => s.gl
  | none => []
noncomputable def shapeG : Option Ent → Option (Addr × Option (Value × Option Addr × Array (Option Value) × Option Value × Nat))
  | none => none
  | some e => some (e.a, match e.o.data with
    | .fields vs => some (e.o.cls, e.o.dict, e.o.slots, vs.toList.head?, vs.toList.length)
    | _ => none)
theorem list3 {A : Type} {l : List A} {x : A} (h1 : l.head? = some x) (h2 : l.length = 3) : ∃ v1 v2, l = [x, v1, v2] := by
  cases l with
  | nil => cases h1
  | cons a l =>
    cases l with
    | nil => exact absurd h2 (by simp)
    | cons b l =>
      cases l with
      | nil => exact absurd h2 (by simp)
      | cons c l =>
        cases l with
        | nil => exact ⟨b, c, by rw [Option.some.inj h1]⟩
        | cons d l => exact absurd h2 (by simp)
theorem shapeG_ok {e : Option Ent} {a : Addr} {gi : Int} (h : shapeG e = some (a, some (.type "generator", none, #[], some (.int gi 0), 3))) : ∃ v1 v2 own, e = some ⟨a, genO gi v1 v2, own⟩ := by
  cases e with
  | none => cases h
  | some e =>
    obtain ⟨a', ⟨c', d', dt, sl'⟩, own⟩ := e
    simp only [shapeG, Option.some.injEq, Prod.mk.injEq] at h
    obtain ⟨rfl, h⟩ := h
    cases dt with
    | fields vs =>
      simp only [Option.some.injEq, Prod.mk.injEq] at h
      obtain ⟨rfl, rfl, rfl, h1, h2⟩ := h
      obtain ⟨l⟩ := vs
      obtain ⟨v1, v2, e⟩ := list3 (l := l) h1 h2
      exact ⟨v1, v2, own, by rw [e]; rfl⟩
    | _ => cases h
noncomputable def cachedO (vs : Array Value) : Obj := ⟨.none, none, .fields vs, #[]⟩
noncomputable def shapeC : Option Ent → Option (Addr × Bool)
  | none => none
  | some e => some (e.a, match e.o with
    | ⟨.none, none, .fields _, sl⟩ => sl.isEmpty
    | _ => false)
theorem shapeC_ok {e : Option Ent} {a : Addr} (h : shapeC e = some (a, true)) : ∃ vs own, e = some ⟨a, cachedO vs, own⟩ := by
  cases e with
  | none => cases h
  | some e =>
    obtain ⟨a', ⟨c', d', dt, sl'⟩, own⟩ := e
    simp only [shapeC, Option.some.injEq, Prod.mk.injEq] at h
    obtain ⟨rfl, h⟩ := h
    split at h
    · rename_i heq
      cases heq
      have : sl' = #[] := by simpa using h
      subst this
      exact ⟨_, _, rfl⟩
    · cases h
theorem ss_seg0 (w : World) (b1 b2 : Bool) (A : SsA) : let o := rSs0 w b1 b2 A
    seen (fun env => (shapeG (nth env 0), shape (nth env 1), nth env 5, shapeC (nth env 8))) o = some (toldA o, toldC o, toldO o, .call (.call (.builtin "str.join") ⟨[.str emp 507, .ref (A.N+298)], []⟩), ctxIn (.call (.builtin "str.join") ⟨[.str emp 507, .ref (A.N+298)], []⟩) (ctxO o).below,
      (some (A.N+298, some (.type "generator", none, #[], some (.int 0 0), 3)), some (A.N+297, some (.type "frame", none, #[], [(some (nm ".0"), .ref (A.N+293))])), some ⟨A.N+293, iterO (A.pl+292) 0, true⟩, some (222, true)), glO o, toldM o, toldI o, flatO o) := by
  cases b1 <;> kernel_rfl
structure SxA where
  (S C it tp : Nat)
  (pj p : Pos)
  i : Nat
  accs : List Value
  na : Nat
  es : List DictEntry
  ne : Nat
  (v1 v2 : Value)
  (K V : Str)
  (tk tv : Tok)
  (N T : Nat)
noncomputable def ctxSx (w : World) (b1 b2 : Bool) (A : SsA) (S : Nat) (pj : Pos) : Ctx := ctxIn (.builtin "list.extend.loop" ⟨[.ref (S+292), .ref (A.N+298), .ref (S+292)], []⟩) ((.builtin "str.join" ⟨[.str emp 507, .ref (A.N+298)], []⟩, pj) :: (ctxO (rSs0 w b1 b2 A)).below)
noncomputable def stSx (w : World) (b1 b2 : Bool) (A : SsA) (B : SxA) (gl : List GenState) : St :=
  ⟨ctxSx w b1 b2 A B.S B.pj, B.p, pnT (.ref (A.N+298)), [], [⟨A.N+298, genO 0 B.v1 B.v2, false⟩, ⟨A.N+297, frameO B.es B.ne, true⟩, ⟨A.N+293, iterO (A.pl+292) B.i, true⟩, ⟨A.pl+292, pileO (A.dd+292) A.ps A.np, false⟩, ⟨B.tp+292, tupO [.str B.K B.tk, .str B.V B.tv], false⟩], gl, B.N, 0, B.T, 0, [], [], []⟩
noncomputable def gsE (f : Bool) (A : SsA) (z : Zs) : List DictEntry := match f with
  | true => [⟨z.h1, .str (nm ".0") z.k1, .ref (A.N+293)⟩]
  | false => [⟨z.h1, .str (nm ".0") z.k1, .ref (A.N+293)⟩, ⟨z.h2, .str (nm "fws") z.k2, z.v4⟩, ⟨z.h3, .str (nm "part") z.k3, z.v5⟩]
noncomputable def xSx (w : World) (b1 b2 : Bool) (A : SsA) (B : SxA) : Cx :=
  XX w b1 b2 tb [hkNextP 2 3 (A.N+293) (A.pl+292) (A.dd+292) A.ps A.np B.i (.ref (B.tp+292)), hkJoin2 0 (B.N+295) 507 B.K B.tk B.V B.tv]
noncomputable def sxOrT : List Nat := [1, 0, 1, 0, 1, 0, 0, 3, 1, 3, 5, 5, 5, 0, 5, 0, 1, 1, 0, 1, 0, 1, 1, 6, 1, 1, 1, 0, 1, 0, 1, 1, 6, 1, 1, 1, 0, 1, 0, 1, 1, 6, 1, 1, 1, 5, 5, 5, 5, 0, 5, 5, 2]
noncomputable def sxOr (b2 : Bool) : List Nat := match b2 with
  | true => sxOrT
  | false => [1, 0, 1, 0, 1, 0, 3, 3, 0, 3, 0, 3, 0, 3, 1, 3, 5, 5, 5, 0, 5, 0, 1, 1, 0, 1, 0, 1, 1, 6, 1, 1, 1, 0, 1, 0, 1, 1, 6, 1, 1, 1, 0, 1, 0, 1, 1, 6, 1, 1, 1, 5, 5, 5, 5, 0, 5, 5, 2]
noncomputable def rSx0 (w : World) (b1 b2 : Bool) (A : SsA) (B : SxA) : Option St :=
  run (xSx w b1 b2 A B) (sxOr b2) (stSx w b1 b2 A B (glO (rSs0 w b1 b2 A)))
noncomputable def sx0 : SxA := ⟨0, 0, 0, 0, default, default, 0, [], 0, [], 0, .none, .none, emp, emp, 0, 0, 0, 0⟩
noncomputable def glS (w : World) (b1 b2 : Bool) (A : SsA) : List GenState := glO (rSx0 w b1 b2 A { sx0 with es := gsE true A zs0 })
theorem gs_seg0 (w : World) (b1 b2 : Bool) (A : SsA) (B : SxA) (z : Zs) : let o := rSx0 w b1 b2 A { B with es := gsE true A z }
    seen (fun env => (nth env 4, shape (nth env 5), nth env 6)) o = some (toldA o, toldC o, toldO o, .done (.ret (.str (joinKV B.K B.V) (B.T+2))), ctxSx w b1 b2 A B.S B.pj,
      (some ⟨A.N+298, genO 0 B.v1 B.v2, false⟩, some (A.N+297, some (.type "frame", none, #[], [(some (nm ".0"), .ref (A.N+293)), (some (nm "fws"), .str B.K B.tk), (some (nm "part"), .str B.V B.tv)])), some ⟨A.N+293, iterO (A.pl+292) (B.i+1), true⟩), glS w b1 b2 A, toldM o, toldI o, true) := by
  cases b1 <;> cases b2 <;> kernel_rfl
theorem gs_seg1 (w : World) (b1 b2 : Bool) (A : SsA) (B : SxA) (z : Zs) : let o := run (xSx w b1 b2 A B) sxOrT (stSx w b1 b2 A { B with es := gsE false A z } (glS w b1 b2 A))
    seen (fun env => (nth env 4, shape (nth env 5), nth env 6)) o = some (toldA o, toldC o, toldO o, .done (.ret (.str (joinKV B.K B.V) (B.T+2))), ctxSx w b1 b2 A B.S B.pj,
      (some ⟨A.N+298, genO 0 B.v1 B.v2, false⟩, some (A.N+297, some (.type "frame", none, #[], [(some (nm ".0"), .ref (A.N+293)), (some (nm "fws"), .str B.K B.tk), (some (nm "part"), .str B.V B.tv)])), some ⟨A.N+293, iterO (A.pl+292) (B.i+1), true⟩), glS w b1 b2 A, toldM o, toldI o, true) := by
  cases b1 <;> cases b2 <;> kernel_rfl
theorem gs_end (w : World) (b1 b2 : Bool) (A : SsA) (B : SxA) (z : Zs) : let o := run (XX w b1 b2 tb [hkEndP 2 3 (A.N+293) (A.pl+292) (A.dd+292) A.ps A.np B.i]) [1, 0, 1, 0, 1, 0, 0, 3, 1, 1, 1] (stSx w b1 b2 A { B with es := gsE false A z } (glS w b1 b2 A))
    seen (fun env => ()) o = some (toldA o, toldC o, toldO o, .done .brk, ctxSx w b1 b2 A B.S B.pj, (), [.finished], toldM o, toldI o, true) := by
  cases b1 <;> cases b2 <;> kernel_rfl
theorem ss_call (w : World) (b1 b2 : Bool) (A : SsA) (p : Pos) (v1 v2 : Value) (gl : List GenState) (N T : Nat) : let o := run (XX w b1 b2 tb []) [] (begin (ctxIn (.call (.builtin "str.join") ⟨[.str emp 507, .ref (A.N+298)], []⟩) (ctxO (rSs0 w b1 b2 A)).below) p [⟨A.N+298, genO 0 v1 v2, false⟩] gl N T)
    seen (fun env => ()) o = some (toldA o, toldC o, toldO o, .again (.builtin "str.join" ⟨[.str emp 507, .ref (A.N+298)], []⟩), ctxIn (.builtin "str.join" ⟨[.str emp 507, .ref (A.N+298)], []⟩) (ctxO (rSs0 w b1 b2 A)).below, (), gl, toldM o, toldI o, true) := by
  cases b1 <;> kernel_rfl
theorem ss_done (w : World) (b1 b2 : Bool) (A : SsA) (x : Str) (t : Tok) (gl : List GenState) (N T : Nat) : let o := run (XX w b1 b2 tb []) [] (resumeO (rSs0 w b1 b2 A) (.ok (.ret (.str x t))) [] gl N T)
    seen (fun env => ()) o = some (toldA o, toldC o, toldO o, .done (.ret (.str x t)), ctxIn (fcode w 227 (A.N+292)) (belowSs w A), (), gl, toldM o, toldI o, true) := by
  cases b1 <;> kernel_rfl
end
end Mine

namespace Mine
noncomputable section
open PySem PySem.W PySem.W.X PySem.Calls PyProof.Rows Builtin Builtin.Str Builtin.Int
theorem WA.runValue {M : Model} {Γ : PySem.Ctx} {c : Code} {Q : Value → Shared → Prop} {E : Value → Shared → Prop} {s : Shared}
    (h : ∀ p, wpCode M (Γ.enter c none p) (fun r s' => match r with | .ok (.ret v) => Q v s' | .ok _ => False | .error e => E e s') p s) : WA M Γ (runValue c) Q E s := fun p => by
  unfold PySem.runValue
  rw [Sem.wp_bind']
  unfold PySem.run
  rw [Sem.wp_call]
  refine wpCode_mono (fun r s' q => ?_) (h p)
  cases r with
  | error e => rw [Sem.wp_raise]; exact q
  | ok fl =>
    rw [Sem.wp_pure]
    cases fl with
    | ret v => rw [Sem.wp_pure']; exact q
    | next => exact q.elim
    | brk => exact q.elim
    | cont => exact q.elim
theorem strs_values : ∀ {vs : List Value} {xs : List Str}, All2 StrV vs xs → ∃ l : List (Str × Tok), strValues l = vs ∧ l.map (·.1) = xs
  | [], [], _ => ⟨[], rfl, rfl⟩
  | v :: vs, x :: xs, q => by
    obtain ⟨l, e1, e2⟩ := strs_values q.2
    obtain ⟨t, rfl⟩ := q.1
    exact ⟨(x, t) :: l, by rw [← e1]; rfl, by rw [← e2]; rfl⟩
  | [], _ :: _, q => q.elim
  | _ :: _, [], q => q.elim
theorem join_gen {prog : Program} {w : World} {below : List (Code × Pos)} {R : Result → Shared → Prop} {p : Pos} {h : Heap} {gl : Array GenState} {d : Drawn} {T : Nat} {ox : OsState} {g : Addr} {gi : Nat} {sep : Str} {t : Tok} (hgen : h.IsGen g gi)
    (K : ∀ p1 h' p' n, Ext [] h h' → h'.objs.size = h.objs.size + 1 → h'.get? h.objs.size = some (listO [] n) → wpCode (model prog w) (ctxIn (.builtin "list.extend.loop" ⟨[.ref h.objs.size, .ref g, .ref h.objs.size], []⟩) ((.builtin "str.join" ⟨[.str sep t, .ref g], []⟩, p1) :: below))
      (fun r s' => ∃ accs na xs, r = .ok (.ret (.ref h.objs.size)) ∧ s'.heap.get? h.objs.size = some (listO accs na) ∧ All2 StrV accs xs ∧ (xs.map (·.length)).sum + xs.length * sep.length ≤ 16777216 ∧ ∀ t' k, R (.ok (.ret (.str (Txt.join sep xs) t'))) { s' with toks := k }) p' ⟨h', gl, d, T, ox⟩) :
    wpCode (model prog w) (ctxIn (.builtin "str.join" ⟨[.str sep t, .ref g], []⟩) below) R p ⟨h, gl, d, T, ox⟩ := by
  obtain ⟨o, nm', qn, hg, hc, _, _⟩ := id hgen
  refine code_of_builtin F.entry_str_join ?_
  rw [join_tree_other]
  have hT : (⟨h, gl, d, T, ox⟩ : Shared).TypeIs (.ref g) "generator" := ⟨o, hg, hc⟩
  refine WA.bind (WA.any (wpAny_typeOf hT ?_))
  show WA _ _ ((pyIter (.ref g)).tryCatch _ >>= fun it => collect it >>= fun items => joinTail sep items) _ _ _
  refine WA.bind (WA.any (wpAny_tryCatch (wpAny_pyIter_gen hgen ?_)))
  refine WA.bind ?_
  unfold collect
  refine WA.bind (WA.runValue fun p1 => ?_)
  refine collect_gen hg hc hgen fun h' p' n E hs hl => wpCode_mono (fun r s' q => ?_) (K p1 h' p' n E hs hl)
  obtain ⟨accs, na, xs, rfl, hl', hv, hfit, hR⟩ := q
  obtain ⟨l, rfl, rfl⟩ := strs_values hv
  show WA _ _ (load h.objs.size >>= _) _ _ s'
  refine WA.bind (WA.any (wpAny_load hl' ?_))
  refine WA.pure ?_
  have hok' := joinOk_of hfit
  unfold JoinOk at hok'
  rw [Bool.not_eq_true'] at hok'
  have gg : Gives (joinTail sep (strValues l)) (joinMade sep l) := by
    have g0 := gives_joinTail sep l hok'
    cases l with
    | nil => exact g0
    | cons p r => cases r with
      | nil => exact g0
      | cons q r' => exact g0
  have hB : (ctxIn (.builtin "str.join" ⟨[.str sep t, .ref g], []⟩) below).Below { handled := (ctxIn (.builtin "str.join" ⟨[.str sep t, .ref g], []⟩) below).handled, depth := frameCount below, frames := none, guards := none, units := unitsOf below } := ⟨rfl, Nat.le_refl _, fun _ h => (nomatch h), fun _ h => (nomatch h), Nat.le_refl _⟩
  intro p2
  have hin := hB.in
  rw [show (ctxIn (.builtin "str.join" ⟨[.str sep t, .ref g], []⟩) below).code = .builtin "str.join" ⟨[.str sep t, .ref g], []⟩ from rfl, Around.under_plainId F.slot_str_join.plain] at hin
  refine Sem.wp_mono _ _ _ (fun fin p' s'' q p3 => ?_) (fun _ _ _ q => q) p2 s' (gg prog w _ R s' (post_join l ⟨joinFit_length hok', hR⟩) _ p2 hin)
  cases fin with
  | done f => exact q
  | again c' => exact ⟨q.1, q.2 (Ctx.goto _ c') p3 rfl (hB.goto c')⟩
end
end Mine

namespace Mine
noncomputable section
open PySem PySem.W PySem.W.X PySem.Calls PyProof.Rows
set_option maxHeartbeats 4000000
theorem extend_step {prog : Program} {w : World} {below : List (Code × Pos)} {R : Result → Shared → Prop} {p : Pos} {h : Heap} {gl : List GenState} {env : List Ent} {N : Nat} {d : Drawn} {T : Nat} {ox : OsState} {S : Addr} {v : Value}
    (H : ∀ p, Means (model prog w) (PostR fun r s' => match r with
      | .ok (.ret x) => ∃ accs na, s'.heap.get? S = some (listO accs na) ∧ accs.length ≤ 900 ∧ ∀ p' h' na', Ext [S] s'.heap h' → h'.objs.size = s'.heap.objs.size → h'.get? S = some (listO (accs ++ [x]) na') → wpCode (model prog w) (ctxIn (.builtin "list.extend.loop" ⟨[.ref S, v, .ref S], []⟩) below) R p' { s' with heap := h' }
      | .ok .brk => R (.ok (.ret (.ref S))) s'
      | .ok _ => False
      | .error e => R (.error e) s') ⟨ctxIn (.builtin "list.extend.loop" ⟨[.ref S, v, .ref S], []⟩) below, p, pnT v, [], env, gl, N, 0, T, 0, [], [], []⟩ h d ox) :
    wpCode (model prog w) (ctxIn (.builtin "list.extend.loop" ⟨[.ref S, v, .ref S], []⟩) below) R p ⟨h, ⟨gl⟩, d, T, ox⟩ := by
  refine code_of_builtin F.entry_extend_loop ?_
  show WA _ _ (pyNext v >>= _) _ _ _
  refine WA.bind (WA.next (env := env) (N := N) fun p1 => ?_)
  obtain ⟨e, s', rr, q⟩ := H p1
  refine ⟨e, s', rr, ?_⟩
  cases e with
  | susp => exact q
  | ret r =>
    cases r with
    | error e => exact q
    | ok f =>
      cases f with
      | ret x =>
        obtain ⟨accs, na, hS, hl, K⟩ := q
        show WA _ _ (updateSeq S (·.push x) >>= _) _ _ s'
        refine WA.bind (WA.any (wpAny_updateSeq hS rfl ?_ (by rw [sizeL]; show accs.length ≤ _; omega) (by rw [sizeL]; show (Array.push ⟨accs⟩ x).size ≤ _; simp; omega)))
        refine WA.pure fun p2 => ⟨plainId_quiet F.plain_extend_loop _, ?_⟩
        have s1 : Heap.SameBut S s'.heap (s'.heap.update S (Obj.mapSeq (·.push x))) := Heap.SameBut.update ..
        have hS' := Heap.get?_update_self (Obj.mapSeq (·.push x)) hS rfl
        refine K p2 _ (na + 1) ⟨fun b o e hb => (s1.2 b (by simpa using hb)).trans e, Nat.le_of_eq s1.1.symm⟩ s1.1 (hS'.trans ?_)
        simp [Obj.mapSeq, listO]
      | brk => exact WA.pure fun p2 => q
      | next => exact q.elim
      | cont => exact q.elim
theorem join_kv (K V : Str) : joinKV K V = Str.join emp [K, V] := by
  show Builtin.Str.glued emp [K, V] = _
  rw [StrLaws.glued_eq_join]
theorem join_kv_len (K V : Str) : (joinKV K V).length ≤ K.length + V.length := by
  rw [join_kv]
  refine Nat.le_trans (StrLaws.join_length_le _ _) ?_
  show [K.length, V.length].sum + 2 * 0 ≤ _
  simp
theorem kv_sum {xs : List (Str × Str)} (hx : ∀ x ∈ xs, x.1.length + x.2.length ≤ 1000) : ((xs.map fun x => joinKV x.1 x.2).map (·.length)).sum ≤ xs.length * 1000 := by
  induction xs with
  | nil => exact Nat.zero_le _
  | cons x xs ih =>
    have h1 := ih fun y hy => hx y (.tail _ hy)
    have h2 := join_kv_len x.1 x.2
    have h3 := hx x (.head _)
    simp only [List.map_cons, List.sum_cons, List.length_cons, Nat.add_mul]
    omega
theorem gsE_of {A : SsA} {es : List DictEntry} {f : Bool} {v4 v5 : Value} (h : kvs es = match f with | true => [(some (nm ".0"), .ref (A.N+293))] | false => [(some (nm ".0"), .ref (A.N+293)), (some (nm "fws"), v4), (some (nm "part"), v5)]) : ∃ z, es = gsE f A z := by
  cases f with
  | true =>
    obtain ⟨z1, k1, r1, rfl, h1⟩ := kvs_cons h
    cases kvs_nil h1
    exact ⟨⟨z1, 0, 0, 0, 0, 0, k1, 0, 0, 0, 0, 0, .none, .none, .none⟩, rfl⟩
  | false =>
    obtain ⟨z1, k1, r1, rfl, h1⟩ := kvs_cons h
    obtain ⟨z2, k2, r2, rfl, h2⟩ := kvs_cons h1
    obtain ⟨z3, k3, r3, rfl, h3⟩ := kvs_cons h2
    cases kvs_nil h3
    exact ⟨⟨z1, z2, z3, 0, 0, 0, k1, k2, k3, 0, 0, 0, v4, v5, .none⟩, rfl⟩
theorem str_call (w : World) (b1 b2 : Bool) (L0 pl dd : Nat) (p0 p1 pn p : Pos) (ps : List Value) (np T : Nat) (xs : List (Str × Str)) (d : Drawn) (ox : OsState) (R : Result → Shared → Prop) (h : Heap)
    (hz : ps.length ≤ 900) (hne : xs ≠ []) (hx : ∀ x ∈ xs, x.1.length + x.2.length ≤ 1000) (G : Glob (XX w b1 b2 tb []) h) (fpl : h.get? (pl+292) = some (pileO (dd+292) ps np)) (f222 : h.get? 222 = some cacheO) (hps : All2 (PieceV h) ps xs)
    (K : ∀ h' T' t vs, Ext [222] h h' → h'.get? 222 = some (cachedO vs) → R (.ok (.ret (.str (Txt.join emp (xs.map fun x => joinKV x.1 x.2)) t))) ⟨h', ⟨[.finished]⟩, d, T', ox⟩) :
    wpCode (model PySem.Challenge.pw_pe0217_01 (setW w b1 b2)) (ctxIn (.call (.ref 227) ⟨[.ref (pl+292)], []⟩) ((.builtin "str.__new__" ⟨[.type "str", .ref (pl+292)], []⟩, pn) :: (.builtin "type.__call__" ⟨[.type "str", .ref (pl+292)], []⟩, p1) :: belowLaw w (L0+292) p0)) R p ⟨h, ⟨[]⟩, d, T, ox⟩ := by
  obtain ⟨N, hN⟩ := le_size fpl (Nat.le_add_left _ _)
  have lpl := lt_of_get fpl hN
  let A : SsA := ⟨L0, pl, dd, p0, p1, pn, p, ps, np, N, T⟩
  have hlen : xs.length = ps.length := hps.length.symm
  refine code_of_means (X := XX w b1 b2 tb []) (N := N) (means_of_cut (ss_seg0 w b1 b2 A) trivial ⟨by rw [hN]; rfl, allE ⟨fpl, f222, trivial⟩, ?_, ?_, G⟩ fun h1 T1 st1 hrun1 hV1 D1 E1 => ?_)
  · simp [begin, A]
  · simp [begin, tb]
  obtain ⟨u0, u1, u5, u8⟩ := pr4 hV1
  obtain ⟨v1, v2, ow0, e0⟩ := shapeG_ok u0
  obtain ⟨es1, nL1, ow1, e1, hk1⟩ := shape_ok u1
  obtain ⟨vs8, ow8, e8⟩ := shapeC_ok u8
  obtain ⟨z1, rfl⟩ := gsE_of (A := A) (f := true) (v4 := .none) (v5 := .none) hk1
  have E1' : Ext [222] h h1 := E1
  have ggen1 : h1.get? (N+298) = some (genO 0 v1 v2) := D1.at e0
  have gL1 : h1.get? (N+297) = some (frameO (gsE true A z1) nL1) := D1.at e1
  have git1 : h1.get? (N+293) = some (iterO (pl+292) 0) := D1.at u5
  have gc1 : h1.get? 222 = some (cachedO vs8) := D1.at e8
  have gpl1 := E1'.keep _ _ fpl (by kt_eqs)
  have hps1 := pieces_ext E1' (by simp [f222, cacheO, tupO]) hps
  obtain ⟨N1, hN1⟩ := le_size ggen1 (Nat.le_add_left _ _)
  refine code_loop (X0 := XX w b1 b2 tb []) (X := XX w b1 b2 tb []) (N := N1) (own := []) (ss_call w b1 b2 A st1.p v1 v2 _ N1 T1) rfl rfl rfl trivial hN1 D1.glob ⟨ggen1, trivial⟩ ⟨trivial, trivial⟩ ⟨Nat.le_add_left _ _, trivial⟩ rfl fun h2 T2 p2 st2 hV2 D2 E2' hnQ => ?_
  have ggen2 := E2'.keep _ _ ggen1 (by kt_eqs)
  have gL2 := E2'.keep _ _ gL1 (by kt_eqs)
  have git2 := E2'.keep _ _ git1 (by kt_eqs)
  have gpl2 := E2'.keep _ _ gpl1 (by kt_eqs)
  have gc2 := E2'.keep _ _ gc1 (by kt_eqs)
  have hps2 := pieces_ext E2' (by simp) hps1
  obtain ⟨N2, hN2⟩ := le_size ggen2 (Nat.le_add_left _ _)
  have lg := lt_of_get (a := N+6) ggen2 hN2
  refine hnQ ?_
  refine join_gen (gi := 0) ⟨_, v1, v2, ggen2, rfl, rfl, rfl⟩ ?_
  intro pj h3 p3 nS E3 hs3 gS3
  rw [hN2] at gS3 hs3 ⊢
  have ggen3 := E3.keep _ _ ggen2 (by kt_eqs)
  have gL3 := E3.keep _ _ gL2 (by kt_eqs)
  have git3 := E3.keep _ _ git2 (by kt_eqs)
  have gpl3 := E3.keep _ _ gpl2 (by kt_eqs)
  have gc3 := E3.keep _ _ gc2 (by kt_eqs)
  have hps3 := pieces_ext E3 (by simp) hps2
  have G3 := glob_ext E3 (by kt_len) D2.glob
  have tp0 : ∀ {i tp : Nat} {tk tv : Tok} {x : Str × Str} {h' : Heap}, Ext [N+297, N+293, N2+292] h3 h' → xs[i]? = some x → ∃ tp : Nat, ∃ tk tv, ps[i]? = some (.ref (tp+292)) ∧ h'.get? (tp+292) = some (tupO [.str x.1 tk, .str x.2 tv]) := by
    intro i _ _ _ x h' E hi
    have q := pieces_ext E (notupL (by ktr_rel)) hps3
    obtain ⟨v, hv, tp, tk, tv, rfl, qt⟩ := q.get i hi
    exact ⟨tp, tk, tv, hv, qt⟩
  have step : ∀ (fE : Bool) (i : Nat) (z : Zs) (nL : Nat) (accs : List Value) (na : Nat) (gl : List GenState) (RR : Result → Shared → Prop) (h' : Heap) (p' : Pos) (T' : Nat), i < ps.length → (∀ B : SxA, let o := run (xSx w b1 b2 A B) (match fE with | true => sxOr b2 | false => sxOrT) (stSx w b1 b2 A { B with es := gsE fE A z } gl)
        seen (fun env => (nth env 4, shape (nth env 5), nth env 6)) o = some (toldA o, toldC o, toldO o, .done (.ret (.str (joinKV B.K B.V) (B.T+2))), ctxSx w b1 b2 A B.S B.pj,
          (some ⟨A.N+298, genO 0 B.v1 B.v2, false⟩, some (A.N+297, some (.type "frame", none, #[], [(some (nm ".0"), .ref (A.N+293)), (some (nm "fws"), .str B.K B.tk), (some (nm "part"), .str B.V B.tv)])), some ⟨A.N+293, iterO (A.pl+292) (B.i+1), true⟩), glS w b1 b2 A, toldM o, toldI o, true)) →
      Ext [N+297, N+293, N2+292] h3 h' → h'.get? (N+293) = some (iterO (pl+292) i) → h'.get? (N+297) = some (frameO (gsE fE A z) nL) → h'.get? (N2+292) = some (listO accs na) → All2 StrV accs ((xs.take i).map fun x => joinKV x.1 x.2) →
      (∀ h4 T4 p4 z4 nL4 accs4 na4, Ext [N+297, N+293, N2+292] h3 h4 → h4.get? (N+293) = some (iterO (pl+292) (i+1 : Nat)) → h4.get? (N+297) = some (frameO (gsE false A z4) nL4) → h4.get? (N2+292) = some (listO accs4 na4) → All2 StrV accs4 ((xs.take (i+1)).map fun x => joinKV x.1 x.2) → wpCode (model PySem.Challenge.pw_pe0217_01 (setW w b1 b2)) (ctxSx w b1 b2 A N2 pj) RR p4 ⟨h4, ⟨glS w b1 b2 A⟩, d, T4, ox⟩) →
      wpCode (model PySem.Challenge.pw_pe0217_01 (setW w b1 b2)) (ctxSx w b1 b2 A N2 pj) RR p' ⟨h', ⟨gl⟩, d, T', ox⟩ := by
    intro fE i z nL accs na gl RR h' p' T' hi hseg E git gL gS hacc K'
    obtain ⟨x, hxi⟩ : ∃ x, xs[i]? = some x := ⟨xs[i], List.getElem?_eq_getElem (by omega)⟩
    obtain ⟨tp, tk, tv, hv, qt⟩ := tp0 (i := i) (tp := 0) (tk := 0) (tv := 0) E hxi
    have hal : accs.length ≤ i := by rw [hacc.length]; simp; exact Nat.min_le_left _ _
    have hxx := hx x (List.mem_of_getElem? hxi)
    have ggen := E.keep _ _ ggen3 (by kt_eqs)
    have gpl := E.keep _ _ gpl3 (by kt_eqs)
    obtain ⟨N', hN'⟩ := le_size ggen (Nat.le_add_left _ _)
    have l1 := lt_of_get (a := N+6) ggen hN'
    refine extend_step (env := [⟨N+298, genO 0 v1 v2, false⟩, ⟨N+297, frameO (gsE fE A z) nL, true⟩, ⟨N+293, iterO (pl+292) i, true⟩, ⟨pl+292, pileO (dd+292) ps np, false⟩, ⟨tp+292, tupO [.str x.1 tk, .str x.2 tv], false⟩]) (N := N') fun p5 => ?_
    let B : SxA := ⟨N2, 0, 0, tp, pj, p5, i, accs, na, gsE fE A z, nL, v1, v2, x.1, x.2, tk, tv, N', T'⟩
    refine means_of_done (X := xSx w b1 b2 A B) (hseg B) ⟨hkNextP_ok (by simpa using hv), ok_join2 (by omega), trivial⟩ (on_dif hN' (glob_ext E (by kt_len) G3) ⟨ggen, gL, git, gpl, qt, trivial⟩ ?_ ?_) fun h4 T4 st4 hV4 D4 E4 => ?_
    · ktd_rel
    · kt_len
    obtain ⟨q4, q5, q6⟩ := pr3 hV4
    obtain ⟨es4, nL4, ow4, e4, hk4⟩ := shape_ok q5
    obtain ⟨z4, rfl⟩ := gsE_of (A := A) (f := false) hk4
    have E4' : Ext [N+297, N+293] h' h4 := E4
    have gS4 := E4'.keep _ _ gS (by kt_eqs)
    refine ⟨accs, na, gS4, by omega, fun p6 h6 na6 E6 hs6 g6 => ?_⟩
    have g41 : h4.get? (N+293) = some (iterO (pl+292) (i+1 : Nat)) := D4.at q6
    have g42 : h4.get? (N+297) = some (frameO (gsE false A z4) nL4) := D4.at e4
    have g61 := E6.keep _ _ g41 (by kt_eqs)
    have g62 := E6.keep _ _ g42 (by kt_eqs)
    refine K' h6 T4 p6 z4 nL4 (accs ++ [.str (joinKV x.1 x.2) (T'+2)]) na6 (((E.trans E4').trans E6).drop (by kt_ors)) g61 g62 g6 ?_
    rw [List.take_add_one, hxi, Option.toList_some, List.map_append]
    exact hacc.snoc ⟨_, rfl⟩
  have hps0 : 0 < ps.length := by rw [← hlen]; exact List.length_pos_iff.mpr hne
  refine step true 0 z1 nL1 [] nS _ _ h3 p3 T2 hps0 (fun B => gs_seg0 w b1 b2 A B z1) (Ext.refl _ _) git3 gL3 gS3 trivial ?_
  intro h4 T4 p4 z4 nL4 accs4 na4 E4 git4 gL4 gS4 hacc4
  refine loop0 (fun k h' => Ext [N+297, N+293, N2+292] h3 h' ∧ h'.get? (N+293) = some (iterO (pl+292) (k+1 : Nat)) ∧ (∃ z nL, h'.get? (N+297) = some (frameO (gsE false A z) nL)) ∧ ∃ accs na, h'.get? (N2+292) = some (listO accs na) ∧ All2 StrV accs ((xs.take (k+1)).map fun x => joinKV x.1 x.2)) (ps.length - 1)
    ⟨E4, git4, ⟨z4, nL4, gL4⟩, accs4, na4, gS4, hacc4⟩ ?_ ?_
  · rintro k hk p5 T5 h5 ⟨E5, git5, ⟨z5, nL5, gL5⟩, accs5, na5, gS5, hacc5⟩ K'
    exact step false (k+1) z5 nL5 accs5 na5 _ _ h5 p5 T5 (by omega) (fun B => gs_seg1 w b1 b2 A B z5) E5 git5 gL5 gS5 hacc5 fun h6 T6 p6 z6 nL6 accs6 na6 E6 git6 gL6 gS6 hacc6 => K' p6 T6 h6 ⟨E6, git6, ⟨z6, nL6, gL6⟩, accs6, na6, gS6, hacc6⟩
  · rintro p5 T5 h5 ⟨E5, git5, ⟨z5, nL5, gL5⟩, accs5, na5, gS5, hacc5⟩
    have ggen5 := E5.keep _ _ ggen3 (by kt_eqs)
    have gpl5 := E5.keep _ _ gpl3 (by kt_eqs)
    obtain ⟨N5, hN5⟩ := le_size ggen5 (Nat.le_add_left _ _)
    have hnn : ps.length - 1 + 1 = ps.length := by omega
    rw [hnn] at git5 hacc5
    rw [List.take_of_length_le (by omega)] at hacc5
    obtain ⟨x, hxi⟩ : ∃ x, xs[0]? = some x := ⟨xs[0], List.getElem?_eq_getElem (by omega)⟩
    obtain ⟨tp, tk, tv, hv, qt⟩ := tp0 (i := 0) (tp := 0) (tk := 0) (tv := 0) E5 hxi
    refine extend_step (env := [⟨N+298, genO 0 v1 v2, false⟩, ⟨N+297, frameO (gsE false A z5) nL5, true⟩, ⟨N+293, iterO (pl+292) ps.length, true⟩, ⟨pl+292, pileO (dd+292) ps np, false⟩, ⟨tp+292, tupO [.str x.1 tk, .str x.2 tv], false⟩]) (N := N5) fun p6 => ?_
    let B : SxA := ⟨N2, 0, 0, tp, pj, p6, ps.length, [], 0, gsE false A z5, nL5, v1, v2, x.1, x.2, tk, tv, N5, T5⟩
    refine means_of_done (X := XX w b1 b2 tb [hkEndP 2 3 (N+293) (pl+292) (dd+292) ps np ps.length]) (gs_end w b1 b2 A B z5) ⟨hkEndP_ok (by simp), trivial⟩ (on_dif hN5 (glob_ext E5 (by kt_len) G3) ⟨ggen5, gL5, git5, gpl5, qt, trivial⟩ ?_ ?_) fun h6 T6 st6 hV6 D6 E6 => ?_
    · ktd_rel
    · kt_len
    have E6' : Ext [N+297, N+293] h5 h6 := E6
    have gS6 := E6'.keep _ _ gS5 (by kt_eqs)
    have gc6 : h6.get? 222 = some (cachedO vs8) := E6'.keep _ _ (E5.keep _ _ gc3 (by kt_eqs)) (by simp)
    refine ⟨accs5, na5, _, rfl, gS6, hacc5, ?_, fun t' k => ?_⟩
    · have h1 := kv_sum hx
      show _ + _ * 0 ≤ _
      rw [hlen] at h1
      omega
    obtain ⟨N6, hN6⟩ := le_size gS6 (Nat.le_add_left _ _)
    have total : Ext [222] h h6 := (((((E1'.trans E2').trans E3).trans E5).trans E6')).drop (by kt_ors)
    refine back_done (X0 := XX w b1 b2 tb []) (X := XX w b1 b2 tb []) (own := []) hrun1 (ss_done w b1 b2 A _ t' [.finished] N6 k) rfl rfl rfl trivial hN6 (glob_ext (E5.trans E6') (by kt_len) G3) trivial trivial trivial fun h7 T7 st7 hV7 D7 E7' hnQ => ?_
    refine hnQ ?_
    exact K h7 T7 _ _ ((total.trans E7').drop (by kt_ors)) (E7'.keep _ _ gc6 (by kt_eqs))
end
end Mine

namespace Mine
noncomputable section
open PySem PySem.W PySem.W.X PySem.Calls PyProof.Rows
set_option maxHeartbeats 4000000
theorem WA.try_ {α : Type} {M : Model} {Γ : PySem.Ctx} {m : Sem α} {k : Value → Sem α} {Q : α → Shared → Prop} {E : Value → Shared → Prop} {s : Shared} (h : WA M Γ m Q (fun e s' => WA M Γ (k e) Q E s') s) : WA M Γ (tryCatch m k) Q E s := fun p => by
  rw [Sem.wp_tryCatch']
  exact Sem.wp_mono M Γ m (fun _ _ _ h' => h') (fun e p' s' h' => h' p') p s (h p)
theorem sum_step {prog : Program} {w : World} {below : List (Code × Pos)} {R : Result → Shared → Prop} {p : Pos} {h : Heap} {gl : List GenState} {env : List Ent} {N : Nat} {d : Drawn} {T : Nat} {ox : OsState} {S : Addr} {v : Value} {a : Int} {ta : Tok} {n : Nat} (hS : h.get? S = some (listO [.int a ta] n))
    (H : ∀ p, Means (model prog w) (PostR fun r s' => match r with
      | .ok (.ret x) => ∃ b tb n', x = .int b tb ∧ s'.heap.get? S = some (listO [.int a ta] n') ∧ (0 ≤ a ∧ a ≤ 1000000000) ∧ (0 ≤ b ∧ b ≤ 1000000000) ∧ ∀ p' h' na' ta' k, Ext [S] s'.heap h' → h'.objs.size = s'.heap.objs.size → h'.get? S = some (listO [.int (a+b) ta'] na') → wpCode (model prog w) (ctxIn (.builtin "sum.loop" ⟨[v, .ref S, rawInt 0, rawInt 0], []⟩) below) R p' { s' with heap := h', toks := k }
      | .ok .brk => R (.ok (.ret (.int a ta))) s'
      | .ok _ => False
      | .error e => False) ⟨ctxIn (.builtin "sum.loop" ⟨[v, .ref S, rawInt 0, rawInt 0], []⟩) below, p, pnT v, [], env, gl, N, 0, T, 0, [], [], []⟩ h d ox) :
    wpCode (model prog w) (ctxIn (.builtin "sum.loop" ⟨[v, .ref S, rawInt 0, rawInt 0], []⟩) below) R p ⟨h, ⟨gl⟩, d, T, ox⟩ := by
  refine code_of_builtin F.entry_sum_loop ?_
  show WA _ _ (seqItems? (.ref S) >>= _) _ _ _
  refine WA.bind (WA.any (wpAny_seqItems hS rfl ?_))
  show WA _ _ (tryCatch (pyNext v) _ >>= _) _ _ _
  refine WA.bind (WA.try_ (WA.next (env := env) (N := N) fun p1 => ?_))
  obtain ⟨e, s', rr, q⟩ := H p1
  refine ⟨e, s', rr, ?_⟩
  cases e with
  | susp => exact q
  | ret r =>
    cases r with
    | error e => exact q.elim
    | ok f =>
      cases f with
      | ret x =>
        obtain ⟨b, tb, n', rfl, hS', ha, hb, K⟩ := q
        show WA _ _ (if (_ : Bool) = true then (mkInt (a + b) >>= _) else _) _ _ s'
        have hc : ((decide (-(2 ^ 63) ≤ b) && decide (b < 2 ^ 63)) && (decide (-(2 ^ 63) ≤ a + b) && decide (a + b < 2 ^ 63))) = true := by
          simp only [Bool.and_eq_true, decide_eq_true_eq]
          omega
        split
        · refine WA.bind (WA.any (wpAny_mkInt ?_))
          show WA _ _ (updateSeq S (fun _ => #[.int (a + b) s'.toks]) >>= _) _ _ _
          refine WA.bind (WA.any (wpAny_updateSeq hS' rfl ?_ (by rw [sizeL]; show 1 ≤ _; omega) (by rw [sizeL]; show 1 ≤ _; omega)))
          refine WA.pure fun p2 => ⟨plainId_quiet F.plain_sum_loop _, ?_⟩
          have s1 : Heap.SameBut S s'.heap (s'.heap.update S (Obj.mapSeq (fun _ => #[.int (a + b) s'.toks]))) := Heap.SameBut.update ..
          have hS1 := Heap.get?_update_self (Obj.mapSeq (fun _ => #[.int (a + b) s'.toks])) hS' rfl
          refine K p2 _ n' s'.toks (s'.toks + 1) ⟨fun b o e hb => (s1.2 b (by simpa using hb)).trans e, Nat.le_of_eq s1.1.symm⟩ s1.1 (hS1.trans ?_)
          simp [Obj.mapSeq, listO]
        · rename_i hneg
          exact absurd hc hneg
      | brk => exact WA.pure fun p2 => q
      | next => exact q.elim
      | cont => exact q.elim
theorem sum_gen {prog : Program} {w : World} {below : List (Code × Pos)} {R : Result → Shared → Prop} {p : Pos} {h : Heap} {gl : Array GenState} {d : Drawn} {T : Nat} {ox : OsState} {g : Addr} {gi : Nat} {t : Tok} (hgen : h.IsGen g gi)
    (K : ∀ h' p' T' t' n, Ext [] h h' → h'.objs.size = h.objs.size + 1 → h'.get? h.objs.size = some (listO [.int 0 t'] n) → wpCode (model prog w) (ctxIn (.builtin "sum.loop" ⟨[.ref g, .ref h.objs.size, rawInt 0, rawInt 0], []⟩) below) R p' ⟨h', gl, d, T', ox⟩) :
    wpCode (model prog w) (ctxIn (.builtin "sum" ⟨[.ref g, .int 0 t], []⟩) below) R p ⟨h, gl, d, T, ox⟩ := by
  refine code_of_builtin F.entry_sum ?_
  unfold Builtin.«sum»
  simp only [List.length_cons, List.length_nil]
  rw [if_neg (by decide)]
  refine WA.bind (WA.any (wpAny_of_eq (show Builtin.Builtins.bindParams "sum" ["start"] 0 { pos := [.int 0 t] } = pure [some (.int 0 t)] from rfl) ?_))
  refine WA.bind (WA.any (wpAny_pyIter_gen hgen ?_))
  refine WA.bind (WA.any (wpAny_rule ?_))
  refine WA.bind (WA.any (wpAny_mkInt ?_))
  refine WA.bind (WA.pure ?_)
  simp only [List.forIn_cons, List.forIn_nil]
  refine WA.bind (WA.bind (WA.bind (WA.any (wpAny_isInstance (T := "int") (b := false) (typeIs_int _ _ _) PySem.sub_int_str ?_))))
  simp only [Bool.false_eq_true, if_false]
  refine WA.pure (WA.bind (WA.bind (WA.any (wpAny_isInstance (T := "int") (b := false) (typeIs_int _ _ _) PySem.sub_int_bytes ?_))))
  simp only [Bool.false_eq_true, if_false]
  refine WA.pure (WA.bind (WA.bind (WA.any (wpAny_isInstance (T := "int") (b := false) (typeIs_int _ _ _) PySem.sub_int_bytearray ?_))))
  simp only [Bool.false_eq_true, if_false]
  refine WA.pure (WA.pure ?_)
  refine WA.bind (WA.any (wpAny_newObj_type ?_))
  refine WA.pure fun p2 => ⟨plainId_quiet F.plain_sum_loop _, ?_⟩
  exact K _ p2 _ _ 0 ⟨fun b o e _ => Heap.get?_push_of_some _ e, by rw [Heap.size_push]; exact Nat.le_succ _⟩ (Heap.size_push ..) (Heap.get?_push_size _ rfl)
end
end Mine

namespace Mine
noncomputable section
open PySem PySem.W PySem.W.X
set_option maxHeartbeats 4000000
structure SyA where
  (L0 pl dd : Nat)
  (p0 p1 p : Pos)
  ps : List Value
  np : Nat
  hh : Int
  (kh ti : Tok)
  (nd N T : Nat)
noncomputable def belowSy (w : World) (A : SyA) : List (Code × Pos) := (.builtin "len" ⟨[.ref (A.pl+292)], []⟩, A.p1) :: belowLaw w (A.L0+292) A.p0
noncomputable def rSy0 (w : World) (b1 b2 : Bool) (A : SyA) : Option St :=
  run (XX w b1 b2 tb []) [0, 0, 1, 1, 0, 0, 0, 0, 1, 2, 0, 0, 0, 2, 0, 0, 0, 0, 2, 0, 0, 1, 0, 0, 5, 8, 8, 8, 0, 0, 1, 1, 7, 8, 0, 0, 0, 0, 0, 0, 0, 8, 0, 0, 8, 0, 0, 0, 8, 8, 0, 9] (begin (ctxIn (.call (.ref 220) ⟨[.ref (A.pl+292)], []⟩) (belowSy w A)) A.p [⟨A.pl+292, pileO (A.dd+292) A.ps A.np, false⟩, ⟨A.dd+292, dictO [⟨A.hh, .str (nm "_initial_size") A.kh, .int 0 A.ti⟩] A.nd, false⟩, ⟨215, cacheO, true⟩] [.finished] A.N A.T)
theorem sy_seg0 (w : World) (b1 b2 : Bool) (A : SyA) : let o := rSy0 w b1 b2 A
    seen (fun env => (shapeG (nth env 0), shape (nth env 1), nth env 5, shapeC (nth env 9))) o = some (toldA o, toldC o, toldO o, .call (.call (.builtin "sum") ⟨[.ref (A.N+298), .int 0 A.ti], []⟩), ctxIn (.call (.builtin "sum") ⟨[.ref (A.N+298), .int 0 A.ti], []⟩) (ctxO o).below,
      (some (A.N+298, some (.type "generator", none, #[], some (.int 1 0), 3)), some (A.N+297, some (.type "frame", none, #[], [(some (nm ".0"), .ref (A.N+293))])), some ⟨A.N+293, iterO (A.pl+292) 0, true⟩, some (215, true)), glO o, toldM o, toldI o, flatO o) := by
  cases b1 <;> kernel_rfl
theorem sy_call (w : World) (b1 b2 : Bool) (A : SyA) (p : Pos) (v1 v2 : Value) (gl : List GenState) (N T : Nat) : let o := run (XX w b1 b2 tb []) [] (begin (ctxIn (.call (.builtin "sum") ⟨[.ref (A.N+298), .int 0 A.ti], []⟩) (ctxO (rSy0 w b1 b2 A)).below) p [⟨A.N+298, genO 1 v1 v2, false⟩] gl N T)
    seen (fun env => ()) o = some (toldA o, toldC o, toldO o, .again (.builtin "sum" ⟨[.ref (A.N+298), .int 0 A.ti], []⟩), ctxIn (.builtin "sum" ⟨[.ref (A.N+298), .int 0 A.ti], []⟩) (ctxO (rSy0 w b1 b2 A)).below, (), gl, toldM o, toldI o, true) := by
  cases b1 <;> kernel_rfl
theorem sy_done (w : World) (b1 b2 : Bool) (A : SyA) (x : Int) (t : Tok) (gl : List GenState) (N T : Nat) : let o := run (XX w b1 b2 tb []) [] (resumeO (rSy0 w b1 b2 A) (.ok (.ret (.int x t))) [] gl N T)
    seen (fun env => ()) o = some (toldA o, toldC o, toldO o, .done (.ret (.int x t)), ctxIn (fcode w 220 (A.N+292)) (belowSy w A), (), gl, toldM o, toldI o, true) := by
  cases b1 <;> kernel_rfl
noncomputable def ctxSy (w : World) (b1 b2 : Bool) (A : SyA) (S : Nat) : Ctx := ctxIn (.builtin "sum.loop" ⟨[.ref (A.N+298), .ref (S+292), rawInt 0, rawInt 0], []⟩) (ctxO (rSy0 w b1 b2 A)).below
noncomputable def stSy (w : World) (b1 b2 : Bool) (A : SyA) (B : SxA) (gl : List GenState) : St :=
  ⟨ctxSy w b1 b2 A B.S, B.p, pnT (.ref (A.N+298)), [], [⟨A.N+298, genO 1 B.v1 B.v2, false⟩, ⟨A.N+297, frameO B.es B.ne, true⟩, ⟨A.N+293, iterO (A.pl+292) B.i, true⟩, ⟨A.pl+292, pileO (A.dd+292) A.ps A.np, false⟩, ⟨B.tp+292, tupO [.str B.K B.tk, .str B.V B.tv], false⟩], gl, B.N, 0, B.T, 0, [], [], []⟩
noncomputable def syE (f : Bool) (A : SyA) (z : Zs) : List DictEntry := match f with
  | true => [⟨z.h1, .str (nm ".0") z.k1, .ref (A.N+293)⟩]
  | false => [⟨z.h1, .str (nm ".0") z.k1, .ref (A.N+293)⟩, ⟨z.h2, .str (nm "fws") z.k2, z.v4⟩, ⟨z.h3, .str (nm "part") z.k3, z.v5⟩]
noncomputable def hkLenS (x : Str) (t : Tok) : Hook := ⟨.call (.builtin "len") ⟨[.str x t], []⟩, [], fun T _ => .ok (.ret (.int x.length (T + 1))), fun _ => [], 2⟩
theorem ok_lens {X : Cx} {x : Str} {t : Tok} (hz : x.length ≤ 100000) : HookOk X (hkLenS x t) :=
  hook_ok (v := fun T _ => .int x.length (T + 1)) fun A Q E s _ _ _ hq => P.len_str (by omega) hq
noncomputable def xSy (w : World) (b1 b2 : Bool) (A : SyA) (B : SxA) : Cx :=
  XX w b1 b2 tb [hkNextP 2 3 (A.N+293) (A.pl+292) (A.dd+292) A.ps A.np B.i (.ref (B.tp+292)), hkLenS B.K B.tk, hkLenS B.V B.tv, hkInt "int.__add__" [.int B.K.length (B.T+3), .int B.V.length (B.T+5)] (B.K.length + B.V.length)]
noncomputable def syOrT : List Nat := [1, 0, 1, 0, 1, 0, 0, 3, 1, 3, 5, 5, 5, 0, 5, 0, 1, 1, 0, 1, 0, 1, 1, 6, 1, 1, 1, 0, 1, 0, 1, 1, 6, 1, 1, 1, 0, 1, 0, 1, 1, 6, 1, 1, 1, 5, 5, 5, 5, 0, 0, 5, 2, 0, 0, 5, 3, 4]
noncomputable def syOr (b2 : Bool) : List Nat := match b2 with
  | true => syOrT
  | false => [1, 0, 1, 0, 1, 0, 3, 3, 0, 3, 0, 3, 0, 3, 1, 3, 5, 5, 5, 0, 5, 0, 1, 1, 0, 1, 0, 1, 1, 6, 1, 1, 1, 0, 1, 0, 1, 1, 6, 1, 1, 1, 0, 1, 0, 1, 1, 6, 1, 1, 1, 5, 5, 5, 5, 0, 0, 5, 2, 0, 0, 5, 3, 4]
noncomputable def rSy1 (w : World) (b1 b2 : Bool) (A : SyA) (B : SxA) : Option St :=
  run (xSy w b1 b2 A B) (syOr b2) (stSy w b1 b2 A B (glO (rSy0 w b1 b2 A)))
noncomputable def glY (w : World) (b1 b2 : Bool) (A : SyA) : List GenState := glO (rSy1 w b1 b2 A { sx0 with es := syE true A zs0 })
theorem gy_seg0 (w : World) (b1 b2 : Bool) (A : SyA) (B : SxA) (z : Zs) : let o := rSy1 w b1 b2 A { B with es := syE true A z }
    seen (fun env => (nth env 3, shape (nth env 4), nth env 5)) o = some (toldA o, toldC o, toldO o, .done (.ret (.int (B.K.length + B.V.length) (B.T+6))), ctxSy w b1 b2 A B.S,
      (some ⟨A.N+298, genO 1 B.v1 B.v2, false⟩, some (A.N+297, some (.type "frame", none, #[], [(some (nm ".0"), .ref (A.N+293)), (some (nm "fws"), .str B.K B.tk), (some (nm "part"), .str B.V B.tv)])), some ⟨A.N+293, iterO (A.pl+292) (B.i+1), true⟩), glY w b1 b2 A, toldM o, toldI o, true) := by
  cases b1 <;> cases b2 <;> kernel_rfl
theorem gy_seg1 (w : World) (b1 b2 : Bool) (A : SyA) (B : SxA) (z : Zs) : let o := run (xSy w b1 b2 A B) syOrT (stSy w b1 b2 A { B with es := syE false A z } (glY w b1 b2 A))
    seen (fun env => (nth env 3, shape (nth env 4), nth env 5)) o = some (toldA o, toldC o, toldO o, .done (.ret (.int (B.K.length + B.V.length) (B.T+6))), ctxSy w b1 b2 A B.S,
      (some ⟨A.N+298, genO 1 B.v1 B.v2, false⟩, some (A.N+297, some (.type "frame", none, #[], [(some (nm ".0"), .ref (A.N+293)), (some (nm "fws"), .str B.K B.tk), (some (nm "part"), .str B.V B.tv)])), some ⟨A.N+293, iterO (A.pl+292) (B.i+1), true⟩), glY w b1 b2 A, toldM o, toldI o, true) := by
  cases b1 <;> cases b2 <;> kernel_rfl
theorem gy_end (w : World) (b1 b2 : Bool) (A : SyA) (B : SxA) (z : Zs) : let o := run (XX w b1 b2 tb [hkEndP 2 3 (A.N+293) (A.pl+292) (A.dd+292) A.ps A.np B.i]) [1, 0, 1, 0, 1, 0, 0, 3, 1, 1, 1] (stSy w b1 b2 A { B with es := syE false A z } (glY w b1 b2 A))
    seen (fun env => ()) o = some (toldA o, toldC o, toldO o, .done .brk, ctxSy w b1 b2 A B.S, (), [.finished, .finished], toldM o, toldI o, true) := by
  cases b1 <;> cases b2 <;> kernel_rfl
end
end Mine

namespace Mine
noncomputable section
open PySem PySem.W PySem.W.X PySem.Calls PyProof.Rows
set_option maxHeartbeats 4000000
noncomputable def kvLen (xs : List (Str × Str)) : Nat := (xs.map fun x => x.1.length + x.2.length).sum
theorem kvLen_le {xs : List (Str × Str)} (hx : ∀ x ∈ xs, x.1.length + x.2.length ≤ 1000) : kvLen xs ≤ xs.length * 1000 := by
  induction xs with
  | nil => exact Nat.zero_le _
  | cons x xs ih =>
    have h1 := ih fun y hy => hx y (.tail _ hy)
    have h3 := hx x (.head _)
    simp only [kvLen, List.map_cons, List.sum_cons, List.length_cons, Nat.add_mul] at h1 ⊢
    omega
theorem syE_of {A : SyA} {es : List DictEntry} {f : Bool} {v4 v5 : Value} (h : kvs es = match f with | true => [(some (nm ".0"), .ref (A.N+293))] | false => [(some (nm ".0"), .ref (A.N+293)), (some (nm "fws"), v4), (some (nm "part"), v5)]) : ∃ z, es = syE f A z := by
  cases f with
  | true =>
    obtain ⟨z1, k1, r1, rfl, h1⟩ := kvs_cons h
    cases kvs_nil h1
    exact ⟨⟨z1, 0, 0, 0, 0, 0, k1, 0, 0, 0, 0, 0, .none, .none, .none⟩, rfl⟩
  | false =>
    obtain ⟨z1, k1, r1, rfl, h1⟩ := kvs_cons h
    obtain ⟨z2, k2, r2, rfl, h2⟩ := kvs_cons h1
    obtain ⟨z3, k3, r3, rfl, h3⟩ := kvs_cons h2
    cases kvs_nil h3
    exact ⟨⟨z1, z2, z3, 0, 0, 0, k1, k2, k3, 0, 0, 0, v4, v5, .none⟩, rfl⟩
theorem len_call (w : World) (b1 b2 : Bool) (L0 pl dd : Nat) (p0 p1 p : Pos) (ps : List Value) (np T : Nat) (hh : Int) (kh ti : Tok) (nd : Nat) (xs : List (Str × Str)) (d : Drawn) (ox : OsState) (R : Result → Shared → Prop) (h : Heap)
    (hz : ps.length ≤ 900) (hne : xs ≠ []) (hx : ∀ x ∈ xs, x.1.length + x.2.length ≤ 1000) (G : Glob (XX w b1 b2 tb []) h) (fpl : h.get? (pl+292) = some (pileO (dd+292) ps np)) (fdd : h.get? (dd+292) = some (dictO [⟨hh, .str (nm "_initial_size") kh, .int 0 ti⟩] nd)) (f215 : h.get? 215 = some cacheO) (hps : All2 (PieceV h) ps xs)
    (K : ∀ h' T' t vs, Ext [215] h h' → h'.get? 215 = some (cachedO vs) → R (.ok (.ret (.int (kvLen xs) t))) ⟨h', ⟨[.finished, .finished]⟩, d, T', ox⟩) :
    wpCode (model PySem.Challenge.pw_pe0217_01 (setW w b1 b2)) (ctxIn (.call (.ref 220) ⟨[.ref (pl+292)], []⟩) ((.builtin "len" ⟨[.ref (pl+292)], []⟩, p1) :: belowLaw w (L0+292) p0)) R p ⟨h, ⟨[.finished]⟩, d, T, ox⟩ := by
  obtain ⟨N, hN⟩ := le_size fpl (Nat.le_add_left _ _)
  have lpl := lt_of_get fpl hN
  let A : SyA := ⟨L0, pl, dd, p0, p1, p, ps, np, hh, kh, ti, nd, N, T⟩
  have hlen : xs.length = ps.length := hps.length.symm
  have ned : pl ≠ dd := fun e => ne_kind fpl fdd (by simp [kindOf, pileO, dictO]) (by rw [e])
  refine code_of_means (X := XX w b1 b2 tb []) (N := N) (means_of_cut (sy_seg0 w b1 b2 A) trivial ⟨by rw [hN]; rfl, allE ⟨fpl, fdd, f215, trivial⟩, ?_, ?_, G⟩ fun h1 T1 st1 hrun1 hV1 D1 E1 => ?_)
  · simp [begin, A]
  · simp [begin, tb]
  obtain ⟨u0, u1, u5, u8⟩ := pr4 hV1
  obtain ⟨v1, v2, ow0, e0⟩ := shapeG_ok u0
  obtain ⟨es1, nL1, ow1, e1, hk1⟩ := shape_ok u1
  obtain ⟨vs8, ow8, e8⟩ := shapeC_ok u8
  obtain ⟨z1, rfl⟩ := syE_of (A := A) (f := true) (v4 := .none) (v5 := .none) hk1
  have E1' : Ext [215] h h1 := E1
  have ggen1 : h1.get? (N+298) = some (genO 1 v1 v2) := D1.at e0
  have gL1 : h1.get? (N+297) = some (frameO (syE true A z1) nL1) := D1.at e1
  have git1 : h1.get? (N+293) = some (iterO (pl+292) 0) := D1.at u5
  have gc1 : h1.get? 215 = some (cachedO vs8) := D1.at e8
  have gpl1 := E1'.keep _ _ fpl (by kt_eqs)
  have hps1 := pieces_ext E1' (by simp [f215, cacheO, tupO]) hps
  obtain ⟨N1, hN1⟩ := le_size ggen1 (Nat.le_add_left _ _)
  refine code_loop (X0 := XX w b1 b2 tb []) (X := XX w b1 b2 tb []) (N := N1) (own := []) (sy_call w b1 b2 A st1.p v1 v2 _ N1 T1) rfl rfl rfl trivial hN1 D1.glob ⟨ggen1, trivial⟩ ⟨trivial, trivial⟩ ⟨Nat.le_add_left _ _, trivial⟩ rfl fun h2 T2 p2 st2 hV2 D2 E2' hnQ => ?_
  have ggen2 := E2'.keep _ _ ggen1 (by kt_eqs)
  have gL2 := E2'.keep _ _ gL1 (by kt_eqs)
  have git2 := E2'.keep _ _ git1 (by kt_eqs)
  have gpl2 := E2'.keep _ _ gpl1 (by kt_eqs)
  have gc2 := E2'.keep _ _ gc1 (by kt_eqs)
  have hps2 := pieces_ext E2' (by simp) hps1
  obtain ⟨N2, hN2⟩ := le_size ggen2 (Nat.le_add_left _ _)
  have lg := lt_of_get (a := N+6) ggen2 hN2
  refine hnQ ?_
  refine sum_gen (gi := 1) ⟨_, v1, v2, ggen2, rfl, rfl, rfl⟩ ?_
  intro h3 p3 T3 t3 nS E3 hs3 gS3
  rw [hN2] at gS3 hs3 ⊢
  have ggen3 := E3.keep _ _ ggen2 (by kt_eqs)
  have gL3 := E3.keep _ _ gL2 (by kt_eqs)
  have git3 := E3.keep _ _ git2 (by kt_eqs)
  have gpl3 := E3.keep _ _ gpl2 (by kt_eqs)
  have gc3 := E3.keep _ _ gc2 (by kt_eqs)
  have hps3 := pieces_ext E3 (by simp) hps2
  have G3 := glob_ext E3 (by kt_len) D2.glob
  have tp0 : ∀ {i : Nat} {x : Str × Str} {h' : Heap}, Ext [N+297, N+293, N2+292] h3 h' → xs[i]? = some x → ∃ tp : Nat, ∃ tk tv, ps[i]? = some (.ref (tp+292)) ∧ h'.get? (tp+292) = some (tupO [.str x.1 tk, .str x.2 tv]) := by
    intro i x h' E hi
    have q := pieces_ext E (notupL (by ktr_rel)) hps3
    obtain ⟨v, hv, tp, tk, tv, rfl, qt⟩ := q.get i hi
    exact ⟨tp, tk, tv, hv, qt⟩
  have step : ∀ (fE : Bool) (i : Nat) (z : Zs) (nL : Nat) (ta : Tok) (na : Nat) (gl : List GenState) (RR : Result → Shared → Prop) (h' : Heap) (p' : Pos) (T' : Nat), i < ps.length → (∀ B : SxA, let o := run (xSy w b1 b2 A B) (match fE with | true => syOr b2 | false => syOrT) (stSy w b1 b2 A { B with es := syE fE A z } gl)
        seen (fun env => (nth env 3, shape (nth env 4), nth env 5)) o = some (toldA o, toldC o, toldO o, .done (.ret (.int (B.K.length + B.V.length) (B.T+6))), ctxSy w b1 b2 A B.S,
          (some ⟨A.N+298, genO 1 B.v1 B.v2, false⟩, some (A.N+297, some (.type "frame", none, #[], [(some (nm ".0"), .ref (A.N+293)), (some (nm "fws"), .str B.K B.tk), (some (nm "part"), .str B.V B.tv)])), some ⟨A.N+293, iterO (A.pl+292) (B.i+1), true⟩), glY w b1 b2 A, toldM o, toldI o, true)) →
      Ext [N+297, N+293, N2+292] h3 h' → h'.get? (N+293) = some (iterO (pl+292) i) → h'.get? (N+297) = some (frameO (syE fE A z) nL) → h'.get? (N2+292) = some (listO [.int (kvLen (xs.take i)) ta] na) →
      (∀ h4 T4 p4 z4 nL4 ta4 na4, Ext [N+297, N+293, N2+292] h3 h4 → h4.get? (N+293) = some (iterO (pl+292) (i+1 : Nat)) → h4.get? (N+297) = some (frameO (syE false A z4) nL4) → h4.get? (N2+292) = some (listO [.int (kvLen (xs.take (i+1))) ta4] na4) → wpCode (model PySem.Challenge.pw_pe0217_01 (setW w b1 b2)) (ctxSy w b1 b2 A N2) RR p4 ⟨h4, ⟨glY w b1 b2 A⟩, d, T4, ox⟩) →
      wpCode (model PySem.Challenge.pw_pe0217_01 (setW w b1 b2)) (ctxSy w b1 b2 A N2) RR p' ⟨h', ⟨gl⟩, d, T', ox⟩ := by
    intro fE i z nL ta na gl RR h' p' T' hi hseg E git gL gS K'
    obtain ⟨x, hxi⟩ : ∃ x, xs[i]? = some x := ⟨xs[i], List.getElem?_eq_getElem (by omega)⟩
    obtain ⟨tp, tk, tv, hv, qt⟩ := tp0 E hxi
    have hxx := hx x (List.mem_of_getElem? hxi)
    have hsm : kvLen (xs.take i) ≤ 900 * 1000 := by
      refine Nat.le_trans (kvLen_le fun y hy => hx y (List.mem_of_mem_take hy)) (Nat.mul_le_mul_right _ ?_)
      rw [List.length_take]
      exact Nat.le_trans (Nat.min_le_right _ _) (by omega)
    have ggen := E.keep _ _ ggen3 (by kt_eqs)
    have gpl := E.keep _ _ gpl3 (by kt_eqs)
    obtain ⟨N', hN'⟩ := le_size ggen (Nat.le_add_left _ _)
    have l1 := lt_of_get (a := N+6) ggen hN'
    refine sum_step (env := [⟨N+298, genO 1 v1 v2, false⟩, ⟨N+297, frameO (syE fE A z) nL, true⟩, ⟨N+293, iterO (pl+292) i, true⟩, ⟨pl+292, pileO (dd+292) ps np, false⟩, ⟨tp+292, tupO [.str x.1 tk, .str x.2 tv], false⟩]) (N := N') gS fun p5 => ?_
    let B : SxA := ⟨N2, 0, 0, tp, p5, p5, i, [], na, syE fE A z, nL, v1, v2, x.1, x.2, tk, tv, N', T'⟩
    refine means_of_done (X := xSy w b1 b2 A B) (hseg B) ⟨hkNextP_ok (by simpa using hv), ok_lens (by show x.1.length ≤ _; omega), ok_lens (by show x.2.length ≤ _; omega), ok_add, trivial⟩ (on_dif hN' (glob_ext E (by kt_len) G3) ⟨ggen, gL, git, gpl, qt, trivial⟩ ?_ ?_) fun h4 T4 st4 hV4 D4 E4 => ?_
    · ktd_rel
    · kt_len
    obtain ⟨q4, q5, q6⟩ := pr3 hV4
    obtain ⟨es4, nL4, ow4, e4, hk4⟩ := shape_ok q5
    obtain ⟨z4, rfl⟩ := syE_of (A := A) (f := false) hk4
    have E4' : Ext [N+297, N+293] h' h4 := E4
    have gS4 := E4'.keep _ _ gS (by kt_eqs)
    refine ⟨(x.1.length : Int) + x.2.length, T' + 6, na, rfl, gS4, by omega, by omega, fun p6 h6 na6 ta6 k6 E6 hs6 g6 => ?_⟩
    have g41 : h4.get? (N+293) = some (iterO (pl+292) (i+1 : Nat)) := D4.at q6
    have g42 : h4.get? (N+297) = some (frameO (syE false A z4) nL4) := D4.at e4
    have g61 := E6.keep _ _ g41 (by kt_eqs)
    have g62 := E6.keep _ _ g42 (by kt_eqs)
    refine K' h6 k6 p6 z4 nL4 ta6 na6 (((E.trans E4').trans E6).drop (by kt_ors)) g61 g62 (g6.trans ?_)
    rw [List.take_add_one, hxi, Option.toList_some]
    simp [kvLen, Nat.add_assoc]
  have hps0 : 0 < ps.length := by rw [← hlen]; exact List.length_pos_iff.mpr hne
  refine step true 0 z1 nL1 t3 nS _ _ h3 p3 T3 hps0 (fun B => gy_seg0 w b1 b2 A B z1) (Ext.refl _ _) git3 gL3 gS3 ?_
  intro h4 T4 p4 z4 nL4 ta4 na4 E4 git4 gL4 gS4
  refine loop0 (fun k h' => Ext [N+297, N+293, N2+292] h3 h' ∧ h'.get? (N+293) = some (iterO (pl+292) (k+1 : Nat)) ∧ (∃ z nL, h'.get? (N+297) = some (frameO (syE false A z) nL)) ∧ ∃ ta na, h'.get? (N2+292) = some (listO [.int (kvLen (xs.take (k+1))) ta] na)) (ps.length - 1)
    ⟨E4, git4, ⟨z4, nL4, gL4⟩, ta4, na4, gS4⟩ ?_ ?_
  · rintro k hk p5 T5 h5 ⟨E5, git5, ⟨z5, nL5, gL5⟩, ta5, na5, gS5⟩ K'
    exact step false (k+1) z5 nL5 ta5 na5 _ _ h5 p5 T5 (by omega) (fun B => gy_seg1 w b1 b2 A B z5) E5 git5 gL5 gS5 fun h6 T6 p6 z6 nL6 ta6 na6 E6 git6 gL6 gS6 => K' p6 T6 h6 ⟨E6, git6, ⟨z6, nL6, gL6⟩, ta6, na6, gS6⟩
  · rintro p5 T5 h5 ⟨E5, git5, ⟨z5, nL5, gL5⟩, ta5, na5, gS5⟩
    have ggen5 := E5.keep _ _ ggen3 (by kt_eqs)
    have gpl5 := E5.keep _ _ gpl3 (by kt_eqs)
    obtain ⟨N5, hN5⟩ := le_size ggen5 (Nat.le_add_left _ _)
    have hnn : ps.length - 1 + 1 = ps.length := by omega
    rw [hnn] at git5 gS5
    rw [List.take_of_length_le (by omega)] at gS5
    obtain ⟨x, hxi⟩ : ∃ x, xs[0]? = some x := ⟨xs[0], List.getElem?_eq_getElem (by omega)⟩
    obtain ⟨tp, tk, tv, hv, qt⟩ := tp0 E5 hxi
    refine sum_step (env := [⟨N+298, genO 1 v1 v2, false⟩, ⟨N+297, frameO (syE false A z5) nL5, true⟩, ⟨N+293, iterO (pl+292) ps.length, true⟩, ⟨pl+292, pileO (dd+292) ps np, false⟩, ⟨tp+292, tupO [.str x.1 tk, .str x.2 tv], false⟩]) (N := N5) gS5 fun p6 => ?_
    let B : SxA := ⟨N2, 0, 0, tp, p6, p6, ps.length, [], 0, syE false A z5, nL5, v1, v2, x.1, x.2, tk, tv, N5, T5⟩
    refine means_of_done (X := XX w b1 b2 tb [hkEndP 2 3 (N+293) (pl+292) (dd+292) ps np ps.length]) (gy_end w b1 b2 A B z5) ⟨hkEndP_ok (by simp), trivial⟩ (on_dif hN5 (glob_ext E5 (by kt_len) G3) ⟨ggen5, gL5, git5, gpl5, qt, trivial⟩ ?_ ?_) fun h6 T6 st6 hV6 D6 E6 => ?_
    · ktd_rel
    · kt_len
    have E6' : Ext [N+297, N+293] h5 h6 := E6
    have gS6 := E6'.keep _ _ gS5 (by kt_eqs)
    have gc6 : h6.get? 215 = some (cachedO vs8) := E6'.keep _ _ (E5.keep _ _ gc3 (by kt_eqs)) (by simp)
    obtain ⟨N6, hN6⟩ := le_size gS6 (Nat.le_add_left _ _)
    have total : Ext [215] h h6 := (((((E1'.trans E2').trans E3).trans E5).trans E6')).drop (by kt_ors)
    refine back_done (X0 := XX w b1 b2 tb []) (X := XX w b1 b2 tb []) (own := []) hrun1 (sy_done w b1 b2 A _ ta5 [.finished, .finished] N6 T6) rfl rfl rfl trivial hN6 (glob_ext (E5.trans E6') (by kt_len) G3) trivial trivial trivial fun h7 T7 st7 hV7 D7 E7' hnQ => ?_
    refine hnQ ?_
    exact K h7 T7 _ _ ((total.trans E7').drop (by kt_ors)) (E7'.keep _ _ gc6 (by kt_eqs))
end
end Mine

namespace Mine
noncomputable section
open PySem PySem.W PySem.W.X PySem.Calls PyProof.Rows
theorem piece_same {A : Around} {s : Shared} {v v' : Value} {x : Str × Str} (hu : A.units < cLine) (q : PieceV s.heap v x) (q' : PieceV s.heap v' x) : SeqAt.EqAt A s v v' true := by
  obtain ⟨a, t1, t2, rfl, ha⟩ := q
  obtain ⟨b, u1, u2, rfl, hb⟩ := q'
  by_cases hab : (a + 292 : Addr) = b + 292
  · rw [hab]; exact SeqAt.EqAt.same _
  · refine SeqAt.EqAt.of_refs hab ?_
    have z := SeqAt.RcAt.tuples (A := A) (s := s) (l := a+292) (b := b+292) (items := ⟨[.str x.1 t1, .str x.2 t2]⟩) (items2 := ⟨[.str x.1 u1, .str x.2 u2]⟩) (e := fun _ => true) ⟨_, ha, rfl, 0, rfl⟩ ⟨_, hb, rfl, 0, rfl⟩ hu (fun j h1 h2 => by
      have h4 : j < 2 := h1
      rcases (by omega : j = 0 ∨ j = 1) with rfl | rfl
      · have z := SeqAt.EqAt.str_str (A := A.in1) (s := s) x.1 t1 x.1 u1
        rw [beq_self_eq_true] at z
        exact z
      · have z := SeqAt.EqAt.str_str (A := A.in1) (s := s) x.2 t2 x.2 u2
        rw [beq_self_eq_true] at z
        exact z)
    exact z
theorem all2_same {α : Type} {P : Value → α → Prop} {vs us : List Value} {xs : List α} (h1 : All2 P vs xs) (h2 : All2 P us xs) : ∀ j (a : j < vs.length) (b : j < us.length), ∃ x, P vs[j] x ∧ P us[j] x := by
  intro j a b
  have hx : j < xs.length := by have := h1.length; omega
  obtain ⟨v, hv, pv⟩ := h1.get j (List.getElem?_eq_getElem hx)
  obtain ⟨u, hu, pu⟩ := h2.get j (List.getElem?_eq_getElem hx)
  rw [List.getElem?_eq_getElem a] at hv
  rw [List.getElem?_eq_getElem b] at hu
  cases hv; cases hu
  exact ⟨_, pv, pu⟩
theorem ne_call {α : Type} {P : Value → α → Prop} {prog : Program} {w : World} {Γ : PySem.Ctx} {R : Result → Shared → Prop} {p : Pos} {s : Shared} {a b : Addr} {vs us : List Value} {n m : Nat} {xs : List α} (fa : s.heap.get? a = some (listO vs n)) (fb : s.heap.get? b = some (listO us m)) (h1 : All2 P vs xs) (h2 : All2 P us xs)
    (hP : ∀ v u x, P v x → P u x → SeqAt.EqAt (aroundOf Γ).in1 s v u true) (K : R (.ok (.ret (.bool false))) s) :
    wpCode (model prog w) (Γ.enter (.call (.builtin "list.__ne__") ⟨[.ref a, .ref b], []⟩) none p) R p s := by
  refine code_of_call ?_
  refine call_meets F.slot_list_ne ⟨_, fa, rfl⟩ F.entry_list_ne (F.args_list_ne_2 _ _) (SeqAt.list_neAt a b ⟨vs⟩ ⟨us⟩ n m none none #[] #[] (by have e1 := h1.length; have e2 := h2.length; show vs.length = us.length; omega) (fun _ => true)) ⟨fa, fb, fun j a1 a2 => ?_, ?_⟩
  · obtain ⟨x, p1, p2⟩ := all2_same h1 h2 j a1 a2
    exact hP _ _ x p1 p2
  · have e : (!(List.range vs.length).all fun _ => true) = false := by simp
    show R (.ok (.ret (.bool (!(List.range vs.length).all fun _ => true)))) s
    rw [e]; exact K
theorem eq_call {α : Type} {P : Value → α → Prop} {prog : Program} {w : World} {Γ : PySem.Ctx} {R : Result → Shared → Prop} {p : Pos} {s : Shared} {a b : Addr} {vs us : List Value} {n m : Nat} {xs : List α} (fa : s.heap.get? a = some (listO vs n)) (fb : s.heap.get? b = some (listO us m)) (h1 : All2 P vs xs) (h2 : All2 P us xs)
    (hP : ∀ v u x, P v x → P u x → SeqAt.EqAt (aroundOf Γ).in1 s v u true) (K : R (.ok (.ret (.bool true))) s) :
    wpCode (model prog w) (Γ.enter (.call (.builtin "list.__eq__") ⟨[.ref a, .ref b], []⟩) none p) R p s := by
  refine code_of_call ?_
  refine call_meets F.slot_list_eq ⟨_, fa, rfl⟩ F.entry_list_eq (F.args_list_eq_2 _ _) (SeqAt.list_eqAt a b ⟨vs⟩ ⟨us⟩ n m none none #[] #[] (by have e1 := h1.length; have e2 := h2.length; show vs.length = us.length; omega) (fun _ => true)) ⟨fa, fb, fun j a1 a2 => ?_, ?_⟩
  · obtain ⟨x, p1, p2⟩ := all2_same h1 h2 j a1 a2
    exact hP _ _ x p1 p2
  · have e : ((List.range vs.length).all fun _ => true) = true := by simp
    show R (.ok (.ret (.bool ((List.range vs.length).all fun _ => true)))) s
    rw [e]; exact K
theorem units_law (w : World) (L : Addr) : (aroundOf (ctxIn (fcode w 291 L) below0)).in1.units < cLine := by
  have h : Code.cUnits (.builtin "claim.caller" {}) ≤ 100 := by decide
  have h2 : Code.cUnits (fcode w 291 L) ≤ 100 := by
    have e : Code.frames (fcode w 291 L) ≤ 1 := by
      unfold fcode Code.frames
      first | exact Nat.le_refl _ | (simp [Code.isFrame]) | (split <;> simp)
    show 3 * _ ≤ 100
    omega
  show (Code.cUnits (fcode w 291 L) + (List.sum [Code.cUnits (.builtin "claim.caller" {})])) + 1 < 9900
  simp only [List.sum_cons, List.sum_nil]
  omega
theorem ne_pieces {prog : Program} {w : World} {R : Result → Shared → Prop} {L : Addr} {p : Pos} {s : Shared} {a b : Addr} {vs us : List Value} {n m : Nat} {xs : List (Str × Str)} (fa : s.heap.get? a = some (listO vs n)) (fb : s.heap.get? b = some (listO us m)) (h1 : All2 (PieceV s.heap) vs xs) (h2 : All2 (PieceV s.heap) us xs) (K : R (.ok (.ret (.bool false))) s) :
    wpCode (model prog w) (ctxIn (.call (.builtin "list.__ne__") ⟨[.ref a, .ref b], []⟩) (belowLaw w L p)) R p s :=
  ne_call (Γ := ctxIn (fcode w 291 L) below0) fa fb h1 h2 (fun v u x q q' => piece_same (units_law w L) q q') K
theorem str_same {A : Around} {s : Shared} {v u : Value} {x : Str} (q : StrV v x) (q' : StrV u x) : SeqAt.EqAt A s v u true := by
  obtain ⟨t, rfl⟩ := q
  obtain ⟨t', rfl⟩ := q'
  have z := SeqAt.EqAt.str_str (A := A) (s := s) x t x t'
  rw [beq_self_eq_true] at z
  exact z
theorem ne_strs {prog : Program} {w : World} {R : Result → Shared → Prop} {L : Addr} {p : Pos} {s : Shared} {a b : Addr} {vs us : List Value} {n m : Nat} {xs : List Str} (fa : s.heap.get? a = some (listO vs n)) (fb : s.heap.get? b = some (listO us m)) (h1 : All2 StrV vs xs) (h2 : All2 StrV us xs) (K : R (.ok (.ret (.bool false))) s) :
    wpCode (model prog w) (ctxIn (.call (.builtin "list.__ne__") ⟨[.ref a, .ref b], []⟩) (belowLaw w L p)) R p s :=
  ne_call (Γ := ctxIn (fcode w 291 L) below0) fa fb h1 h2 (fun v u x q q' => str_same q q') K
theorem eq_strs {prog : Program} {w : World} {R : Result → Shared → Prop} {L : Addr} {p : Pos} {s : Shared} {a b : Addr} {vs us : List Value} {n m : Nat} {xs : List Str} (fa : s.heap.get? a = some (listO vs n)) (fb : s.heap.get? b = some (listO us m)) (h1 : All2 StrV vs xs) (h2 : All2 StrV us xs) (K : R (.ok (.ret (.bool true))) s) :
    wpCode (model prog w) (ctxIn (.call (.builtin "list.__eq__") ⟨[.ref a, .ref b], []⟩) (belowLaw w L p)) R p s :=
  eq_call (Γ := ctxIn (fcode w 291 L) below0) fa fb h1 h2 (fun v u x q q' => str_same q q') K
end
end Mine

namespace Mine
noncomputable section
open PySem PySem.W PySem.W.X PySem.Calls PyProof.Rows
set_option maxHeartbeats 4000000
noncomputable def csT (v : Value) (name : Str) : Sem Fin := PySem.W.R.bindR (PySem.W.Fast.tw9201129301070521445 v name [] []) fun o => .pure (.done (optFlow o))
theorem csT_eq (v : Value) (name : Str) : (callSpecial? v name >>= fun o => Pure.pure (Fin.done (optFlow o))) = csT v name := by
  unfold csT
  rw [← PySem.W.R.bindR_eq, ← PySem.W.Fast.te9201129301070521445]
  rfl
theorem WA.special {prog : Program} {w : World} {Γ : PySem.Ctx} {v : Value} {name : Str} {Q : Option Value → Shared → Prop} {E : Value → Shared → Prop} {env : List Ent} {gl : List GenState} {N T : Nat} {h : Heap} {d : Drawn} {ox : OsState}
    (H : ∀ p, Means (model prog w) (PostR fun r s' => match r with | .ok (.ret v) => Q (some v) s' | .ok .brk => Q none s' | .ok _ => False | .error e => E e s') ⟨Γ, p, csT v name, [], env, gl, N, 0, T, 0, [], [], []⟩ h d ox) : WA (model prog w) Γ (callSpecial? v name) Q E ⟨h, ⟨gl⟩, d, T, ox⟩ := fun p => by
  obtain ⟨e, s', r, q⟩ := H p
  cases e with
  | susp => exact q.elim
  | ret r' =>
    have z := (Sem.wp_iff_runs (M := model prog w) (Γ := Γ) (csT v name) (fun r s' => match r with | .ok (.ret v) => Q (some v) s' | .ok .brk => Q none s' | .ok _ => False | .error e => E e s') p ⟨h, ⟨gl⟩, d, T, ox⟩).mpr ⟨r', s', r, q⟩
    rw [← csT_eq, Sem.wp_bind'] at z
    refine Sem.wp_mono _ _ _ (fun o p' s' q => ?_) (fun _ _ _ q => q) _ _ z
    rw [Sem.wp_pure'] at q
    cases o <;> exact q
noncomputable def gl2 : List GenState := [.finished, .finished]
theorem lp_seg0 (w : World) (b1 b2 : Bool) (L0 pl dd : Nat) (p0 p : Pos) (ps : List Value) (np N T : Nat) (gl : List GenState) : let o := run (XX w b1 b2 tb []) [] (begin (ctxIn (.call (.builtin "len") ⟨[.ref (pl+292)], []⟩) (belowLaw w (L0+292) p0)) p [⟨pl+292, pileO (dd+292) ps np, false⟩] gl N T)
    seen (fun env => ()) o = some (toldA o, toldC o, toldO o, .again (.builtin "len" ⟨[.ref (pl+292)], []⟩), ctxIn (.builtin "len" ⟨[.ref (pl+292)], []⟩) (belowLaw w (L0+292) p0), (), gl, toldM o, toldI o, true) := by
  cases b1 <;> kernel_rfl
noncomputable def rLp1 (w : World) (b1 b2 : Bool) (L0 pl dd : Nat) (p0 p : Pos) (ps : List Value) (np N T : Nat) (gl : List GenState) : Option St :=
  run (XX w b1 b2 tb []) [1, 0, 0, 0, 0] ⟨ctxIn (.builtin "len" ⟨[.ref (pl+292)], []⟩) (belowLaw w (L0+292) p0), p, csT (.ref (pl+292)) (nm "__len__"), [], [⟨pl+292, pileO (dd+292) ps np, false⟩], gl, N, 0, T, 0, [], [], []⟩
theorem lp_seg1 (w : World) (b1 b2 : Bool) (L0 pl dd : Nat) (p0 p : Pos) (ps : List Value) (np N T : Nat) (gl : List GenState) : let o := rLp1 w b1 b2 L0 pl dd p0 p ps np N T gl
    seen (fun env => ()) o = some (toldA o, toldC o, toldO o, .call (.call (.ref 220) ⟨[.ref (pl+292)], []⟩), ctxIn (.call (.ref 220) ⟨[.ref (pl+292)], []⟩) ((.builtin "len" ⟨[.ref (pl+292)], []⟩, posO o) :: belowLaw w (L0+292) p0), (), gl, toldM o, toldI o, flatO o) := by
  cases b1 <;> kernel_rfl
theorem lp_seg2 (w : World) (b1 b2 : Bool) (L0 pl dd : Nat) (p0 p : Pos) (ps : List Value) (np N T : Nat) (gl gl' : List GenState) (n : Int) (t : Tok) (N' T' : Nat) : let o := run (XX w b1 b2 tb []) [] (resumeO (rLp1 w b1 b2 L0 pl dd p0 p ps np N T gl) (.ok (.ret (.int n t))) [] gl' N' T')
    seen (fun env => ()) o = some (toldA o, toldC o, toldO o, .done (.ret (.int n t)), ctxIn (.builtin "len" ⟨[.ref (pl+292)], []⟩) (belowLaw w (L0+292) p0), (), gl', toldM o, toldI o, true) := by
  cases b1 <;> kernel_rfl
theorem len_pile (w : World) (b1 b2 : Bool) (L0 pl dd : Nat) (p0 p : Pos) (ps : List Value) (np T : Nat) (hh : Int) (kh ti : Tok) (nd : Nat) (xs : List (Str × Str)) (d : Drawn) (ox : OsState) (R : Result → Shared → Prop) (h : Heap)
    (hz : ps.length ≤ 900) (hne : xs ≠ []) (hx : ∀ x ∈ xs, x.1.length + x.2.length ≤ 1000) (G : Glob (XX w b1 b2 tb []) h) (fpl : h.get? (pl+292) = some (pileO (dd+292) ps np)) (fdd : h.get? (dd+292) = some (dictO [⟨hh, .str (nm "_initial_size") kh, .int 0 ti⟩] nd)) (f215 : h.get? 215 = some cacheO) (hps : All2 (PieceV h) ps xs)
    (K : ∀ h' T' t vs, Ext [215] h h' → h'.get? 215 = some (cachedO vs) → R (.ok (.ret (.int (kvLen xs) t))) ⟨h', ⟨gl2⟩, d, T', ox⟩) :
    wpCode (model PySem.Challenge.pw_pe0217_01 (setW w b1 b2)) (ctxIn (.call (.builtin "len") ⟨[.ref (pl+292)], []⟩) (belowLaw w (L0+292) p0)) R p ⟨h, ⟨[.finished]⟩, d, T, ox⟩ := by
  obtain ⟨N, hN⟩ := le_size fpl (Nat.le_add_left _ _)
  refine code_loop (X0 := XX w b1 b2 tb []) (X := XX w b1 b2 tb []) (N := N) (own := []) (lp_seg0 w b1 b2 L0 pl dd p0 p ps np N T _) rfl rfl rfl trivial hN G ⟨fpl, trivial⟩ ⟨trivial, trivial⟩ ⟨Nat.le_add_left _ _, trivial⟩ rfl fun h1 T1 p1 st1 hV1 D1 E1' hnQ => ?_
  have gpl1 := E1'.keep _ _ fpl (by kt_eqs)
  have gdd1 := E1'.keep _ _ fdd (by kt_eqs)
  have g2151 := E1'.keep _ _ f215 (by kt_eqs)
  have hps1 := pieces_ext E1' (by simp) hps
  obtain ⟨N1, hN1⟩ := le_size gpl1 (Nat.le_add_left _ _)
  refine hnQ ?_
  refine code_of_builtin PySem.entry_len ?_
  unfold Builtin.«len»
  refine WA.bind (m := oneArg "len" _) (WA.pure ?_)
  refine WA.bind (m := callSpecial? (.ref (pl+292)) (nm "__len__")) (WA.special (env := [⟨pl+292, pileO (dd+292) ps np, false⟩]) (N := N1) fun p2 => ?_)
  refine means_of_cut (X := XX w b1 b2 tb []) (lp_seg1 w b1 b2 L0 pl dd p0 p2 ps np N1 T1 _) trivial (on_dif hN1 D1.glob ⟨gpl1, trivial⟩ ⟨trivial, trivial⟩ ⟨Nat.le_add_left _ _, trivial⟩) fun h2 T2 st2 hrun2 hV2 D2 E2 => ?_
  have E2' : Ext [] h1 h2 := E2
  have gpl2 := E2'.keep _ _ gpl1 (by kt_eqs)
  have gdd2 := E2'.keep _ _ gdd1 (by kt_eqs)
  have g2152 := E2'.keep _ _ g2151 (by kt_eqs)
  have hps2 := pieces_ext E2' (by simp) hps1
  refine len_call w b1 b2 L0 pl dd p0 _ _ ps np T2 hh kh ti nd xs d ox _ h2 hz hne hx D2.glob gpl2 gdd2 g2152 hps2 ?_
  intro h3 T3 t vs E3 gc3
  have gpl3 := E3.keep _ _ gpl2 (by kt_eqs)
  obtain ⟨N3, hN3⟩ := le_size gpl3 (Nat.le_add_left _ _)
  have G3 : Glob (XX w b1 b2 tb []) h3 := E3.glob (X := XX w b1 b2 tb []) (fun c hc => .inr (by simp at hc; simp [hc, XX, tb])) D2.glob
  refine back_done (X0 := XX w b1 b2 tb []) (X := XX w b1 b2 tb []) (own := []) hrun2 (lp_seg2 w b1 b2 L0 pl dd p0 p2 ps np N1 T1 _ [.finished, .finished] (kvLen xs) t N3 T3) rfl rfl rfl trivial hN3 G3 trivial trivial trivial fun h4 T4 st4 hV4 D4 E4' hnQ => ?_
  have hk := kvLen_le hx
  have hl := hps.length
  refine hnQ ?_
  show WA _ _ (holding _ (asIndex _) >>= _) _ _ _
  refine WA.bind (WA.any (wpAny_holding (wpAny_pure ?_)))
  refine WA.bind (WA.any (wpAny_letGo ?_))
  show WA _ _ (if (kvLen xs : Int) < 0 then _ else _) _ _ _
  rw [if_neg (by omega)]
  show WA _ _ (if (kvLen xs : Int) ≥ 2 ^ 63 then _ else _) _ _ _
  rw [if_neg (by omega)]
  refine WA.bind (WA.any (wpAny_mkInt ?_))
  refine WA.pure fun p5 => ?_
  exact K h4 _ _ vs ((((E1'.trans E2').trans E3).trans E4').drop (by kt_ors)) (E4'.keep _ _ gc3 (by kt_eqs))
end
end Mine

namespace Mine
noncomputable section
open PySem PySem.W PySem.W.X
set_option maxHeartbeats 4000000
noncomputable def rL5a (w : World) (b1 b2 : Bool) (F : LwF) (l : List (Str × Value)) : Option St := rL w b1 b2 [1, 0, 1, 1, 0] 5 F l []
noncomputable def rL5b (w : World) (b1 b2 : Bool) (F : LwF) (l : List (Str × Value)) (q pr : Nat) (G : LwG) (o1 o2 : Obj) : Option St :=
  run (XX w b1 b2 tb []) [2, 3, 2] (stB (rL5a w b1 b2 F l) F.L (.ref (q+292)) G l [⟨pr+292, o1, false⟩, ⟨q+292, o2, false⟩])
noncomputable def rL5c (w : World) (b1 b2 : Bool) (F : LwF) (l : List (Str × Value)) (q pr : Nat) (G : LwG) (o1 o2 : Obj) (G' : LwG) (pl : Nat) (o3 : Obj) : Option St :=
  run (XX w b1 b2 tb []) [0, 0, 1, 0, 0, 0, 0, 2, 0, 0, 0, 0] (stB (rL5b w b1 b2 F l q pr G o1 o2) F.L (.bool false) G' l [⟨pl+292, o3, false⟩])
noncomputable def stBg (o : Option St) (gl : List GenState) (L : Nat) (v : Value) (G : LwG) (l : List (Str × Value)) (env : List Ent) : St :=
  resumeO o (.ok (.ret v)) (⟨L+292, frameO (mkK G.h G.k 0 l) G.nL, true⟩ :: env) gl G.N G.T
noncomputable def stLg (w : World) (j : Nat) (F : LwF) (l : List (Str × Value)) (env : List Ent) : St :=
  ⟨ctxIn (fcode w 291 (F.L+292)) below0, F.p, execsF [stmtAt w 291 j] (cenv w 291 (F.L+292)), [], ⟨F.L+292, frameO (mkK F.h F.k 0 l) F.nL, true⟩ :: env, gl2, F.N, 0, F.T, 0, [], [], []⟩
end
end Mine

namespace Mine
noncomputable section
open PySem PySem.W PySem.W.X PySem.Calls PyProof.Rows
set_option maxHeartbeats 4000000
theorem bounds_0 (n : Nat) : sliceBounds (some 0) none none n = (0, (n : Int), 1) := by
  simp only [sliceBounds, Option.getD_none]
  simp only [show (1 : Int) > 0 by decide, if_true]
  simp
  omega
theorem pick_all0 (items : Array Value) : slicePick items (some 0) none none = items := by
  have z := slicePick_from items 0 (Nat.zero_le _)
  simpa using z
theorem wpAny_items {M : Model} {A : Around} {E : Value → Shared → Prop} {s : Shared} {a : Addr} {o : Obj} {items : Array Value} {n : Nat} {Q : Array Value → Shared → Prop} (ha : s.heap.get? a = some o) (hd : o.data = .seq items n) (h : Q items s) : wpAny M A (Builtin.List.listItems (.ref a)) Q E s := by
  unfold Builtin.List.listItems
  exact wpAny_bind (wpAny_seqItems ha hd (wpAny_pure h))
theorem meets_slice (c : Value) (dd : Option Addr) (l b : Addr) (items : Array Value) (n : Nat) (t : Tok) (hz : items.size ≤ sizeLine) :
    Meets (Builtin.«list.__getitem__» ⟨[.ref l, .ref b], []⟩) (fun _ R s => s.heap.get? l = some { cls := c, dict := dd, data := .seq items n, slots := #[] } ∧ s.heap.get? b = some (sliceO (.int 0 t) .none .none) ∧ R (.ok (.ret (.ref s.heap.objs.size))) { s with heap := s.heap.push ⟨.type "list", none, .seq items 0, #[]⟩ }) :=
  .of_wp fun prog w A R s h => by
    obtain ⟨hl, hb, h⟩ := h
    have hTs : s.TypeIs (.ref b) "slice" := ⟨_, hb, rfl⟩
    show wpAny _ _ (Builtin.List.listSubscript? (.ref b) >>= _) _ _ s
    refine wpAny_bind ?_
    unfold Builtin.List.listSubscript?
    refine wpAny_bind (wpAny_specialOf hTs slice_no_index ?_)
    simp only [Option.isNone_none, if_true]
    refine wpAny_pure ?_
    show wpAny _ _ (typeOf (.ref b) >>= _) _ _ s
    refine wpAny_bind (wpAny_typeOf hTs ?_)
    rw [if_neg (by decide)]
    rw [listSliceParts_eq]
    refine wpAny_bind (wpAny_bind (wpAny_field hb (vs := #[.int 0 t, .none, .none]) rfl (x := .none) rfl (wpAny_bind (wpAny_listPart .none ?_))))
    rw [if_neg (show ¬ ((rawPart none == rawInt 0) = true) from Bool.false_ne_true)]
    refine wpAny_bind (wpAny_field hb (vs := #[.int 0 t, .none, .none]) rfl (x := .int 0 t) rfl (wpAny_bind (wpAny_listPart (.int 0 t) ?_)))
    refine wpAny_bind (wpAny_field hb (vs := #[.int 0 t, .none, .none]) rfl (x := .none) rfl (wpAny_bind (wpAny_listPart .none (wpAny_pure ?_))))
    refine wpAny_bind (m := Builtin.List.listItems (.ref l)) ?_
    unfold Builtin.List.listItems
    refine wpAny_bind (wpAny_seqItems hl (items := items) rfl (wpAny_pure ?_))
    refine wpAny_bind (wpAny_of_eq (sliceIndices_raw (some 0) none none items.size (by simp)) ?_)
    refine wpAny_bind (wpAny_newObj_type (wpAny_pure ⟨_, rfl, ?_⟩) (Nat.le_trans (slicePick_size_le items (some 0) none none) hz))
    have e := pick_all0 items
    unfold slicePick at e
    rw [e]
    exact h
theorem meets_clear (c : Value) (dd : Option Addr) (l b e : Addr) (items : Array Value) (n n2 : Nat) (t : Tok) (hz : items.size ≤ sizeLine) (h0 : 0 < items.size) (hle : l ≠ e) :
    Meets (Builtin.«list.__setitem__» ⟨[.ref l, .ref b, .ref e], []⟩) (fun _ R s => s.heap.get? l = some { cls := c, dict := dd, data := .seq items n, slots := #[] } ∧ s.heap.get? b = some (sliceO (.int 0 t) .none .none) ∧ s.heap.get? e = some (listO [] n2) ∧ R (.ok (.ret .none)) { s with heap := s.heap.update l (fun _ => { cls := c, dict := dd, data := .seq #[] (n+1), slots := #[] }) }) :=
  .of_wp fun prog w A R s h => by
    obtain ⟨hl, hb, he, h⟩ := h
    have hTs : s.TypeIs (.ref b) "slice" := ⟨_, hb, rfl⟩
    have hTe : s.TypeIs (.ref e) "list" := ⟨_, he, rfl⟩
    show wpAny _ _ (Builtin.List.listSubscript? (.ref b) >>= _) _ _ s
    refine wpAny_bind ?_
    unfold Builtin.List.listSubscript?
    refine wpAny_bind (wpAny_specialOf hTs slice_no_index ?_)
    simp only [Option.isNone_none, if_true]
    refine wpAny_pure ?_
    show wpAny _ _ (typeOf (.ref b) >>= _) _ _ s
    refine wpAny_bind (wpAny_typeOf hTs ?_)
    rw [if_neg (by decide)]
    rw [listSliceParts_eq]
    refine wpAny_bind (wpAny_bind (wpAny_field hb (vs := #[.int 0 t, .none, .none]) rfl (x := .none) rfl (wpAny_bind (wpAny_listPart .none ?_))))
    rw [if_neg (show ¬ ((rawPart none == rawInt 0) = true) from Bool.false_ne_true)]
    refine wpAny_bind (wpAny_field hb (vs := #[.int 0 t, .none, .none]) rfl (x := .int 0 t) rfl (wpAny_bind (wpAny_listPart (.int 0 t) ?_)))
    refine wpAny_bind (wpAny_field hb (vs := #[.int 0 t, .none, .none]) rfl (x := .none) rfl (wpAny_bind (wpAny_listPart .none (wpAny_pure ?_))))
    have hne : Builtin.List.listSameRef (.ref l) (.ref e) = false := by simp [Builtin.List.listSameRef, hle]
    simp only [hne, Bool.false_eq_true, if_false]
    unfold Builtin.List.listAllItems
    refine wpAny_bind (wpAny_bind (wpAny_typeOf hTe ?_))
    rw [if_pos (by decide)]
    refine wpAny_items he (items := #[]) rfl ?_
    refine wpAny_bind (wpAny_items hl rfl ?_)
    refine wpAny_bind (wpAny_of_eq (sliceIndices_raw (some 0) none none items.size (by simp)) ?_)
    rw [bounds_0]
    show wpAny _ _ (if ((1 : Int) == 1) = true then _ else _) _ _ s
    rw [if_pos (by decide)]
    refine wpAny_bind (wpAny_rule ?_)
    have hlong : Builtin.List.listTooLong (items.size + (#[] : Array Value).size) = false := by
      show decide _ = false
      rw [decide_eq_false_iff_not]
      simp
      exact hz
    rw [hlong]
    simp only [Bool.false_eq_true, if_false]
    have hf : (fun xs : Array Value => xs.extract 0 (0 : Int).toNat ++ #[] ++ xs.extract (max 0 (items.size : Int)).toNat xs.size) items = #[] := by
      simp
    have hm : Obj.mapSeq (fun xs : Array Value => xs.extract 0 (0 : Int).toNat ++ #[] ++ xs.extract (max 0 (items.size : Int)).toNat xs.size) { cls := c, dict := dd, data := .seq items n, slots := #[] } = { cls := c, dict := dd, data := .seq #[] (n+1), slots := #[] } := by
      simp only [Obj.mapSeq, hf]
      rw [if_neg]
      simp
      omega
    show wpAny _ _ (updateSeq l _ >>= _) _ _ s
    refine wpAny_bind (wpAny_updateSeq hl rfl ?_ hz (by simp))
    refine wpAny_bind (wpAny_letGo (wpAny_pure ⟨_, rfl, ?_⟩))
    have e := update_const (f := Obj.mapSeq (fun xs : Array Value => xs.extract 0 (0 : Int).toNat ++ #[] ++ xs.extract (max 0 (items.size : Int)).toNat xs.size)) hl
    rw [hm] at e
    rw [e]
    exact h
noncomputable def hkAll (j jb : Nat) (l b : Addr) (dd : Addr) (its : List Value) (n : Nat) (t : Tok) : Hook :=
  ⟨.call (.builtin "list.__getitem__") ⟨[.ref (l+292), .ref b], []⟩, [(j, l+292, pileO (dd+292) its n, none), (jb, b, sliceO (.int 0 t) .none .none, none)], fun _ a => .ok (.ret (.ref a)), fun _ => [listO its 0], 0⟩
noncomputable def hkClear (j jb je : Nat) (l b e : Addr) (dd : Addr) (its : List Value) (n n2 : Nat) (t : Tok) : Hook :=
  ⟨.call (.builtin "list.__setitem__") ⟨[.ref (l+292), .ref b, .ref e], []⟩, [(jb, b, sliceO (.int 0 t) .none .none, none), (je, e, listO [] n2, none), (j, l+292, pileO (dd+292) its n, some (pileO (dd+292) [] (n+1)))], fun _ _ => .ok (.ret .none), fun _ => [], 0⟩
theorem peel_all (w : World) (b1 b2 : Bool) (l b dd : Nat) (its : List Value) (n : Nat) : let o := peel (XX w b1 b2 tb []) [⟨l+292, pileO (dd+292) its n, true⟩] 400 [1, 0] [] (den (.call (.builtin "list.__getitem__") ⟨[.ref (l+292), .ref b], []⟩))
    peelSeen o = some (.builtin "list.__getitem__" ⟨[.ref (l+292), .ref b], []⟩, peelEq o) := by
  cases b1 <;> kernel_rfl
theorem peel_clear (w : World) (b1 b2 : Bool) (l b e dd : Nat) (its : List Value) (n : Nat) : let o := peel (XX w b1 b2 tb []) [⟨l+292, pileO (dd+292) its n, true⟩] 400 [1, 0] [] (den (.call (.builtin "list.__setitem__") ⟨[.ref (l+292), .ref b, .ref e], []⟩))
    peelSeen o = some (.builtin "list.__setitem__" ⟨[.ref (l+292), .ref b, .ref e], []⟩, peelEq o) := by
  cases b1 <;> kernel_rfl
theorem ok_all {w : World} {b1 b2 : Bool} {hs : List Hook} {j jb l dd : Nat} {b : Addr} {its : List Value} {n : Nat} {t : Tok} (hz : its.length ≤ 1000) : HookOk (XX w b1 b2 tb hs) (hkAll j jb l b dd its n t) := by
  refine hook_xx (hook_peel (E := [⟨l+292, pileO (dd+292) its n, true⟩]) (fun h hp e he => ?_) (peel_all w b1 b2 l b dd its n) (by decide +kernel) F.entry_list_getitem (meets_slice (.ref 253) (some (dd+292)) (l+292) b ⟨its⟩ n t (by rw [sizeL]; show its.length ≤ _; omega)) fun A R s hh hp hr => ?_)
  · simp only [List.mem_cons, List.not_mem_nil, or_false] at he
    subst he
    exact hp.1
  · exact ⟨hp.1, hp.2.1, hr⟩
theorem ok_clear {w : World} {b1 b2 : Bool} {hs : List Hook} {j jb je l dd : Nat} {b e : Addr} {its : List Value} {n n2 : Nat} {t : Tok} (hz : its.length ≤ 1000) (h0 : 0 < its.length) (hle : l+292 ≠ e) : HookOk (XX w b1 b2 tb hs) (hkClear j jb je l b e dd its n n2 t) := by
  refine hook_xx (hook_peel (E := [⟨l+292, pileO (dd+292) its n, true⟩]) (fun h hp e he => ?_) (peel_clear w b1 b2 l b e dd its n) (by decide +kernel) F.entry_list_setitem (meets_clear (.ref 253) (some (dd+292)) (l+292) b e ⟨its⟩ n n2 t (by rw [sizeL]; show its.length ≤ _; omega) h0 hle) fun A R s hh hp hr => ?_)
  · simp only [List.mem_cons, List.not_mem_nil, or_false] at he
    subst he
    exact hp.2.2.1
  · exact ⟨hp.2.2.1, hp.1, hp.2.1, hr⟩
end
end Mine

namespace Mine
noncomputable section
open PySem PySem.W PySem.W.X
set_option maxHeartbeats 4000000
theorem pf_seg (w : World) (b1 b2 : Bool) (L0 pl dd : Nat) (p0 p : Pos) (ps : List Value) (np : Nat) (ti : Tok) (N T : Nat) : let o := run (XX w b1 b2 tb [hkAll 2 0 pl (N+293) dd ps np ti, hkClear 5 0 1 pl (N+296) (N+295) dd ps np 0 ti]) [0, 0, 0, 1, 1, 1, 1, 0, 0, 1, 1, 3, 0, 0, 0, 3, 0, 3, 0, 0, 0, 1, 3, 3, 4, 4, 6, 0, 6, 0, 0, 0, 2, 5] (begin (ctxIn (.call (.ref 205) ⟨[.ref (pl+292), .int 0 ti], []⟩) (belowLaw w (L0+292) p0)) p [⟨pl+292, pileO (dd+292) ps np, true⟩] gl2 N T)
    seen (fun env => (nth env 2, nth env 5)) o = some (toldA o, toldC o, toldO o, .done (.ret (.ref (N+294))), ctxIn (fcode w 205 (N+292)) (belowLaw w (L0+292) p0), (some ⟨N+294, listO ps 0, true⟩, some ⟨pl+292, pileO (dd+292) [] (np+1), true⟩), gl2, toldM o, toldI o, true) := by
  cases b1 <;> kernel_rfl
theorem popf_call (w : World) (b1 b2 : Bool) (L0 pl dd : Nat) (p0 p : Pos) (ps : List Value) (np : Nat) (ti : Tok) (T : Nat) (d : Drawn) (ox : OsState) (R : Result → Shared → Prop) (h : Heap)
    (hz : ps.length ≤ 900) (h0 : 0 < ps.length) (G : Glob (XX w b1 b2 tb []) h) (fpl : h.get? (pl+292) = some (pileO (dd+292) ps np))
    (K : ∀ h' T' (pc : Nat), Ext [pl+292] h h' → h.objs.size ≤ pc + 292 → h'.get? (pc+292) = some (listO ps 0) → h'.get? (pl+292) = some (pileO (dd+292) [] (np+1)) → R (.ok (.ret (.ref (pc+292)))) ⟨h', ⟨gl2⟩, d, T', ox⟩) :
    wpCode (model PySem.Challenge.pw_pe0217_01 (setW w b1 b2)) (ctxIn (.call (.ref 205) ⟨[.ref (pl+292), .int 0 ti], []⟩) (belowLaw w (L0+292) p0)) R p ⟨h, ⟨gl2⟩, d, T, ox⟩ := by
  obtain ⟨N, hN⟩ := le_size fpl (Nat.le_add_left _ _)
  have lpl := lt_of_get fpl hN
  refine code_done (X0 := XX w b1 b2 tb []) (X := XX w b1 b2 tb [hkAll 2 0 pl (N+293) dd ps np ti, hkClear 5 0 1 pl (N+296) (N+295) dd ps np 0 ti]) (N := N) (pf_seg w b1 b2 L0 pl dd p0 p ps np ti N T) rfl rfl rfl ⟨ok_all (by omega), ok_clear (by omega) h0 (by show (pl+292 : Nat) ≠ N+295; omega), trivial⟩ hN G ⟨fpl, trivial⟩ ⟨trivial, trivial⟩ ⟨Nat.le_add_left _ _, trivial⟩ fun h1 T1 st1 hV1 D1 E1 hnQ => ?_
  simp only [Prod.mk.injEq] at hV1
  refine hnQ ?_
  exact K h1 T1 (N+2) E1 (by rw [hN]; show (N+292 : Nat) ≤ N + 2 + 292; omega) (D1.at hV1.1) (D1.at hV1.2)
end
end Mine

namespace Mine
noncomputable section
open PySem PySem.W PySem.W.X
set_option maxHeartbeats 4000000
noncomputable def gaE (w : World) : PySem.Expr := retE (stmtAt w 108 1)
noncomputable def gaC (c : Addr) : List (Str × Addr) := [(nm "name", c)]
noncomputable def gaEnv (w : World) (L Lc c : Addr) : Env := compEnv (scopeOf (gaE w)) Lc (gaC c) (cenvC w 108 L (gaC c))
noncomputable def gaLoop (w : World) (it acc L Lc c : Addr) : Code := .compLoop (gaE w) 0 (.ref it) (.ref acc) (gaEnv w L Lc c)
noncomputable def gaStart (w : World) (it acc L Lc c : Addr) : Code := .compStart (gaE w) 0 (.ref it) (.ref acc) (gaEnv w L Lc c)
noncomputable def belowGa (w : World) (L0 L c : Addr) (p0 p1 : Pos) : List (Code × Pos) := (fcodeC w 108 L (gaC c), p1) :: belowLaw w L0 p0
structure GaA where
  (L0 hd dd hl : Nat)
  (p0 p : Pos)
  S : Str
  ts : Tok
  hh : Int
  kh : Tok
  nd : Nat
  its : List Value
  (n N T : Nat)
noncomputable def rGa0 (w : World) (b1 b2 : Bool) (A : GaA) : Option St :=
  run (XX w b1 b2 tb [hkStr "str.lower" [.str A.S A.ts] (lowS A.S), hkVal "re.Pattern.search" [.ref 43, .str (lowS A.S) (A.T+1)] .none]) [0, 0, 2, 2, 1, 1, 0, 0, 2, 3, 0, 0, 0, 3, 0, 0, 0, 3, 0, 0, 0, 0, 3, 4, 1, 1, 0, 0, 0, 0, 1, 1, 1, 1, 1, 1, 0, 0, 0, 0, 1, 0, 0, 0, 0, 1, 0, 1, 1, 1, 0, 0, 0, 0, 1, 2, 1, 2, 2, 3, 4, 0, 0, 0, 0, 4, 0, 0, 0, 4, 4, 0, 5, 6, 6, 0, 6, 0, 1] (begin (ctxIn (.call (.ref 108) ⟨[.ref (A.hd+292), .str A.S A.ts], []⟩) (belowLaw w (A.L0+292) A.p0)) A.p [⟨A.hd+292, hdrO (A.dd+292), false⟩, ⟨A.dd+292, dictO [⟨A.hh, .str (nm "_headers") A.kh, .ref (A.hl+292)⟩] A.nd, false⟩, ⟨A.hl+292, listO A.its A.n, false⟩] gl2 A.N A.T)
theorem ga_seg0 (w : World) (b1 b2 : Bool) (A : GaA) : let o := rGa0 w b1 b2 A
    seen (fun env => (nth env 0, nth env 1, nth env 2, nth env 4)) o = some (toldA o, toldC o, toldO o, .call (gaStart w (A.N+295) (A.N+296) (A.N+292) (A.N+297) (A.N+293)), ctxIn (gaStart w (A.N+295) (A.N+296) (A.N+292) (A.N+297) (A.N+293)) (belowGa w (A.L0+292) (A.N+292) (A.N+293) A.p0 (posO o)),
      (some ⟨A.N+297, dictO [] 0, true⟩, some ⟨A.N+296, listO [] 0, true⟩, some ⟨A.N+295, iterO (A.hl+292) 0, true⟩, some ⟨A.N+293, cellO (some (.str (lowS A.S) (A.T+1))), true⟩), gl2, toldM o, toldI o, flatO o) := by
  cases b1 <;> kernel_rfl
structure GbA where
  (L0 L it acc Lc c hl tp : Nat)
  (p0 p1 p : Pos)
  S : Str
  ts : Tok
  i : Nat
  its : List Value
  n : Nat
  accs : List Value
  na : Nat
  es : List DictEntry
  ne : Nat
  (K V : Str)
  (tk tv : Tok)
  (N T : Nat)
noncomputable def stGb (w : World) (A : GbA) : St :=
  begin (ctxIn (gaLoop w (A.it+292) (A.acc+292) (A.L+292) (A.Lc+292) (A.c+292)) (belowGa w (A.L0+292) (A.L+292) (A.c+292) A.p0 A.p1)) A.p [⟨A.it+292, iterO (A.hl+292) A.i, true⟩, ⟨A.acc+292, listO A.accs A.na, true⟩, ⟨A.Lc+292, dictO A.es A.ne, true⟩, ⟨A.hl+292, listO A.its A.n, false⟩, ⟨A.tp+292, tupO [.str A.K A.tk, .str A.V A.tv], false⟩, ⟨A.c+292, cellO (some (.str A.S A.ts)), false⟩] gl2 A.N A.T
noncomputable def gaEs (f : Bool) (z : Zs) : List DictEntry := match f with
  | true => []
  | false => [⟨z.h1, .str (nm "kv") z.k1, z.v4⟩]
noncomputable def xGb (w : World) (b1 b2 : Bool) (A : GbA) : Bool → Cx
  | true => XX w b1 b2 tb [hkNext 0 3 (A.it+292) (A.hl+292) A.its A.n A.i (.ref (A.tp+292)), hkStr "str.lower" [.str A.K A.tk] (lowS A.K), hkVal "str.__eq__" [.str (lowS A.K) (A.T+2), .str A.S A.ts] (.bool true), hkApp 1 (A.acc+292) A.accs A.na (.str A.V A.tv)]
  | false => XX w b1 b2 tb [hkNext 0 3 (A.it+292) (A.hl+292) A.its A.n A.i (.ref (A.tp+292)), hkStr "str.lower" [.str A.K A.tk] (lowS A.K), hkVal "str.__eq__" [.str (lowS A.K) (A.T+2), .str A.S A.ts] (.bool false)]
theorem gb_seg1 (w : World) (b1 b2 f : Bool) (A : GbA) (z : Zs) : let o := run (xGb w b1 b2 A true) [1, 1, 3, 3, 3, 5, 5, 5, 0, 5, 0, 5, 2, 6, 3, 3, 5, 5, 5, 0, 5, 0, 5, 4] (stGb w { A with es := gaEs f z })
    seen (fun env => (nth env 0, nth env 1, shape (nth env 2))) o = some (toldA o, toldC o, toldO o, .again (gaLoop w (A.it+292) (A.acc+292) (A.L+292) (A.Lc+292) (A.c+292)), ctxIn (gaLoop w (A.it+292) (A.acc+292) (A.L+292) (A.Lc+292) (A.c+292)) (belowGa w (A.L0+292) (A.L+292) (A.c+292) A.p0 A.p1),
      (some ⟨A.it+292, iterO (A.hl+292) (A.i+1), true⟩, some ⟨A.acc+292, listO (A.accs ++ [.str A.V A.tv]) (A.na+1), true⟩, some (A.Lc+292, some (.type "dict", none, #[], [(some (nm "kv"), .ref (A.tp+292))]))), gl2, toldM o, toldI o, true) := by
  cases f <;> cases b1 <;> kernel_rfl
theorem gb_seg0 (w : World) (b1 b2 f : Bool) (A : GbA) (z : Zs) : let o := run (xGb w b1 b2 A false) [1, 1, 3, 3, 3, 5, 5, 5, 0, 5, 0, 5, 2, 6, 3] (stGb w { A with es := gaEs f z })
    seen (fun env => (nth env 0, nth env 1, shape (nth env 2))) o = some (toldA o, toldC o, toldO o, .again (gaLoop w (A.it+292) (A.acc+292) (A.L+292) (A.Lc+292) (A.c+292)), ctxIn (gaLoop w (A.it+292) (A.acc+292) (A.L+292) (A.Lc+292) (A.c+292)) (belowGa w (A.L0+292) (A.L+292) (A.c+292) A.p0 A.p1),
      (some ⟨A.it+292, iterO (A.hl+292) (A.i+1), true⟩, some ⟨A.acc+292, listO A.accs A.na, true⟩, some (A.Lc+292, some (.type "dict", none, #[], [(some (nm "kv"), .ref (A.tp+292))]))), gl2, toldM o, toldI o, true) := by
  cases f <;> cases b1 <;> kernel_rfl
theorem gb_end (w : World) (b1 b2 : Bool) (A : GbA) : let o := run (XX w b1 b2 tb [hkEnd 0 1 (A.it+292) (A.hl+292) A.its A.n A.i]) [1, 1, 1] (begin (ctxIn (gaLoop w (A.it+292) (A.acc+292) (A.L+292) (A.Lc+292) (A.c+292)) (belowGa w (A.L0+292) (A.L+292) (A.c+292) A.p0 A.p1)) A.p [⟨A.it+292, iterO (A.hl+292) A.i, true⟩, ⟨A.hl+292, listO A.its A.n, false⟩] gl2 A.N A.T)
    seen (fun _ => ()) o = some (toldA o, toldC o, toldO o, .done .next, ctxIn (gaLoop w (A.it+292) (A.acc+292) (A.L+292) (A.Lc+292) (A.c+292)) (belowGa w (A.L0+292) (A.L+292) (A.c+292) A.p0 A.p1), (), gl2, toldM o, toldI o, true) := by
  kernel_rfl
theorem ga_done (w : World) (b1 b2 : Bool) (A : GaA) (accs : List Value) (na : Nat) (z : Zs) (nz N' T' : Nat) : let o := run (XX w b1 b2 tb []) [2, 2, 2] (resumeO (rGa0 w b1 b2 A) (.ok .next) [⟨A.N+296, listO accs na, true⟩, ⟨A.N+297, dictO (gaEs false z) nz, true⟩] gl2 N' T')
    seen (fun env => nth env 0) o = some (toldA o, toldC o, toldO o, .done (.ret (.ref (A.N+296))), ctxIn (fcodeC w 108 (A.N+292) (gaC (A.N+293))) (belowLaw w (A.L0+292) A.p0), some ⟨A.N+296, listO accs na, true⟩, gl2, toldM o, toldI o, true) := by
  cases b1 <;> kernel_rfl
end
end Mine

namespace Mine
noncomputable section
open PySem PySem.W PySem.W.X
set_option maxHeartbeats 4000000
theorem gaEs_of {es : List DictEntry} {v : Value} (h : kvs es = [(some (nm "kv"), v)]) : ∃ z, es = gaEs false z := by
  obtain ⟨z1, k1, r1, rfl, h1⟩ := kvs_cons h
  cases kvs_nil h1
  exact ⟨⟨z1, 0, 0, 0, 0, 0, k1, 0, 0, 0, 0, 0, v, .none, .none⟩, rfl⟩
noncomputable def selG (S : Str) (x : Str × Str) : Option Str := if ((lowS x.1).cps.toList == (lowS S).cps.toList) = true then some x.2 else none
theorem geta_call (w : World) (b1 b2 : Bool) (L0 hd dd hl : Nat) (p0 p : Pos) (S : Str) (ts : Tok) (hh : Int) (kh : Tok) (nd : Nat) (its : List Value) (n T : Nat) (xs : List (Str × Str)) (d : Drawn) (ox : OsState) (R : Result → Shared → Prop) (h : Heap)
    (hS : NameS S) (hx : ∀ x ∈ xs, NameS x.1) (hz : its.length ≤ 900) (h0 : 0 < its.length) (G : Glob (XX w b1 b2 tb []) h) (f1 : h.get? (hd+292) = some (hdrO (dd+292))) (f2 : h.get? (dd+292) = some (dictO [⟨hh, .str (nm "_headers") kh, .ref (hl+292)⟩] nd)) (f3 : h.get? (hl+292) = some (listO its n)) (hps : All2 (PieceV h) its xs)
    (K : ∀ h' T' (ga : Nat) gas nga, Ext [] h h' → h.objs.size ≤ ga + 292 → h'.get? (ga+292) = some (listO gas nga) → All2 StrV gas (xs.filterMap (selG S)) → R (.ok (.ret (.ref (ga+292)))) ⟨h', ⟨gl2⟩, d, T', ox⟩) :
    wpCode (model PySem.Challenge.pw_pe0217_01 (setW w b1 b2)) (ctxIn (.call (.ref 108) ⟨[.ref (hd+292), .str S ts], []⟩) (belowLaw w (L0+292) p0)) R p ⟨h, ⟨gl2⟩, d, T, ox⟩ := by
  obtain ⟨N, hN⟩ := le_size f1 (Nat.le_add_left _ _)
  have l1 := lt_of_get f1 hN
  have l2 := lt_of_get f2 hN
  have l3 := lt_of_get f3 hN
  let A : GaA := ⟨L0, hd, dd, hl, p0, p, S, ts, hh, kh, nd, its, n, N, T⟩
  refine code_cut (X0 := XX w b1 b2 tb []) (X := XX w b1 b2 tb [hkStr "str.lower" [.str S ts] (lowS S), hkVal "re.Pattern.search" [.ref 43, .str (lowS S) (T+1)] .none]) (N := N) (own := []) (ga_seg0 w b1 b2 A) rfl rfl rfl ⟨ok_lower hS ts, ok_name (low_name hS) _, trivial⟩ hN G ⟨f1, f2, f3, trivial⟩ ?_ ?_ fun h1 T1 st1 hrun1 hV1 D1 E1' hnQ => ?_
  · ktd_rel
  · kt_len
  obtain ⟨u0, u1, u2, u3⟩ := pr4 hV1
  have gLc : h1.get? (N+297) = some (dictO [] 0) := D1.at u0
  have gacc : h1.get? (N+296) = some (listO [] 0) := D1.at u1
  have git : h1.get? (N+295) = some (iterO (hl+292) 0) := D1.at u2
  have gc : h1.get? (N+293) = some (cellO (some (.str (lowS S) (T+1)))) := D1.at u3
  have ghl := E1'.keep _ _ f3 (by kt_eqs)
  have hps1 := pieces_ext E1' (by simp) hps
  refine hnQ ?_
  refine comp_start (by kernel_rfl) (by kernel_rfl) rfl (iter_list (l := hl+292) (i := 0) git) fun p' => ?_
  let Γc : Ctx := ctxIn (gaLoop w (N+3+292) (N+4+292) (N+292) (N+5+292) (N+1+292)) (belowGa w (L0+292) (N+292) (N+1+292) p0 (posO (rGa0 w b1 b2 A)))
  refine pieces_comp (γ := Str) w b1 b2 Γc (N+3) (N+4) (N+5) hl its n xs gaEs (fun _ v g => StrV v g) (selG S) (gl := gl2) d ox _ h1 p' T1 (fun _ => rfl) D1.glob git gacc gLc ghl (fun e => by omega) hps1 (by omega) (fun _ _ _ _ _ _ q => q) ?_ ?_
  · intro i x tp tk tv f z ne accs na h p T' N' hN' G' hv hm qit qacc qLc ql qt hal E K'
    have qc := E.keep _ _ gc (by kt_eqs)
    have la := lt_of_get qacc hN'
    have ll := lt_of_get ql hN'
    have lt := lt_of_get qt hN'
    let B : GbA := ⟨L0, N, N+3, N+4, N+5, N+1, hl, tp, p0, posO (rGa0 w b1 b2 A), p, lowS S, T+1, i, its, n, accs, na, gaEs f z, ne, x.1, x.2, tk, tv, N', T'⟩
    have dif : Dif [⟨N+3+292, iterO (hl+292) i, true⟩, ⟨N+4+292, listO accs na, true⟩, ⟨N+5+292, dictO (gaEs f z) ne, true⟩, ⟨hl+292, listO its n, false⟩, ⟨tp+292, tupO [.str x.1 tk, .str x.2 tv], false⟩, ⟨N+1+292, cellO (some (.str (lowS S) (T+1))), false⟩] := by
      ktd_rel
    have ge : AllE (fun e => 292 ≤ e.a) [⟨N+3+292, iterO (hl+292) i, true⟩, ⟨N+4+292, listO accs na, true⟩, ⟨N+5+292, dictO (gaEs f z) ne, true⟩, ⟨hl+292, listO its n, false⟩, ⟨tp+292, tupO [.str x.1 tk, .str x.2 tv], false⟩, ⟨N+1+292, cellO (some (.str (lowS S) (T+1))), false⟩] := by kt_len
    cases hr : ((lowS x.1).cps.toList == (lowS S).cps.toList) with
    | true =>
      refine code_loop (X0 := XX w b1 b2 tb []) (X := xGb w b1 b2 B true) (N := N') (gb_seg1 w b1 b2 f B z) rfl rfl rfl ⟨hkNext_ok hv, ok_lower (hx x hm) tk, ok_seq hr, ok_app (by rw [sizeL]; show accs.length ≤ _; omega), trivial⟩ hN' G' ⟨qit, qacc, qLc, ql, qt, qc, trivial⟩ dif ge rfl fun h3 T3 p3 st3 hV3 D3 E3 hnQ => ?_
      obtain ⟨a0, a1, a2⟩ := pr3 hV3
      obtain ⟨es3, ne3, ow3, e3, hk3⟩ := shape_ok a2
      obtain ⟨z3, rfl⟩ := gaEs_of hk3
      refine hnQ ?_
      refine K' h3 p3 T3 _ _ z3 ne3 E3 (D3.at a0) (D3.at a1) (D3.at e3) ?_
      simp only [selG, hr, if_true]
      exact ⟨_, rfl, _, rfl⟩
    | false =>
      refine code_loop (X0 := XX w b1 b2 tb []) (X := xGb w b1 b2 B false) (N := N') (gb_seg0 w b1 b2 f B z) rfl rfl rfl ⟨hkNext_ok hv, ok_lower (hx x hm) tk, ok_seq hr, trivial⟩ hN' G' ⟨qit, qacc, qLc, ql, qt, qc, trivial⟩ dif ge rfl fun h3 T3 p3 st3 hV3 D3 E3 hnQ => ?_
      obtain ⟨a0, a1, a2⟩ := pr3 hV3
      obtain ⟨es3, ne3, ow3, e3, hk3⟩ := shape_ok a2
      obtain ⟨z3, rfl⟩ := gaEs_of hk3
      refine hnQ ?_
      refine K' h3 p3 T3 _ _ z3 ne3 E3 (D3.at a0) (D3.at a1) (D3.at e3) ?_
      simp only [selG, hr, Bool.false_eq_true, if_false]
      rfl
  · intro f z ne accs na h2 p2 T2 N2 hN2 G2 qit qacc qLc ql E hO hf
    cases f with
    | true =>
      have e := hf rfl
      rw [e] at h0
      cases h0
    | false =>
    have la := lt_of_get ql hN2
    let B : GbA := ⟨L0, N, N+3, N+4, N+5, N+1, hl, 0, p0, posO (rGa0 w b1 b2 A), p2, lowS S, T+1, its.length, its, n, [], 0, [], 0, emp, emp, 0, 0, N2, T2⟩
    refine code_done (X0 := XX w b1 b2 tb []) (X := XX w b1 b2 tb [hkEnd 0 1 (N+3+292) (hl+292) its n its.length]) (N := N2) (own := [N+3+292]) (gb_end w b1 b2 B) rfl rfl rfl ⟨hkEnd_ok (by simp), trivial⟩ hN2 G2 ⟨qit, ql, trivial⟩ ?_ ?_ fun h3 T3 st3 hV3 D3 E3' hnQ => ?_
    · ktd_rel
    · kt_len
    have qacc3 := E3'.keep _ _ qacc (by kt_eqs)
    have qLc3 := E3'.keep _ _ qLc (by kt_eqs)
    obtain ⟨N3, hN3⟩ := le_size qacc3 (Nat.le_add_left _ _)
    refine hnQ ?_
    refine back_done (X0 := XX w b1 b2 tb []) (X := XX w b1 b2 tb []) (own := [N+4+292, N+5+292]) hrun1 (ga_done w b1 b2 A accs na z ne N3 T3) rfl rfl rfl trivial hN3 (glob_ext E3' (by kt_len) G2) ⟨qacc3, qLc3, trivial⟩ ?_ ?_ fun h4 T4 st4 hV4 D4 E4' hnQ => ?_
    · ktd_rel
    · kt_len
    refine hnQ ?_
    refine K h4 T4 (N+4) accs na ((((E1'.trans E).trans E3').trans E4').drop (by kt_ors)) (by rw [hN]; show (N+292 : Nat) ≤ N+4+292; omega) (D4.at hV4) hO
end
end Mine

namespace Mine
noncomputable section
open PySem PySem.W PySem.W.X
set_option maxHeartbeats 4000000
noncomputable def posB (j : Nat) : Option St → Pos
  | some s => ((s.Γ.below.map (·.2)).getD j default)
  | none => default
theorem lw5_a (w : World) (b1 b2 : Bool) (F : LwF) (a wd pl pr sp lf : Nat) (td : Value) : let o := rL5a w b1 b2 F (lv5 a wd pl pr sp lf td)
    seen (fun env => shape (nth env 0)) o = some (toldA o, toldC o, toldO o, .call (.call (.ref 281) ⟨[.ref (wd+292), .ref (sp+292)], []⟩), ctxIn (.call (.ref 281) ⟨[.ref (wd+292), .ref (sp+292)], []⟩) (belowLaw w (F.L+292) (posO o)), some (F.L+292, some (.type "frame", none, #[], kvL (lv5 a wd pl pr sp lf td))), [], toldM o, toldI o, flatO o) := by
  cases b1 <;> kernel_rfl
theorem lw5_b (w : World) (b1 b2 : Bool) (F : LwF) (a wd pl pr sp lf q : Nat) (td : Value) (G : LwG) (v1 v2 : List Value) (n1 n2 : Nat) : let o := rL5b w b1 b2 F (lv5 a wd pl pr sp lf td) q pr G (listO v1 n1) (listO v2 n2)
    seen (fun env => shape (nth env 0)) o = some (toldA o, toldC o, toldO o, .call (.call (.builtin "list.__ne__") ⟨[.ref (pr+292), .ref (q+292)], []⟩), ctxIn (.call (.builtin "list.__ne__") ⟨[.ref (pr+292), .ref (q+292)], []⟩) (belowLaw w (F.L+292) (posO o)), some (F.L+292, some (.type "frame", none, #[], kvL (lv5 a wd pl pr sp lf td))), [], toldM o, toldI o, flatO o) := by
  cases b1 <;> kernel_rfl
theorem lw5_c (w : World) (b1 b2 : Bool) (F : LwF) (a wd pl pr sp lf q dd : Nat) (td : Value) (G G' : LwG) (v1 v2 ps : List Value) (n1 n2 np : Nat) : let o := rL5c w b1 b2 F (lv5 a wd pl pr sp lf td) q pr G (listO v1 n1) (listO v2 n2) G' pl (pileO (dd+292) ps np)
    seen (fun env => shape (nth env 0)) o = some (toldA o, toldC o, toldO o, .call (.call (.ref 227) ⟨[.ref (pl+292)], []⟩), ctxIn (.call (.ref 227) ⟨[.ref (pl+292)], []⟩) ((.builtin "str.__new__" ⟨[.type "str", .ref (pl+292)], []⟩, posO o) :: (.builtin "type.__call__" ⟨[.type "str", .ref (pl+292)], []⟩, posB 0 o) :: belowLaw w (F.L+292) (posB 1 o)), some (F.L+292, some (.type "frame", none, #[], kvL (lv5 a wd pl pr sp lf td))), [], toldM o, toldI o, flatO o) := by
  cases b1 <;> kernel_rfl
noncomputable def rL5d (w : World) (b1 b2 : Bool) (F : LwF) (l : List (Str × Value)) (q pr : Nat) (G : LwG) (o1 o2 : Obj) (G' : LwG) (pl : Nat) (o3 : Obj) (G3 : LwG) (s : Str) (t : Tok) (td : Str) (tt : Tok) : Option St :=
  run (XX w b1 b2 tb [hkVal "str.__ne__" [.str s t, .str td tt] (.bool false)]) [0, 0, 1, 1, 0, 0, 1] (stBg (rL5c w b1 b2 F l q pr G o1 o2 G' pl o3) [.finished] F.L (.str s t) G3 l [⟨pl+292, o3, false⟩])
theorem lw5_d (w : World) (b1 b2 : Bool) (F : LwF) (a wd pl pr sp lf q dd : Nat) (td s : Str) (tt t : Tok) (G G' G3 : LwG) (v1 v2 ps : List Value) (n1 n2 np : Nat) : let o := rL5d w b1 b2 F (lv5 a wd pl pr sp lf (.str td tt)) q pr G (listO v1 n1) (listO v2 n2) G' pl (pileO (dd+292) ps np) G3 s t td tt
    seen (fun env => shape (nth env 0)) o = some (toldA o, toldC o, toldO o, .call (.call (.builtin "len") ⟨[.ref (pl+292)], []⟩), ctxIn (.call (.builtin "len") ⟨[.ref (pl+292)], []⟩) (belowLaw w (F.L+292) (posO o)), some (F.L+292, some (.type "frame", none, #[], kvL (lv5 a wd pl pr sp lf (.str td tt)))), [.finished], toldM o, toldI o, flatO o) := by
  cases b1 <;> kernel_rfl
end
end Mine

namespace Mine
noncomputable section
open PySem PySem.W PySem.W.X
set_option maxHeartbeats 4000000
theorem lw5_e (w : World) (b1 b2 : Bool) (F : LwF) (a wd pl pr sp lf q dd : Nat) (td s : Str) (tt t tn : Tok) (n : Nat) (G G' G3 G4 : LwG) (v1 v2 ps : List Value) (n1 n2 np : Nat) : let o := run (XX w b1 b2 tb [hkLenS td tt, hkVal "int.__ne__" [.int n tn, .int td.length (G4.T+1)] (.bool false)]) [0, 0, 1, 1, 2] (stBg (rL5d w b1 b2 F (lv5 a wd pl pr sp lf (.str td tt)) q pr G (listO v1 n1) (listO v2 n2) G' pl (pileO (dd+292) ps np) G3 s t td tt) gl2 F.L (.int n tn) G4 (lv5 a wd pl pr sp lf (.str td tt)) [])
    seen (fun env => shape (nth env 0)) o = some (toldA o, toldC o, toldO o, .done .next, ctxIn (fcode w 291 (F.L+292)) below0, some (F.L+292, some (.type "frame", none, #[], kvL (lv5 a wd pl pr sp lf (.str td tt)))), gl2, toldM o, toldI o, true) := by
  cases b1 <;> kernel_rfl
noncomputable def rL6 (w : World) (b1 b2 : Bool) (F : LwF) (l : List (Str × Value)) (pl dd : Nat) (ps : List Value) (np : Nat) (hh : Int) (kh ti : Tok) (nd : Nat) : Option St :=
  run (XX w b1 b2 tb []) [1, 2, 0, 0, 0, 2, 0, 0, 0, 2, 0, 0, 0, 0, 2, 3, 0] (stLg w 6 F l [⟨pl+292, pileO (dd+292) ps np, false⟩, ⟨dd+292, dictO [⟨hh, .str (nm "_initial_size") kh, .int 0 ti⟩] nd, false⟩])
theorem lw6_a (w : World) (b1 b2 : Bool) (F : LwF) (a wd pl pr sp lf dd : Nat) (td : Value) (ps : List Value) (np : Nat) (hh : Int) (kh ti : Tok) (nd : Nat) : let o := rL6 w b1 b2 F (lv5 a wd pl pr sp lf td) pl dd ps np hh kh ti nd
    seen (fun env => shape (nth env 0)) o = some (toldA o, toldC o, toldO o, .call (.call (.ref 205) ⟨[.ref (pl+292), .int 0 F.T], []⟩), ctxIn (.call (.ref 205) ⟨[.ref (pl+292), .int 0 F.T], []⟩) (belowLaw w (F.L+292) (posO o)), some (F.L+292, some (.type "frame", none, #[], kvL (lv5 a wd pl pr sp lf td))), gl2, toldM o, toldI o, flatO o) := by
  cases b1 <;> kernel_rfl
theorem lw6_b (w : World) (b1 b2 : Bool) (F : LwF) (a wd pl pr sp lf dd pc : Nat) (td : Value) (ps : List Value) (np : Nat) (hh : Int) (kh ti : Tok) (nd : Nat) (G : LwG) : let o := run (XX w b1 b2 tb []) [1, 1] (stBg (rL6 w b1 b2 F (lv5 a wd pl pr sp lf td) pl dd ps np hh kh ti nd) gl2 F.L (.ref (pc+292)) G (lv5 a wd pl pr sp lf td) [])
    seen (fun env => shape (nth env 0)) o = some (toldA o, toldC o, toldO o, .done .next, ctxIn (fcode w 291 (F.L+292)) below0, some (F.L+292, some (.type "frame", none, #[], kvL (lv7 a wd pl pr sp lf td pc))), gl2, toldM o, toldI o, true) := by
  cases b1 <;> kernel_rfl
noncomputable def rL7 (w : World) (b1 b2 : Bool) (F : LwF) (l : List (Str × Value)) (pc lf : Nat) (v1 v2 : List Value) (n1 n2 : Nat) : Option St :=
  run (XX w b1 b2 tb []) [1, 1, 2, 3, 2] (stLg w 7 F l [⟨pc+292, listO v1 n1, false⟩, ⟨lf+292, listO v2 n2, false⟩])
theorem lw7_a (w : World) (b1 b2 : Bool) (F : LwF) (a wd pl pr sp lf pc : Nat) (td : Value) (v1 v2 : List Value) (n1 n2 : Nat) : let o := rL7 w b1 b2 F (lv7 a wd pl pr sp lf td pc) pc lf v1 v2 n1 n2
    seen (fun env => shape (nth env 0)) o = some (toldA o, toldC o, toldO o, .call (.call (.builtin "list.__ne__") ⟨[.ref (pc+292), .ref (lf+292)], []⟩), ctxIn (.call (.builtin "list.__ne__") ⟨[.ref (pc+292), .ref (lf+292)], []⟩) (belowLaw w (F.L+292) (posO o)), some (F.L+292, some (.type "frame", none, #[], kvL (lv7 a wd pl pr sp lf td pc))), gl2, toldM o, toldI o, flatO o) := by
  cases b1 <;> kernel_rfl
noncomputable def rL7b (w : World) (b1 b2 : Bool) (F : LwF) (l : List (Str × Value)) (pc lf : Nat) (v1 v2 : List Value) (n1 n2 : Nat) (G : LwG) (pl dd np : Nat) (hh : Int) (kh ti : Tok) (nd : Nat) : Option St :=
  run (XX w b1 b2 tb []) [1, 2, 0, 0, 0, 2, 0, 0, 0, 2, 0, 0, 0, 0, 2, 3, 0] (stBg (rL7 w b1 b2 F l pc lf v1 v2 n1 n2) gl2 F.L (.bool false) G l [⟨pl+292, pileO (dd+292) [] np, false⟩, ⟨dd+292, dictO [⟨hh, .str (nm "_initial_size") kh, .int 0 ti⟩] nd, false⟩])
theorem lw7_b (w : World) (b1 b2 : Bool) (F : LwF) (a wd pl pr sp lf pc dd : Nat) (td : Value) (v1 v2 : List Value) (n1 n2 np : Nat) (G : LwG) (hh : Int) (kh ti : Tok) (nd : Nat) : let o := rL7b w b1 b2 F (lv7 a wd pl pr sp lf td pc) pc lf v1 v2 n1 n2 G pl dd np hh kh ti nd
    seen (fun env => shape (nth env 0)) o = some (toldA o, toldC o, toldO o, .call (.call (.ref 250) ⟨[.ref (pl+292)], []⟩), ctxIn (.call (.ref 250) ⟨[.ref (pl+292)], []⟩) (belowLaw w (F.L+292) (posO o)), some (F.L+292, some (.type "frame", none, #[], kvL (lv7 a wd pl pr sp lf td pc))), gl2, toldM o, toldI o, flatO o) := by
  cases b1 <;> kernel_rfl
theorem lw7_c (w : World) (b1 b2 : Bool) (F : LwF) (a wd pl pr sp lf pc dd : Nat) (td : Value) (v1 v2 : List Value) (n1 n2 np : Nat) (G G' : LwG) (hh : Int) (kh ti t0 : Tok) (nd : Nat) : let o := run (XX w b1 b2 tb [hkVal "int.__ne__" [.int 0 t0, .int 0 G'.T] (.bool false)]) [1] (stBg (rL7b w b1 b2 F (lv7 a wd pl pr sp lf td pc) pc lf v1 v2 n1 n2 G pl dd np hh kh ti nd) gl2 F.L (.int 0 t0) G' (lv7 a wd pl pr sp lf td pc) [])
    seen (fun env => shape (nth env 0)) o = some (toldA o, toldC o, toldO o, .done .next, ctxIn (fcode w 291 (F.L+292)) below0, some (F.L+292, some (.type "frame", none, #[], kvL (lv7 a wd pl pr sp lf td pc))), gl2, toldM o, toldI o, true) := by
  cases b1 <;> kernel_rfl
end
end Mine

namespace Mine
noncomputable section
open PySem PySem.W PySem.W.X
set_option maxHeartbeats 4000000
noncomputable def piE (w : World) : PySem.Expr := callA (asgV (stmtAt w 291 8))
noncomputable def piEnv (w : World) (L Lc : Addr) : Env := compEnv (scopeOf (piE w)) Lc [] (cenv w 291 L)
noncomputable def piLoop (w : World) (it acc L Lc : Addr) : Code := .compLoop (piE w) 0 (.ref it) (.ref acc) (piEnv w L Lc)
noncomputable def piStart (w : World) (it acc L Lc : Addr) : Code := .compStart (piE w) 0 (.ref it) (.ref acc) (piEnv w L Lc)
noncomputable def stPi (w : World) (A : PcA) : St :=
  begin (ctxIn (piLoop w (A.it+292) (A.acc+292) (A.L+292) (A.Lc+292)) (belowLaw w (A.L+292) A.p1)) A.p (pcEnv A) gl2 A.N A.T
noncomputable def piEs (f : Bool) (z : Zs) : List DictEntry := match f with
  | true => []
  | false => [⟨z.h1, .str (nm "piece") z.k1, z.v4⟩]
theorem pi_seg (w : World) (b1 b2 f : Bool) (A : PcA) (z : Zs) : let o := run (XX w b1 b2 tb [hkNext 0 3 (A.it+292) (A.l+292) A.rs A.nr A.i (.ref (A.tp+292)), hkApp 1 (A.acc+292) A.accs A.na (.ref (A.tp+292))]) [1, 1, 3, 3, 3, 2] (stPi w { A with es := piEs f z })
    seen (fun env => (nth env 0, nth env 1, shape (nth env 2))) o = some (toldA o, toldC o, toldO o, .again (piLoop w (A.it+292) (A.acc+292) (A.L+292) (A.Lc+292)), ctxIn (piLoop w (A.it+292) (A.acc+292) (A.L+292) (A.Lc+292)) (belowLaw w (A.L+292) A.p1),
      (some ⟨A.it+292, iterO (A.l+292) (A.i+1), true⟩, some ⟨A.acc+292, listO (A.accs ++ [.ref (A.tp+292)]) (A.na+1), true⟩, some (A.Lc+292, some (.type "dict", none, #[], [(some (nm "piece"), .ref (A.tp+292))]))), gl2, toldM o, toldI o, true) := by
  cases f <;> cases b1 <;> kernel_rfl
theorem pi_end (w : World) (b1 b2 : Bool) (L it acc Lc l : Nat) (p1 p : Pos) (rs : List Value) (nr i N T : Nat) : let o := run (XX w b1 b2 tb [hkEnd 0 1 (it+292) (l+292) rs nr i]) [1, 1, 1] (begin (ctxIn (piLoop w (it+292) (acc+292) (L+292) (Lc+292)) (belowLaw w (L+292) p1)) p [⟨it+292, iterO (l+292) i, true⟩, ⟨l+292, listO rs nr, false⟩] gl2 N T)
    seen (fun _ => ()) o = some (toldA o, toldC o, toldO o, .done .next, ctxIn (piLoop w (it+292) (acc+292) (L+292) (Lc+292)) (belowLaw w (L+292) p1), (), gl2, toldM o, toldI o, true) := by
  kernel_rfl
end
end Mine

namespace Mine
noncomputable section
open PySem PySem.W PySem.W.X
set_option maxHeartbeats 4000000
noncomputable def rL8 (w : World) (b1 b2 : Bool) (F : LwF) (l : List (Str × Value)) (pc : Nat) (rs : List Value) (nr : Nat) : Option St := run (XX w b1 b2 tb []) [0, 1, 2, 2, 0, 2, 0, 1] (stLg w 8 F l [⟨pc+292, listO rs nr, false⟩])
theorem lw8_a (w : World) (b1 b2 : Bool) (F : LwF) (a wd pl pr sp lf pc : Nat) (td : Value) (rs : List Value) (nr : Nat) : let o := rL8 w b1 b2 F (lv7 a wd pl pr sp lf td pc) pc rs nr
    seen (fun env => (nth env 0, nth env 1, nth env 2, shape (nth env 3))) o = some (toldA o, toldC o, toldO o, .call (piStart w (F.N+292) (F.N+293) (F.L+292) (F.N+294)), ctxIn (piStart w (F.N+292) (F.N+293) (F.L+292) (F.N+294)) (belowLaw w (F.L+292) (posO o)),
      (some ⟨F.N+294, dictO [] 0, true⟩, some ⟨F.N+293, listO [] 0, true⟩, some ⟨F.N+292, iterO (pc+292) 0, true⟩, some (F.L+292, some (.type "frame", none, #[], kvL (lv7 a wd pl pr sp lf td pc)))), gl2, toldM o, toldI o, flatO o) := by
  cases b1 <;> kernel_rfl
noncomputable def rL8b (w : World) (b1 b2 : Bool) (F : LwF) (l : List (Str × Value)) (pc : Nat) (rs : List Value) (nr : Nat) (accs : List Value) (na : Nat) (z : Zs) (nz : Nat) (G : LwG) : Option St :=
  run (XX w b1 b2 tb []) [2, 2, 2, 0, 0, 0, 0, 0, 0, 0, 0, 0, 0, 0, 0, 0, 0, 0, 0, 0, 0, 0, 0, 0, 0, 0, 0, 0, 0, 0, 0, 0, 0, 0, 0, 0, 1, 0, 1, 0, 0, 0, 0] (resumeO (rL8 w b1 b2 F l pc rs nr) (.ok .next) [⟨F.N+293, listO accs na, true⟩, ⟨F.N+294, dictO (piEs false z) nz, true⟩, ⟨F.L+292, frameO (mkK G.h G.k 0 l) G.nL, true⟩] gl2 G.N G.T)
theorem lw8_b (w : World) (b1 b2 : Bool) (F : LwF) (a wd pl pr sp lf pc : Nat) (td : Value) (rs : List Value) (nr : Nat) (accs : List Value) (na : Nat) (z : Zs) (nz : Nat) (G : LwG) : let o := rL8b w b1 b2 F (lv7 a wd pl pr sp lf td pc) pc rs nr accs na z nz G
    seen (fun env => (nth env 0, nth env 1, nth env 2, shape (nth env 4))) o = some (toldA o, toldC o, toldO o, .call (.call (.ref 63) ⟨[.ref (G.N+293), .ref (F.N+293)], []⟩), ctxIn (.call (.ref 63) ⟨[.ref (G.N+293), .ref (F.N+293)], []⟩) (belowHi (F.N+293) (posO o) (belowLaw w (F.L+292) (posB 0 o))),
      (some ⟨G.N+293, hdrO (G.N+292), true⟩, some ⟨G.N+292, dictO [] 0, true⟩, some ⟨F.N+293, listO accs na, true⟩, some (F.L+292, some (.type "frame", none, #[], kvL (lv7 a wd pl pr sp lf td pc)))), gl2, toldM o, toldI o, flatO o) := by
  cases b1 <;> kernel_rfl
end
end Mine

namespace Mine
noncomputable section
open PySem PySem.W PySem.W.X
set_option maxHeartbeats 4000000
theorem lw8_c (w : World) (b1 b2 : Bool) (F : LwF) (a wd pl pr sp lf pc : Nat) (td : Value) (rs : List Value) (nr : Nat) (accs : List Value) (na : Nat) (z : Zs) (nz : Nat) (G G' : LwG) : let o := run (XX w b1 b2 tb []) [1, 1] (stBg (rL8b w b1 b2 F (lv7 a wd pl pr sp lf td pc) pc rs nr accs na z nz G) gl2 F.L .none G' (lv7 a wd pl pr sp lf td pc) [])
    seen (fun env => shape (nth env 0)) o = some (toldA o, toldC o, toldO o, .done .next, ctxIn (fcode w 291 (F.L+292)) below0, some (F.L+292, some (.type "frame", none, #[], kvL (lv9 a wd pl pr sp lf td pc (G.N+1)))), gl2, toldM o, toldI o, true) := by
  cases b1 <;> kernel_rfl
noncomputable def cmpR : PySem.Expr → PySem.Expr
  | .Compare _ _ (r :: _) _ => r
  | _ => dfltE
noncomputable def ifT : Stmt → PySem.Expr
  | .If t _ _ _ => t
  | _ => dfltE
noncomputable def ltE (w : World) : Bool → PySem.Expr
  | false => cmpR (ifT (stmtAt w 291 9))
  | true => cmpR (retE (stmtAt w 291 10))
noncomputable def ltEnv (w : World) (c : Bool) (L Lc : Addr) : Env := compEnv (scopeOf (ltE w c)) Lc [] (cenv w 291 L)
noncomputable def ltLoop (w : World) (c : Bool) (it acc L Lc : Addr) : Code := .compLoop (ltE w c) 0 (.ref it) (.ref acc) (ltEnv w c L Lc)
noncomputable def ltStart (w : World) (c : Bool) (it acc L Lc : Addr) : Code := .compStart (ltE w c) 0 (.ref it) (.ref acc) (ltEnv w c L Lc)
noncomputable def stLt (w : World) (c : Bool) (A : PcA) : St :=
  begin (ctxIn (ltLoop w c (A.it+292) (A.acc+292) (A.L+292) (A.Lc+292)) (belowLaw w (A.L+292) A.p1)) A.p (pcEnv A) gl2 A.N A.T
end
end Mine

namespace Mine
noncomputable section
open PySem PySem.W PySem.W.X PySem.Calls PyProof.Rows
set_option maxHeartbeats 4000000
noncomputable def hkIn (j : Nat) (l : Addr) (x1 x2 : Str) (t1 t2 : Tok) (n : Nat) (k : Str) (t : Tok) (r : Bool) : Hook :=
  ⟨.call (.builtin "list.__contains__") ⟨[.ref l, .str k t], []⟩, [(j, l, listO [.str x1 t1, .str x2 t2] n, none)], fun _ _ => .ok (.ret (.bool r)), fun _ => [], 0⟩
noncomputable def sameTo (k : Str) : Value → Bool
  | .str x _ => x.cps.toList == k.cps.toList
  | _ => false
theorem ok_in {X : Cx} {j : Nat} {l : Addr} {x1 x2 : Str} {t1 t2 : Tok} {n : Nat} {k : Str} {t : Tok} {r : Bool} (hr : (x1.cps.toList == k.cps.toList || x2.cps.toList == k.cps.toList) = r) : HookOk X (hkIn j l x1 x2 t1 t2 n k t r) := by
  refine hook_ok (v := fun _ _ => .bool r) fun A Q E s _ _ hp hq => ?_
  obtain ⟨hl, _⟩ := hp
  refine call_meets F.slot_list_contains ⟨_, hl, rfl⟩ F.entry_list_contains (F.args_list_contains_2 _ _) (MeetsSeq.list_contains l ⟨[.str x1 t1, .str x2 t2]⟩ n (.str k t) (sameTo k) fun y hy => ?_) ⟨hl, ?_⟩
  · have hy' : y = .str x1 t1 ∨ y = .str x2 t2 := by simpa using hy
    rcases hy' with rfl | rfl
    · exact SeqRoads2.EqGives.str x1 k t1 t
    · exact SeqRoads2.EqGives.str x2 k t2 t
  · have e : ((⟨[.str x1 t1, .str x2 t2]⟩ : Array Value).any (sameTo k)) = r := by
      rw [← hr]
      simp [sameTo]
    rw [e]
    exact hq
noncomputable def ltS (c : Bool) : Str × Str := match c with
  | false => (chr1 97, chr1 65)
  | true => (chr1 98, chr1 66)
noncomputable def xLt (w : World) (b1 b2 c : Bool) (A : PcA) : Bool → Cx
  | true => XX w b1 b2 tb [hkNext 0 3 (A.it+292) (A.l+292) A.rs A.nr A.i (.ref (A.tp+292)), hkIn 0 (A.N+295) (ltS c).1 (ltS c).2 (A.T+2) (A.T+3) 0 A.K A.tk true, hkApp 5 (A.acc+292) A.accs A.na (.str A.V A.tv)]
  | false => XX w b1 b2 tb [hkNext 0 3 (A.it+292) (A.l+292) A.rs A.nr A.i (.ref (A.tp+292)), hkIn 0 (A.N+295) (ltS c).1 (ltS c).2 (A.T+2) (A.T+3) 0 A.K A.tk false]
end
end Mine

namespace Mine
noncomputable section
open PySem PySem.W PySem.W.X
set_option maxHeartbeats 4000000
noncomputable def ltOr1 : List Nat := [1, 1, 1, 5, 5, 5, 0, 5, 0, 1, 1, 0, 1, 0, 1, 1, 6, 1, 1, 1, 0, 1, 0, 1, 1, 6, 1, 1, 1, 0, 1, 0, 1, 1, 6, 1, 1, 1, 6, 6, 6, 6, 6, 1, 1, 2, 7, 3]
noncomputable def ltOr0 : List Nat := [1, 1, 1, 5, 5, 5, 0, 5, 0, 1, 1, 0, 1, 0, 1, 1, 6, 1, 1, 1, 0, 1, 0, 1, 1, 6, 1, 1, 1, 0, 1, 0, 1, 1, 6, 1, 1, 1, 6, 6, 6, 6, 6, 1, 1, 2]
theorem lt_seg1 (w : World) (b1 b2 c f : Bool) (A : PcA) (z : Zs) : let o := run (xLt w b1 b2 c A true) ltOr1 (stLt w c { A with es := spEs f z })
    seen (fun env => (nth env 4, nth env 5, shape (nth env 6))) o = some (toldA o, toldC o, toldO o, .again (ltLoop w c (A.it+292) (A.acc+292) (A.L+292) (A.Lc+292)), ctxIn (ltLoop w c (A.it+292) (A.acc+292) (A.L+292) (A.Lc+292)) (belowLaw w (A.L+292) A.p1),
      (some ⟨A.it+292, iterO (A.l+292) (A.i+1), true⟩, some ⟨A.acc+292, listO (A.accs ++ [.str A.V A.tv]) (A.na+1), true⟩, some (A.Lc+292, some (.type "dict", none, #[], [(some (nm "sign"), .str A.K A.tk), (some (nm "place"), .str A.V A.tv)]))), gl2, toldM o, toldI o, true) := by
  cases c <;> cases f <;> cases b1 <;> kernel_rfl
theorem lt_seg0 (w : World) (b1 b2 c f : Bool) (A : PcA) (z : Zs) : let o := run (xLt w b1 b2 c A false) ltOr0 (stLt w c { A with es := spEs f z })
    seen (fun env => (nth env 4, nth env 5, shape (nth env 6))) o = some (toldA o, toldC o, toldO o, .again (ltLoop w c (A.it+292) (A.acc+292) (A.L+292) (A.Lc+292)), ctxIn (ltLoop w c (A.it+292) (A.acc+292) (A.L+292) (A.Lc+292)) (belowLaw w (A.L+292) A.p1),
      (some ⟨A.it+292, iterO (A.l+292) (A.i+1), true⟩, some ⟨A.acc+292, listO A.accs A.na, true⟩, some (A.Lc+292, some (.type "dict", none, #[], [(some (nm "sign"), .str A.K A.tk), (some (nm "place"), .str A.V A.tv)]))), gl2, toldM o, toldI o, true) := by
  cases c <;> cases f <;> cases b1 <;> kernel_rfl
theorem lt_end (w : World) (b1 b2 c : Bool) (L it acc Lc l : Nat) (p1 p : Pos) (rs : List Value) (nr i N T : Nat) : let o := run (XX w b1 b2 tb [hkEnd 0 1 (it+292) (l+292) rs nr i]) [1, 1, 1] (begin (ctxIn (ltLoop w c (it+292) (acc+292) (L+292) (Lc+292)) (belowLaw w (L+292) p1)) p [⟨it+292, iterO (l+292) i, true⟩, ⟨l+292, listO rs nr, false⟩] gl2 N T)
    seen (fun _ => ()) o = some (toldA o, toldC o, toldO o, .done .next, ctxIn (ltLoop w c (it+292) (acc+292) (L+292) (Lc+292)) (belowLaw w (L+292) p1), (), gl2, toldM o, toldI o, true) := by
  cases c <;> kernel_rfl
noncomputable def jL (c : Bool) : Nat := match c with
  | false => 9
  | true => 10
noncomputable def nmL (c : Bool) : Str := match c with
  | false => chr1 97
  | true => chr1 66
noncomputable def rL9 (w : World) (b1 b2 c : Bool) (F : LwF) (l : List (Str × Value)) (tbl dd hl : Nat) (hh : Int) (kh : Tok) (nd : Nat) : Option St := run (XX w b1 b2 tb []) [1, 2, 0, 0, 0, 2, 0, 0, 0, 2, 0, 0, 0, 0, 2, 3, 0] (stLg w (jL c) F l [⟨tbl+292, hdrO (dd+292), false⟩, ⟨dd+292, dictO [⟨hh, .str (nm "_headers") kh, .ref (hl+292)⟩] nd, false⟩])
theorem lw9_a (w : World) (b1 b2 c : Bool) (F : LwF) (a wd pl pr sp lf pc tbl dd hl : Nat) (td : Value) (hh : Int) (kh : Tok) (nd : Nat) : let o := rL9 w b1 b2 c F (lv9 a wd pl pr sp lf td pc tbl) tbl dd hl hh kh nd
    seen (fun env => shape (nth env 0)) o = some (toldA o, toldC o, toldO o, .call (.call (.ref 108) ⟨[.ref (tbl+292), .str (nmL c) F.T], []⟩), ctxIn (.call (.ref 108) ⟨[.ref (tbl+292), .str (nmL c) F.T], []⟩) (belowLaw w (F.L+292) (posO o)), some (F.L+292, some (.type "frame", none, #[], kvL (lv9 a wd pl pr sp lf td pc tbl))), gl2, toldM o, toldI o, flatO o) := by
  cases c <;> cases b1 <;> kernel_rfl
noncomputable def rL9b (w : World) (b1 b2 c : Bool) (F : LwF) (l : List (Str × Value)) (tbl dd hl : Nat) (hh : Int) (kh : Tok) (nd : Nat) (ga : Nat) (G : LwG) (lf : Nat) (rs : List Value) (nr : Nat) : Option St :=
  run (XX w b1 b2 tb []) [1, 2, 2, 0, 2, 0, 1] (stBg (rL9 w b1 b2 c F l tbl dd hl hh kh nd) gl2 F.L (.ref (ga+292)) G l [⟨lf+292, listO rs nr, false⟩])
theorem lw9_b (w : World) (b1 b2 c : Bool) (F : LwF) (a wd pl pr sp lf pc tbl dd hl ga : Nat) (td : Value) (hh : Int) (kh : Tok) (nd : Nat) (G : LwG) (rs : List Value) (nr : Nat) : let o := rL9b w b1 b2 c F (lv9 a wd pl pr sp lf td pc tbl) tbl dd hl hh kh nd ga G lf rs nr
    seen (fun env => (nth env 0, nth env 1, nth env 2, shape (nth env 3))) o = some (toldA o, toldC o, toldO o, .call (ltStart w c (G.N+292) (G.N+293) (F.L+292) (G.N+294)), ctxIn (ltStart w c (G.N+292) (G.N+293) (F.L+292) (G.N+294)) (belowLaw w (F.L+292) (posO o)),
      (some ⟨G.N+294, dictO [] 0, true⟩, some ⟨G.N+293, listO [] 0, true⟩, some ⟨G.N+292, iterO (lf+292) 0, true⟩, some (F.L+292, some (.type "frame", none, #[], kvL (lv9 a wd pl pr sp lf td pc tbl)))), gl2, toldM o, toldI o, flatO o) := by
  cases c <;> cases b1 <;> kernel_rfl
end
end Mine

namespace Mine
noncomputable section
open PySem PySem.W PySem.W.X
set_option maxHeartbeats 4000000
noncomputable def opL (c : Bool) : String := match c with
  | false => "list.__ne__"
  | true => "list.__eq__"
noncomputable def rL9c (w : World) (b1 b2 c : Bool) (F : LwF) (l : List (Str × Value)) (tbl dd hl : Nat) (hh : Int) (kh : Tok) (nd : Nat) (ga : Nat) (G : LwG) (lf : Nat) (rs : List Value) (nr : Nat) (accs : List Value) (na : Nat) (z : Zs) (nz : Nat) (gas : List Value) (nga : Nat) (N T : Nat) : Option St :=
  run (XX w b1 b2 tb []) [2, 2, 2, 2, 2, 2, 3, 1, 3] (resumeO (rL9b w b1 b2 c F l tbl dd hl hh kh nd ga G lf rs nr) (.ok .next) [⟨G.N+293, listO accs na, true⟩, ⟨G.N+294, dictO (spEs false z) nz, true⟩, ⟨ga+292, listO gas nga, false⟩] gl2 N T)
theorem lw9_c (w : World) (b1 b2 c : Bool) (F : LwF) (a wd pl pr sp lf pc tbl dd hl ga : Nat) (td : Value) (hh : Int) (kh : Tok) (nd : Nat) (G : LwG) (rs : List Value) (nr : Nat) (accs : List Value) (na : Nat) (z : Zs) (nz : Nat) (gas : List Value) (nga N T : Nat) : let o := rL9c w b1 b2 c F (lv9 a wd pl pr sp lf td pc tbl) tbl dd hl hh kh nd ga G lf rs nr accs na z nz gas nga N T
    seen (fun env => nth env 0) o = some (toldA o, toldC o, toldO o, .call (.call (.builtin (opL c)) ⟨[.ref (ga+292), .ref (G.N+293)], []⟩), ctxIn (.call (.builtin (opL c)) ⟨[.ref (ga+292), .ref (G.N+293)], []⟩) (belowLaw w (F.L+292) (posO o)),
      some ⟨G.N+293, listO accs na, true⟩, gl2, toldM o, toldI o, flatO o) := by
  cases c <;> cases b1 <;> kernel_rfl
noncomputable def endL (c : Bool) : Flow := match c with
  | false => .next
  | true => .ret (.bool true)
theorem lw9_d (w : World) (b1 b2 c : Bool) (F : LwF) (a wd pl pr sp lf pc tbl dd hl ga : Nat) (td : Value) (hh : Int) (kh : Tok) (nd : Nat) (G : LwG) (rs : List Value) (nr : Nat) (accs : List Value) (na : Nat) (z : Zs) (nz : Nat) (gas : List Value) (nga N T N' T' : Nat) : let o := run (XX w b1 b2 tb []) [] (resumeO (rL9c w b1 b2 c F (lv9 a wd pl pr sp lf td pc tbl) tbl dd hl hh kh nd ga G lf rs nr accs na z nz gas nga N T) (.ok (.ret (.bool c))) [] gl2 N' T')
    seen (fun env => ()) o = some (toldA o, toldC o, toldO o, .done (endL c), ctxIn (fcode w 291 (F.L+292)) below0, (), gl2, toldM o, toldI o, true) := by
  cases c <;> cases b1 <;> kernel_rfl
end
end Mine

namespace Mine
noncomputable section
open PySem PySem.W PySem.W.X
set_option maxHeartbeats 4000000
theorem spEs_of {es : List DictEntry} {v1 v2 : Value} (h : kvs es = [(some (nm "sign"), v1), (some (nm "place"), v2)]) : ∃ z, es = spEs false z := by
  obtain ⟨z1, k1, r1, rfl, h1⟩ := kvs_cons h
  obtain ⟨z2, k2, r2, rfl, h2⟩ := kvs_cons h1
  cases kvs_nil h2
  exact ⟨⟨z1, z2, 0, 0, 0, 0, k1, k2, 0, 0, 0, 0, v1, v2, .none⟩, rfl⟩
theorem piEs_of {es : List DictEntry} {v1 : Value} (h : kvs es = [(some (nm "piece"), v1)]) : ∃ z, es = piEs false z := by
  obtain ⟨z1, k1, r1, rfl, h1⟩ := kvs_cons h
  cases kvs_nil h1
  exact ⟨⟨z1, 0, 0, 0, 0, 0, k1, 0, 0, 0, 0, 0, v1, .none, .none⟩, rfl⟩
theorem difPc (it acc Lc l tp i : Nat) (rs accs : List Value) (nr na ne : Nat) (es : List DictEntry) (K V : Str) (tk tv : Tok) (h : acc ≠ l) : Dif [⟨it+292, iterO (l+292) i, true⟩, ⟨acc+292, listO accs na, true⟩, ⟨Lc+292, dictO es ne, true⟩, ⟨l+292, listO rs nr, false⟩, ⟨tp+292, tupO [.str K tk, .str V tv], false⟩] := by
  ktd_rel
theorem gePc (it acc Lc l tp : Nat) (o1 o2 o3 o4 o5 : Obj) (b1 b2 b3 b4 b5 : Bool) : AllE (fun e => 292 ≤ e.a) [⟨it+292, o1, b1⟩, ⟨acc+292, o2, b2⟩, ⟨Lc+292, o3, b3⟩, ⟨l+292, o4, b4⟩, ⟨tp+292, o5, b5⟩] := by kt_len
theorem td_comp (w : World) (b1 b2 : Bool) (L it acc Lc l : Nat) (p1 p : Pos) (rs : List Value) (nr : Nat) (xs : List (Str × Str)) (T : Nat) (d : Drawn) (ox : OsState) (R : Result → Shared → Prop) (h : Heap)
    (hx : ∀ x ∈ xs, (x.1 ++ x.2).length ≤ sizeLine) (hz : rs.length ≤ 900) (h0 : 0 < rs.length) (G : Glob (XX w b1 b2 tb []) h) (fit : h.get? (it+292) = some (iterO (l+292) 0)) (facc : h.get? (acc+292) = some (listO [] 0)) (fLc : h.get? (Lc+292) = some (dictO [] 0)) (fl : h.get? (l+292) = some (listO rs nr)) (hal : acc ≠ l)
    (hrs : All2 (PieceV h) rs xs)
    (K : ∀ h' T' accs na z nz, Ext [it+292, acc+292, Lc+292] h h' → h'.get? (acc+292) = some (listO accs na) → h'.get? (Lc+292) = some (dictO (spEs false z) nz) → All2 StrV accs (xs.map fun x => x.1 ++ x.2) → R (.ok .next) ⟨h', ⟨[]⟩, d, T', ox⟩) :
    wpCode (model PySem.Challenge.pw_pe0217_01 (setW w b1 b2)) (ctxIn (tdStart w (it+292) (acc+292) (L+292) (Lc+292)) (belowLaw w (L+292) p1)) R p ⟨h, ⟨[]⟩, d, T, ox⟩ := by
  refine comp_start (by kernel_rfl) (by kernel_rfl) rfl (iter_list (l := l+292) (i := 0) fit) fun p' => ?_
  let Γc : Ctx := ctxIn (tdLoop w (it+292) (acc+292) (L+292) (Lc+292)) (belowLaw w (L+292) p1)
  refine pieces_comp (γ := Str) w b1 b2 Γc it acc Lc l rs nr xs spEs (fun _ v g => StrV v g) (fun x => some (x.1 ++ x.2)) (gl := []) d ox _ h p' T (fun _ => rfl) G fit facc fLc fl hal hrs hz (fun _ _ _ _ _ _ q => q) ?_ ?_
  · intro i x tp tk tv f z ne accs na h p T N hN G hv hm qit qacc qLc ql qt hl E K'
    let B : PcA := ⟨L, it, acc, Lc, l, tp, p1, p, i, rs, nr, accs, na, spEs f z, ne, x.1, x.2, tk, tv, N, T⟩
    refine code_loop (X0 := XX w b1 b2 tb []) (X := XX w b1 b2 tb [hkNext 0 3 (it+292) (l+292) rs nr i (.ref (tp+292)), hkSAdd x.1 tk x.2 tv, hkApp 4 (acc+292) accs na (.str (x.1 ++ x.2) (addTok x.1 x.2 tk tv (T+2)))]) (N := N) (own := [it+292, acc+292, Lc+292]) (td_seg w b1 b2 f B z) rfl rfl rfl ⟨hkNext_ok hv, ok_sadd (hx x hm), ok_app (by rw [sizeL]; show accs.length ≤ _; omega), trivial⟩ hN G ⟨qit, qacc, qLc, ql, qt, trivial⟩ (difPc _ _ _ _ _ _ _ _ _ _ _ _ _ _ _ _ hal) (gePc _ _ _ _ _ _ _ _ _ _ _ _ _ _ _) rfl fun h3 T3 p3 st3 hV3 D3 E3 hnQ => ?_
    obtain ⟨a0, a1, a2⟩ := pr3 hV3
    obtain ⟨es3, ne3, ow3, e3, hk3⟩ := shape_ok a2
    obtain ⟨z3, rfl⟩ := spEs_of hk3
    refine hnQ ?_
    exact K' h3 p3 T3 _ _ z3 ne3 E3 (D3.at a0) (D3.at a1) (D3.at e3) ⟨_, rfl, _, rfl⟩
  · intro f z ne accs na h2 p2 T2 N2 hN2 G2 qit qacc qLc ql E hO hf
    cases f with
    | true =>
      have e := hf rfl
      rw [e] at h0
      cases h0
    | false =>
    refine code_done (X0 := XX w b1 b2 tb []) (X := XX w b1 b2 tb [hkEnd 0 1 (it+292) (l+292) rs nr rs.length]) (N := N2) (own := [it+292]) (td_end w b1 b2 L it acc Lc l p1 p2 rs nr rs.length N2 T2) rfl rfl rfl ⟨hkEnd_ok (by simp), trivial⟩ hN2 G2 ⟨qit, ql, trivial⟩ ?_ ?_ fun h3 T3 st3 hV3 D3 E3' hnQ => ?_
    · ktd_rel
    · kt_len
    have ne1 : it ≠ acc := fun e => ne_kind fit facc (by simp [kindOf, iterO, listO]) (by rw [e])
    have ne2 : it ≠ Lc := fun e => ne_kind fit fLc (by simp [kindOf, iterO, dictO]) (by rw [e])
    refine hnQ ?_
    refine K h3 T3 accs na z ne ((E.trans E3').drop (by kt_ors)) (E3'.keep _ _ qacc (by kt_eqs)) (E3'.keep _ _ qLc (by kt_eqs)) ?_
    rw [List.filterMap_eq_map'] at hO
    exact hO
theorem pi_comp (w : World) (b1 b2 : Bool) (L it acc Lc l : Nat) (p1 p : Pos) (rs : List Value) (nr : Nat) (xs : List (Str × Str)) (T : Nat) (d : Drawn) (ox : OsState) (R : Result → Shared → Prop) (h : Heap)
    (hz : rs.length ≤ 900) (h0 : 0 < rs.length) (G : Glob (XX w b1 b2 tb []) h) (fit : h.get? (it+292) = some (iterO (l+292) 0)) (facc : h.get? (acc+292) = some (listO [] 0)) (fLc : h.get? (Lc+292) = some (dictO [] 0)) (fl : h.get? (l+292) = some (listO rs nr)) (hal : acc ≠ l)
    (hrs : All2 (PieceV h) rs xs)
    (K : ∀ h' T' accs na z nz, Ext [it+292, acc+292, Lc+292] h h' → h'.get? (acc+292) = some (listO accs na) → h'.get? (Lc+292) = some (dictO (piEs false z) nz) → All2 (PieceV h') accs xs → R (.ok .next) ⟨h', ⟨gl2⟩, d, T', ox⟩) :
    wpCode (model PySem.Challenge.pw_pe0217_01 (setW w b1 b2)) (ctxIn (piStart w (it+292) (acc+292) (L+292) (Lc+292)) (belowLaw w (L+292) p1)) R p ⟨h, ⟨gl2⟩, d, T, ox⟩ := by
  refine comp_start (by kernel_rfl) (by kernel_rfl) rfl (iter_list (l := l+292) (i := 0) fit) fun p' => ?_
  let Γc : Ctx := ctxIn (piLoop w (it+292) (acc+292) (L+292) (Lc+292)) (belowLaw w (L+292) p1)
  refine pieces_comp (γ := Str × Str) w b1 b2 Γc it acc Lc l rs nr xs piEs PieceV (fun x => some x) (gl := gl2) d ox _ h p' T (fun _ => rfl) G fit facc fLc fl hal hrs hz (fun h h' v g E nt q => q.ext E nt) ?_ ?_
  · intro i x tp tk tv f z ne accs na h p T N hN G hv hm qit qacc qLc ql qt hl E K'
    let B : PcA := ⟨L, it, acc, Lc, l, tp, p1, p, i, rs, nr, accs, na, piEs f z, ne, x.1, x.2, tk, tv, N, T⟩
    refine code_loop (X0 := XX w b1 b2 tb []) (X := XX w b1 b2 tb [hkNext 0 3 (it+292) (l+292) rs nr i (.ref (tp+292)), hkApp 1 (acc+292) accs na (.ref (tp+292))]) (N := N) (own := [it+292, acc+292, Lc+292]) (pi_seg w b1 b2 f B z) rfl rfl rfl ⟨hkNext_ok hv, ok_app (by rw [sizeL]; show accs.length ≤ _; omega), trivial⟩ hN G ⟨qit, qacc, qLc, ql, qt, trivial⟩ (difPc _ _ _ _ _ _ _ _ _ _ _ _ _ _ _ _ hal) (gePc _ _ _ _ _ _ _ _ _ _ _ _ _ _ _) rfl fun h3 T3 p3 st3 hV3 D3 E3' hnQ => ?_
    obtain ⟨a0, a1, a2⟩ := pr3 hV3
    obtain ⟨es3, ne3, ow3, e3, hk3⟩ := shape_ok a2
    obtain ⟨z3, rfl⟩ := piEs_of hk3
    have nt : ∀ c ∈ [it+292, acc+292, Lc+292], ∀ vs, h.get? c ≠ some (tupO vs) := notupL (by ktr_rel)
    refine hnQ ?_
    exact K' h3 p3 T3 _ _ z3 ne3 E3' (D3.at a0) (D3.at a1) (D3.at e3) ⟨_, rfl, PieceV.ext E3' nt ⟨tp, tk, tv, rfl, qt⟩⟩
  · intro f z ne accs na h2 p2 T2 N2 hN2 G2 qit qacc qLc ql E hO hf
    cases f with
    | true =>
      have e := hf rfl
      rw [e] at h0
      cases h0
    | false =>
    refine code_done (X0 := XX w b1 b2 tb []) (X := XX w b1 b2 tb [hkEnd 0 1 (it+292) (l+292) rs nr rs.length]) (N := N2) (own := [it+292]) (pi_end w b1 b2 L it acc Lc l p1 p2 rs nr rs.length N2 T2) rfl rfl rfl ⟨hkEnd_ok (by simp), trivial⟩ hN2 G2 ⟨qit, ql, trivial⟩ ?_ ?_ fun h3 T3 st3 hV3 D3 E3' hnQ => ?_
    · ktd_rel
    · kt_len
    have ne1 : it ≠ acc := fun e => ne_kind fit facc (by simp [kindOf, iterO, listO]) (by rw [e])
    have ne2 : it ≠ Lc := fun e => ne_kind fit fLc (by simp [kindOf, iterO, dictO]) (by rw [e])
    refine hnQ ?_
    refine K h3 T3 accs na z ne ((E.trans E3').drop (by kt_ors)) (E3'.keep _ _ qacc (by kt_eqs)) (E3'.keep _ _ qLc (by kt_eqs)) ?_
    rw [List.filterMap_eq_map', List.map_id'] at hO
    exact pieces_ext E3' (notupL (by ktr_rel)) hO
noncomputable def selL (c : Bool) (x : Str × Str) : Option Str := if ((ltS c).1.cps.toList == x.1.cps.toList || (ltS c).2.cps.toList == x.1.cps.toList) = true then some x.2 else none
theorem lt_comp (w : World) (b1 b2 c : Bool) (L it acc Lc l : Nat) (p1 p : Pos) (rs : List Value) (nr : Nat) (xs : List (Str × Str)) (T : Nat) (d : Drawn) (ox : OsState) (R : Result → Shared → Prop) (h : Heap)
    (hz : rs.length ≤ 900) (h0 : 0 < rs.length) (G : Glob (XX w b1 b2 tb []) h) (fit : h.get? (it+292) = some (iterO (l+292) 0)) (facc : h.get? (acc+292) = some (listO [] 0)) (fLc : h.get? (Lc+292) = some (dictO [] 0)) (fl : h.get? (l+292) = some (listO rs nr)) (hal : acc ≠ l)
    (hrs : All2 (PieceV h) rs xs)
    (K : ∀ h' T' accs na z nz, Ext [it+292, acc+292, Lc+292] h h' → h'.get? (acc+292) = some (listO accs na) → h'.get? (Lc+292) = some (dictO (spEs false z) nz) → All2 StrV accs (xs.filterMap (selL c)) → R (.ok .next) ⟨h', ⟨gl2⟩, d, T', ox⟩) :
    wpCode (model PySem.Challenge.pw_pe0217_01 (setW w b1 b2)) (ctxIn (ltStart w c (it+292) (acc+292) (L+292) (Lc+292)) (belowLaw w (L+292) p1)) R p ⟨h, ⟨gl2⟩, d, T, ox⟩ := by
  refine comp_start (by cases c <;> kernel_rfl) (by cases c <;> kernel_rfl) rfl (iter_list (l := l+292) (i := 0) fit) fun p' => ?_
  let Γc : Ctx := ctxIn (ltLoop w c (it+292) (acc+292) (L+292) (Lc+292)) (belowLaw w (L+292) p1)
  refine pieces_comp (γ := Str) w b1 b2 Γc it acc Lc l rs nr xs spEs (fun _ v g => StrV v g) (selL c) (gl := gl2) d ox _ h p' T (fun _ => rfl) G fit facc fLc fl hal hrs hz (fun _ _ _ _ _ _ q => q) ?_ ?_
  · intro i x tp tk tv f z ne accs na h p T N hN G hv hm qit qacc qLc ql qt hl E K'
    let B : PcA := ⟨L, it, acc, Lc, l, tp, p1, p, i, rs, nr, accs, na, spEs f z, ne, x.1, x.2, tk, tv, N, T⟩
    cases hr : ((ltS c).1.cps.toList == x.1.cps.toList || (ltS c).2.cps.toList == x.1.cps.toList) with
    | true =>
      refine code_loop (X0 := XX w b1 b2 tb []) (X := xLt w b1 b2 c B true) (N := N) (own := [it+292, acc+292, Lc+292]) (lt_seg1 w b1 b2 c f B z) rfl rfl rfl ⟨hkNext_ok hv, ok_in hr, ok_app (by rw [sizeL]; show accs.length ≤ _; omega), trivial⟩ hN G ⟨qit, qacc, qLc, ql, qt, trivial⟩ (difPc _ _ _ _ _ _ _ _ _ _ _ _ _ _ _ _ hal) (gePc _ _ _ _ _ _ _ _ _ _ _ _ _ _ _) rfl fun h3 T3 p3 st3 hV3 D3 E3 hnQ => ?_
      obtain ⟨a0, a1, a2⟩ := pr3 hV3
      obtain ⟨es3, ne3, ow3, e3, hk3⟩ := shape_ok a2
      obtain ⟨z3, rfl⟩ := spEs_of hk3
      refine hnQ ?_
      refine K' h3 p3 T3 _ _ z3 ne3 E3 (D3.at a0) (D3.at a1) (D3.at e3) ?_
      simp only [selL, hr, if_true]
      exact ⟨_, rfl, _, rfl⟩
    | false =>
      refine code_loop (X0 := XX w b1 b2 tb []) (X := xLt w b1 b2 c B false) (N := N) (own := [it+292, acc+292, Lc+292]) (lt_seg0 w b1 b2 c f B z) rfl rfl rfl ⟨hkNext_ok hv, ok_in hr, trivial⟩ hN G ⟨qit, qacc, qLc, ql, qt, trivial⟩ (difPc _ _ _ _ _ _ _ _ _ _ _ _ _ _ _ _ hal) (gePc _ _ _ _ _ _ _ _ _ _ _ _ _ _ _) rfl fun h3 T3 p3 st3 hV3 D3 E3 hnQ => ?_
      obtain ⟨a0, a1, a2⟩ := pr3 hV3
      obtain ⟨es3, ne3, ow3, e3, hk3⟩ := shape_ok a2
      obtain ⟨z3, rfl⟩ := spEs_of hk3
      refine hnQ ?_
      refine K' h3 p3 T3 _ _ z3 ne3 E3 (D3.at a0) (D3.at a1) (D3.at e3) ?_
      simp only [selL, hr, Bool.false_eq_true, if_false]
      rfl
  · intro f z ne accs na h2 p2 T2 N2 hN2 G2 qit qacc qLc ql E hO hf
    cases f with
    | true =>
      have e := hf rfl
      rw [e] at h0
      cases h0
    | false =>
    refine code_done (X0 := XX w b1 b2 tb []) (X := XX w b1 b2 tb [hkEnd 0 1 (it+292) (l+292) rs nr rs.length]) (N := N2) (own := [it+292]) (lt_end w b1 b2 c L it acc Lc l p1 p2 rs nr rs.length N2 T2) rfl rfl rfl ⟨hkEnd_ok (by simp), trivial⟩ hN2 G2 ⟨qit, ql, trivial⟩ ?_ ?_ fun h3 T3 st3 hV3 D3 E3' hnQ => ?_
    · ktd_rel
    · kt_len
    have ne1 : it ≠ acc := fun e => ne_kind fit facc (by simp [kindOf, iterO, listO]) (by rw [e])
    have ne2 : it ≠ Lc := fun e => ne_kind fit fLc (by simp [kindOf, iterO, dictO]) (by rw [e])
    refine hnQ ?_
    exact K h3 T3 accs na z ne ((E.trans E3').drop (by kt_ors)) (E3'.keep _ _ qacc (by kt_eqs)) (E3'.keep _ _ qLc (by kt_eqs)) hO
end
end Mine

namespace Mine
noncomputable section
open PySem
noncomputable def undo : Nat → Nat
  | 0 => 2
  | 1 => 3
  | 2 => 0
  | _ => 1
noncomputable def Sg (x : Nat) : Prop := x = 0 ∨ x = 1 ∨ x = 2 ∨ x = 3
noncomputable def Odd4 (m : M4) : Prop := m.1 % 2 = 1 ∧ m.2.1 % 2 = 0 ∧ m.2.2.1 % 2 = 0 ∧ m.2.2.2 % 2 = 1
noncomputable def Rows (x : Nat) (m : M4) : Prop := Row x m.1 m.2.1 ∧ Row x m.2.2.1 m.2.2.2
theorem par_a (a b : Int) : (a + 2 * b) % 2 = a % 2 := by omega
theorem par_s (a b : Int) : (a - 2 * b) % 2 = a % 2 := by omega
theorem odd_mv {x : Nat} (hx : Sg x) {m : M4} (h : Odd4 m) : Odd4 (mv x m) := by
  obtain ⟨p, q, r, s⟩ := m
  obtain ⟨h1, h2, h3, h4⟩ := h
  dsimp only at h1 h2 h3 h4
  rcases hx with rfl | rfl | rfl | rfl
  · exact ⟨(par_s p q).trans h1, h2, (par_s r s).trans h3, h4⟩
  · exact ⟨h1, (par_a q p).trans h2, h3, (par_a s r).trans h4⟩
  · exact ⟨(par_a p q).trans h1, h2, (par_a r s).trans h3, h4⟩
  · exact ⟨h1, (par_s q p).trans h2, h3, (par_s s r).trans h4⟩
theorem undo_mv {x : Nat} (hx : Sg x) (m : M4) : mv x (mv (undo x) m) = m := by
  obtain ⟨p, q, r, s⟩ := m
  rcases hx with rfl | rfl | rfl | rfl <;> simp only [mv, undo, Prod.mk.injEq] <;> (refine ⟨?_, ?_, ?_, ?_⟩ <;> first | rfl | trivial | omega)
theorem first_mv {x : Nat} (hx : Sg x) : Rows x (mv x (1, 0, 0, 1)) ∧ size4 (1, 0, 0, 1) < size4 (mv x (1, 0, 0, 1)) := by
  rcases hx with rfl | rfl | rfl | rfl <;> simp only [mv, Rows, Row, size4] <;> decide
theorem grow_mv {x y : Nat} (hx : Sg x) (hy : Sg y) (hn : y ≠ undo x) {m : M4} (ho : Odd4 m) (h : Rows y m) : Rows x (mv x m) ∧ size4 m < size4 (mv x m) := by
  obtain ⟨p, q, r, s⟩ := m
  obtain ⟨h1, h2, h3, h4⟩ := ho
  obtain ⟨hp, hq⟩ := h
  dsimp only at h1 h2 h3 h4 hp hq
  rcases hx with rfl | rfl | rfl | rfl
  · have a1 : Row 0 p q ∨ Row 1 p q ∨ Row 3 p q := by rcases hy with rfl | rfl | rfl | rfl <;> first | exact absurd rfl hn | exact .inl hp | exact .inr (.inl hp) | exact .inr (.inr hp)
    have a2 : Row 0 r s ∨ Row 1 r s ∨ Row 3 r s := by rcases hy with rfl | rfl | rfl | rfl <;> first | exact absurd rfl hn | exact .inl hq | exact .inr (.inl hq) | exact .inr (.inr hq)
    obtain ⟨b1, b2, b3⟩ := row_B a1
    obtain ⟨c1, c2, c3⟩ := row_B a2
    have := c3 (by omega)
    exact ⟨⟨b1, c1⟩, by simp only [mv, size4]; omega⟩
  · have a1 : Row 1 p q ∨ Row 2 p q ∨ Row 0 p q := by rcases hy with rfl | rfl | rfl | rfl <;> first | exact absurd rfl hn | exact .inl hp | exact .inr (.inl hp) | exact .inr (.inr hp)
    have a2 : Row 1 r s ∨ Row 2 r s ∨ Row 0 r s := by rcases hy with rfl | rfl | rfl | rfl <;> first | exact absurd rfl hn | exact .inl hq | exact .inr (.inl hq) | exact .inr (.inr hq)
    obtain ⟨b1, b2, b3⟩ := row_a a1
    obtain ⟨c1, c2, c3⟩ := row_a a2
    have := b3 (by omega)
    exact ⟨⟨b1, c1⟩, by simp only [mv, size4]; omega⟩
  · have a1 : Row 2 p q ∨ Row 1 p q ∨ Row 3 p q := by rcases hy with rfl | rfl | rfl | rfl <;> first | exact absurd rfl hn | exact .inl hp | exact .inr (.inl hp) | exact .inr (.inr hp)
    have a2 : Row 2 r s ∨ Row 1 r s ∨ Row 3 r s := by rcases hy with rfl | rfl | rfl | rfl <;> first | exact absurd rfl hn | exact .inl hq | exact .inr (.inl hq) | exact .inr (.inr hq)
    obtain ⟨b1, b2, b3⟩ := row_b a1
    obtain ⟨c1, c2, c3⟩ := row_b a2
    have := c3 (by omega)
    exact ⟨⟨b1, c1⟩, by simp only [mv, size4]; omega⟩
  · have a1 : Row 3 p q ∨ Row 2 p q ∨ Row 0 p q := by rcases hy with rfl | rfl | rfl | rfl <;> first | exact absurd rfl hn | exact .inl hp | exact .inr (.inl hp) | exact .inr (.inr hp)
    have a2 : Row 3 r s ∨ Row 2 r s ∨ Row 0 r s := by rcases hy with rfl | rfl | rfl | rfl <;> first | exact absurd rfl hn | exact .inl hq | exact .inr (.inl hq) | exact .inr (.inr hq)
    obtain ⟨b1, b2, b3⟩ := row_A a1
    obtain ⟨c1, c2, c3⟩ := row_A a2
    have := b3 (by omega)
    exact ⟨⟨b1, c1⟩, by simp only [mv, size4]; omega⟩

noncomputable abbrev I4 : M4 := (1, 0, 0, 1)
noncomputable def mat : List (Nat × Nat) → M4
  | [] => I4
  | (x, _) :: st => mv x (mat st)
noncomputable def fOf (ws : List Nat) (j : Nat) : M4 := spot (ws.take j)
theorem fOf_zero (ws : List Nat) : fOf ws 0 = I4 := rfl
theorem fOf_succ {ws : List Nat} {j x : Nat} (h : ws[j]? = some x) : fOf ws (j + 1) = mv x (fOf ws j) := spot_succ h
noncomputable def Redu (ws : List Nat) (k : Nat) : List (Nat × Nat) → Prop
  | [] => True
  | (x, j) :: st => Sg x ∧ ws[j]? = some x ∧ j < k ∧ fOf ws j = mat st ∧ (∀ i, j < i → i ≤ k → fOf ws i ≠ fOf ws j) ∧ (match st with | [] => True | (y, j') :: _ => y ≠ undo x ∧ j' < j) ∧ Redu ws k st
theorem good_odd {ws : List Nat} {k : Nat} : ∀ {st : List (Nat × Nat)}, Redu ws k st → Odd4 (mat st)
  | [], _ => by simp [mat, Odd4]
  | (x, j) :: st, h => odd_mv h.1 (good_odd h.2.2.2.2.2.2)
theorem good_grow {ws : List Nat} {k : Nat} : ∀ {x j : Nat} {st : List (Nat × Nat)}, Redu ws k ((x, j) :: st) → Rows x (mat ((x, j) :: st)) ∧ size4 (mat st) < size4 (mat ((x, j) :: st))
  | x, j, [], h => first_mv h.1
  | x, j, (y, j') :: st, h => by
    have ih := good_grow h.2.2.2.2.2.2
    exact grow_mv h.1 h.2.2.2.2.2.2.1 h.2.2.2.2.2.1.1 (good_odd h.2.2.2.2.2.2) ih.1
theorem good_lt {ws : List Nat} {k : Nat} : ∀ {st : List (Nat × Nat)}, Redu ws k st → ∀ y ∈ st, size4 (fOf ws y.2) < size4 (mat st)
  | (x, j) :: st, h, y, hy => by
    have g := (good_grow h).2
    rcases List.mem_cons.mp hy with rfl | hy
    · rw [h.2.2.2.1]; exact g
    · exact Int.lt_trans (good_lt h.2.2.2.2.2.2 y hy) g
theorem good_next {ws : List Nat} {k : Nat} : ∀ {st : List (Nat × Nat)}, Redu ws k st → (∀ y ∈ st, size4 (fOf ws y.2) < size4 (fOf ws (k + 1))) → Redu ws (k + 1) st
  | [], _, _ => trivial
  | (x, j) :: st, h, H => by
    obtain ⟨h1, h2, h3, h4, h5, h6, h7⟩ := h
    refine ⟨h1, h2, by omega, h4, fun i hi hik => ?_, h6, good_next h7 fun y hy => H y (.tail _ hy)⟩
    rcases Nat.lt_or_ge k i with hlt | hge
    · have : i = k + 1 := by omega
      subst this
      intro e
      have := H (x, j) (.head _)
      rw [e] at this
      exact absurd this (Int.lt_irrefl _)
    · exact h5 i hi hge
noncomputable def turnR (st : List (Nat × Nat)) (k x : Nat) : List (Nat × Nat) × Option Nat := match st with
  | [] => ([(x, k)], none)
  | (y, j) :: r => if y = undo x then (r, some j) else ((x, k) :: st, none)
noncomputable def stk (ws : List Nat) : Nat → List (Nat × Nat)
  | 0 => []
  | k + 1 => (turnR (stk ws k) k (ws.getD k 0)).1
noncomputable def gOf (ws : List Nat) (k : Nat) : Option Nat := (turnR (stk ws k) k (ws.getD k 0)).2
noncomputable def AllSg (ws : List Nat) : Prop := ∀ x ∈ ws, Sg x
theorem undo_undo {x : Nat} (h : Sg x) : undo (undo x) = x := by rcases h with rfl | rfl | rfl | rfl <;> rfl
theorem stk_good {ws : List Nat} (hs : AllSg ws) : ∀ k, k ≤ ws.length → Redu ws k (stk ws k) ∧ fOf ws k = mat (stk ws k)
  | 0, _ => ⟨trivial, rfl⟩
  | k + 1, hk => by
    obtain ⟨g, e⟩ := stk_good hs k (by omega)
    have hx : ws[k]? = some ws[k] := List.getElem?_eq_getElem (by omega)
    have hgd : ws.getD k 0 = ws[k] := by rw [List.getD_eq_getElem?_getD, hx]; rfl
    have sx : Sg ws[k] := hs _ (List.getElem_mem _)
    have ef := fOf_succ hx
    show Redu ws (k + 1) (turnR (stk ws k) k (ws.getD k 0)).1 ∧ fOf ws (k + 1) = mat (turnR (stk ws k) k (ws.getD k 0)).1
    rw [hgd]
    generalize ws[k] = x at *
    cases hst : stk ws k with
    | nil =>
      rw [hst] at g e
      have e0 : fOf ws (k + 1) = mv x I4 := by rw [ef, e]; rfl
      refine ⟨⟨sx, hx, by omega, e, fun i hi hik => ?_, trivial, trivial⟩, e0⟩
      have : i = k + 1 := by omega
      subst this
      intro eq
      have := (first_mv sx).2
      rw [e0, e] at eq
      have e2 : mat [] = I4 := rfl
      rw [e2] at eq
      rw [eq] at this
      exact absurd this (Int.lt_irrefl _)
    | cons y r =>
      obtain ⟨y, j⟩ := y
      rw [hst] at g e
      show Redu ws (k + 1) (turnR ((y, j) :: r) k x).1 ∧ fOf ws (k + 1) = mat (turnR ((y, j) :: r) k x).1
      by_cases hy : y = undo x
      · have et : turnR ((y, j) :: r) k x = (r, some j) := if_pos hy
        rw [et]
        have em : fOf ws (k + 1) = mat r := by
          rw [ef, e]
          show mv x (mv y (mat r)) = mat r
          rw [hy]; exact undo_mv sx _
        refine ⟨good_next g.2.2.2.2.2.2 fun z hz => ?_, em⟩
        rw [em]; exact good_lt g.2.2.2.2.2.2 z hz
      · have et : turnR ((y, j) :: r) k x = ((x, k) :: (y, j) :: r, none) := if_neg hy
        rw [et]
        have em : fOf ws (k + 1) = mat ((x, k) :: (y, j) :: r) := by rw [ef, e]; rfl
        have gr := grow_mv sx g.1 hy (good_odd g) (good_grow g).1
        have lt : size4 (fOf ws k) < size4 (fOf ws (k + 1)) := by rw [ef, e]; exact gr.2
        refine ⟨⟨sx, hx, by omega, e, fun i hi hik => ?_, ⟨hy, g.2.2.1⟩, good_next g fun z hz => ?_⟩, em⟩
        · have : i = k + 1 := by omega
          subst this
          intro eq
          rw [eq] at lt
          exact absurd lt (Int.lt_irrefl _)
        · have := good_lt g z hz
          rw [e] at lt
          omega
theorem gOf_none {ws : List Nat} (hs : AllSg ws) {k : Nat} (hk : k < ws.length) (h : gOf ws k = none) : ¬ size4 (fOf ws (k + 1)) < size4 (fOf ws k) := by
  obtain ⟨g, e⟩ := stk_good hs k (by omega)
  have hx : ws[k]? = some ws[k] := List.getElem?_eq_getElem hk
  have hgd : ws.getD k 0 = ws[k] := by rw [List.getD_eq_getElem?_getD, hx]; rfl
  have sx : Sg ws[k] := hs _ (List.getElem_mem _)
  have ef := fOf_succ hx
  unfold gOf at h
  rw [hgd] at h
  generalize ws[k] = x at *
  cases hst : stk ws k with
  | nil =>
    rw [hst] at e
    have := (first_mv sx).2
    rw [ef, e]
    show ¬ size4 (mv x I4) < size4 I4
    exact fun h => absurd (Int.lt_trans h this) (Int.lt_irrefl _)
  | cons y r =>
    obtain ⟨y, j⟩ := y
    rw [hst] at h g e
    have hy : y ≠ undo x := by
      intro hy
      have et : turnR ((y, j) :: r) k x = (r, some j) := if_pos hy
      rw [et] at h; cases h
    have gr := grow_mv sx g.1 hy (good_odd g) (good_grow g).1
    rw [ef, e]
    have := gr.2
    omega
theorem gOf_some {ws : List Nat} (hs : AllSg ws) {k M : Nat} (hk : k < ws.length) (h : gOf ws k = some M) : size4 (fOf ws (k + 1)) < size4 (fOf ws k) ∧ M ≤ k ∧ fOf ws M = fOf ws (k + 1) ∧ ∀ i, i ≤ k → fOf ws i = fOf ws (k + 1) → i ≤ M := by
  obtain ⟨g, e⟩ := stk_good hs k (by omega)
  have hx : ws[k]? = some ws[k] := List.getElem?_eq_getElem hk
  have hgd : ws.getD k 0 = ws[k] := by rw [List.getD_eq_getElem?_getD, hx]; rfl
  have sx : Sg ws[k] := hs _ (List.getElem_mem _)
  have ef := fOf_succ hx
  unfold gOf at h
  rw [hgd] at h
  generalize ws[k] = x at *
  cases hst : stk ws k with
  | nil => rw [hst] at h; cases h
  | cons y r =>
    obtain ⟨y, j⟩ := y
    rw [hst] at h g e
    by_cases hy : y = undo x
    · have et : turnR ((y, j) :: r) k x = (r, some j) := if_pos hy
      rw [et] at h
      have : j = M := by simpa using h
      subst this
      have em : fOf ws (k + 1) = mat r := by
        rw [ef, e]
        show mv x (mv y (mat r)) = mat r
        rw [hy]; exact undo_mv sx _
      have ej : fOf ws j = fOf ws (k + 1) := by rw [em]; exact g.2.2.2.1
      refine ⟨?_, by have := g.2.2.1; omega, ej, fun i hi hii => ?_⟩
      · rw [em, e]; exact (good_grow g).2
      · rcases Nat.lt_or_ge j i with hlt | hge
        · exact absurd (hii.trans ej.symm) (g.2.2.2.2.1 i hlt hi)
        · exact hge
    · have et : turnR ((y, j) :: r) k x = ((x, k) :: (y, j) :: r, none) := if_neg hy
      rw [et] at h; cases h
noncomputable def lastF (f : Nat → M4) (i : Nat) : Nat → Nat
  | 0 => 0
  | n + 1 => if eqM (f (n + 1)) (f i) then n + 1 else lastF f i n
theorem lastF_ok (f : Nat → M4) (i : Nat) : ∀ n, i ≤ n → i ≤ lastF f i n ∧ lastF f i n < n + 1 ∧ f (lastF f i n) = f i ∧ ∀ k, i ≤ k → k < n + 1 → f k = f i → k ≤ lastF f i n
  | 0, h => by
    have : i = 0 := by omega
    subst this
    exact ⟨Nat.le_refl _, Nat.lt_succ_self _, rfl, fun k _ hk _ => by show k ≤ 0; omega⟩
  | n + 1, h => by
    unfold lastF
    by_cases he : eqM (f (n + 1)) (f i) = true
    · rw [if_pos he]
      exact ⟨h, by omega, eqM_iff.mp he, fun k _ hk _ => by omega⟩
    · rw [if_neg he]
      have hin : i ≤ n := by
        rcases Nat.lt_or_ge n i with hlt | hge
        · have : i = n + 1 := by omega
          subst this
          exact absurd (eqM_iff.mpr rfl) he
        · exact hge
      obtain ⟨h1, h2, h3, h4⟩ := lastF_ok f i n hin
      refine ⟨h1, by omega, h3, fun k hk hkn hf => ?_⟩
      rcases Nat.lt_or_ge k (n + 1) with hlt | hge
      · exact h4 k hk hlt hf
      · have : k = n + 1 := by omega
        subst this
        exact absurd (eqM_iff.mpr hf) he
noncomputable def Up (ws : List Nat) : Nat → List (Nat × Nat) → Prop
  | a, [] => a ≤ ws.length ∧ fOf ws a = fOf ws ws.length
  | a, (x, p) :: r => a ≤ p ∧ p < ws.length ∧ fOf ws p = fOf ws a ∧ (∀ i, p < i → i ≤ ws.length → fOf ws i ≠ fOf ws p) ∧ ws[p]? = some x ∧ Up ws (p + 1) r
noncomputable def topN : List (Nat × Nat) → Nat
  | [] => 0
  | (_, j) :: _ => j + 1
theorem topN_mat {ws : List Nat} {k : Nat} : ∀ {st : List (Nat × Nat)}, Redu ws k st → fOf ws (topN st) = mat st
  | [], _ => rfl
  | (x, j) :: st, h => by
    show fOf ws (j + 1) = mv x (mat st)
    rw [fOf_succ h.2.1, h.2.2.2.1]
theorem up_of_good {ws : List Nat} : ∀ {st : List (Nat × Nat)} (r : List (Nat × Nat)), Redu ws ws.length st → Up ws (topN st) r → Up ws 0 (st.reverse ++ r)
  | [], r, _, h => h
  | (x, j) :: st, r, g, h => by
    have e : ((x, j) :: st).reverse ++ r = st.reverse ++ (x, j) :: r := by simp
    rw [e]
    refine up_of_good _ g.2.2.2.2.2.2 ⟨?_, g.2.2.1, ?_, g.2.2.2.2.1, g.2.1, h⟩
    · cases st with
      | nil => exact Nat.zero_le _
      | cons y st => obtain ⟨y, j'⟩ := y; have := g.2.2.2.2.2.1.2; show j' + 1 ≤ j; omega
    · rw [g.2.2.2.1, topN_mat g.2.2.2.2.2.2]
noncomputable def pieceOf (y : Nat × Nat) : Str × Str := (lt4 y.1, digs y.2)
theorem leftGo_up {ws : List Nat} {last : Nat → Nat} (hl : ∀ i, i < ws.length + 1 → i ≤ last i ∧ last i < ws.length + 1 ∧ fOf ws (last i) = fOf ws i ∧ ∀ k, i ≤ k → k < ws.length + 1 → fOf ws k = fOf ws i → k ≤ last i) :
    ∀ (l : List (Nat × Nat)) (a m : Nat), Up ws a l → ws.length + 1 - a ≤ m → leftGo last ws m a = l.map pieceOf
  | [], a, 0, h, hm => by have := h.1; omega
  | [], a, m + 1, h, hm => by
    obtain ⟨h1, h2, h3, h4⟩ := hl a (by have := h.1; omega)
    have := h4 ws.length h.1 (by omega) h.2.symm
    have e : last a = ws.length := by omega
    unfold leftGo
    rw [if_pos (by have := h.1; omega), e, if_neg (by omega)]
    cases m with
    | zero => rfl
    | succ m => unfold leftGo; rw [if_neg (by omega)]; rfl
  | (x, p) :: r, a, 0, h, hm => by have := h.1; have := h.2.1; omega
  | (x, p) :: r, a, m + 1, h, hm => by
    obtain ⟨u1, u2, u3, u4, u5, u6⟩ := h
    obtain ⟨h1, h2, h3, h4⟩ := hl a (by omega)
    have hp := h4 p u1 (by omega) u3
    have e : last a = p := by
      rcases Nat.lt_or_ge p (last a) with hlt | hge
      · exact absurd (h3.trans u3.symm) (u4 _ hlt (by omega))
      · omega
    unfold leftGo
    rw [if_pos (by omega), e, if_pos u2, List.getD_eq_getElem?_getD, u5, leftGo_up hl r (p + 1) m u6 (by omega)]
    rfl
end
end Mine
namespace Mine
noncomputable section
open PySem
theorem low_eq_iff {x y : Nat} (hx : Sg x) (hy : Sg y) : ((lowS (lt4 y)).cps.toList == (lowS (lt4 x)).cps.toList && !((lt4 y).cps.toList == (lt4 x).cps.toList)) = decide (y = undo x) := by
  rcases hx with rfl | rfl | rfl | rfl <;> rcases hy with rfl | rfl | rfl | rfl <;> rfl
theorem low_emp {x : Nat} (hx : Sg x) : ((lowS emp).cps.toList == (lowS (lt4 x)).cps.toList) = false := by
  rcases hx with rfl | rfl | rfl | rfl <;> rfl
theorem turnS_emp {x : Nat} (hx : Sg x) (ys : List (Str × Str)) (k : Nat) : turnS [] ys (emp, emp) (lt4 x) (digs k) = ([(emp, emp), pieceOf (x, k)], ys) := by
  unfold turnS
  rw [low_emp hx]
  rfl
theorem runS_eq {ws : List Nat} (hs : AllSg ws) : ∀ k, k ≤ ws.length → (runS (ws.map lt4) k).1 = (if k = 0 then [] else (emp, emp) :: (stk ws k).reverse.map pieceOf) ∧ (runS (ws.map lt4) k).2 = gPairs (gOf ws) k
  | 0, _ => ⟨rfl, rfl⟩
  | k + 1, hk => by
    obtain ⟨e1, e2⟩ := runS_eq hs k (by omega)
    obtain ⟨g, _⟩ := stk_good hs k (by omega)
    have hx : ws[k]? = some ws[k] := List.getElem?_eq_getElem (by omega)
    have hgd : ws.getD k 0 = ws[k] := by rw [List.getD_eq_getElem?_getD, hx]; rfl
    have hgS : (ws.map lt4).getD k emp = lt4 ws[k] := by rw [List.getD_eq_getElem?_getD, List.getElem?_map, hx]; rfl
    have sx : Sg ws[k] := hs _ (List.getElem_mem _)
    rw [if_neg (by omega), gPairs_succ]
    have eg : gOf ws k = (turnR (stk ws k) k ws[k]).2 := by unfold gOf; rw [hgd]
    have es : stk ws (k + 1) = (turnR (stk ws k) k ws[k]).1 := by show (turnR (stk ws k) k (ws.getD k 0)).1 = _; rw [hgd]
    rw [eg, es]
    unfold runS
    rw [hgS, e2]
    generalize ws[k] = x at *
    have empty : stk ws k = [] → ((runS (ws.map lt4) k).1.getLast? = none ∨ (runS (ws.map lt4) k).1.getLast? = some (emp, emp) ∧ (runS (ws.map lt4) k).1.dropLast = []) := by
      intro h0
      rw [e1, h0]
      by_cases hk0 : k = 0
      · rw [if_pos hk0]; exact .inl rfl
      · rw [if_neg hk0]; exact .inr ⟨rfl, rfl⟩
    cases hst : stk ws k with
    | nil =>
      have et : turnR [] k x = ([(x, k)], none) := rfl
      rw [et]
      rcases empty hst with h | ⟨h, h'⟩
      · rw [h]
        show (turnS [] _ (emp, emp) (lt4 x) (digs k)).1 = _ ∧ (turnS [] _ (emp, emp) (lt4 x) (digs k)).2 = _
        rw [turnS_emp sx]
        exact ⟨rfl, (List.append_nil _).symm⟩
      · rw [h]
        show (turnS _ _ (emp, emp) (lt4 x) (digs k)).1 = _ ∧ (turnS _ _ (emp, emp) (lt4 x) (digs k)).2 = _
        rw [h', turnS_emp sx]
        exact ⟨rfl, (List.append_nil _).symm⟩
    | cons y r =>
      obtain ⟨y, j⟩ := y
      rw [hst] at g e1
      have hk0 : k ≠ 0 := by intro h; subst h; cases hst
      rw [if_neg hk0] at e1
      have e1' : (runS (ws.map lt4) k).1 = ((emp, emp) :: r.reverse.map pieceOf) ++ [pieceOf (y, j)] := by rw [e1]; simp
      have hlast : (runS (ws.map lt4) k).1.getLast? = some (pieceOf (y, j)) := by rw [e1', List.getLast?_append]; rfl
      have hdrop : (runS (ws.map lt4) k).1.dropLast = (emp, emp) :: r.reverse.map pieceOf := by rw [e1', List.dropLast_concat]
      rw [hlast]
      show (turnS _ _ (pieceOf (y, j)) (lt4 x) (digs k)).1 = _ ∧ (turnS _ _ (pieceOf (y, j)) (lt4 x) (digs k)).2 = _
      rw [hdrop]
      have hc := low_eq_iff sx g.1
      unfold turnS
      show (if ((lowS (lt4 y)).cps.toList == (lowS (lt4 x)).cps.toList && !((lt4 y).cps.toList == (lt4 x).cps.toList)) = true then _ else _ : List (Str × Str) × List (Str × Str)).1 = _ ∧ (if ((lowS (lt4 y)).cps.toList == (lowS (lt4 x)).cps.toList && !((lt4 y).cps.toList == (lt4 x).cps.toList)) = true then _ else _ : List (Str × Str) × List (Str × Str)).2 = _
      rw [hc]
      by_cases hy : y = undo x
      · have et : turnR ((y, j) :: r) k x = (r, some j) := if_pos hy
        rw [et, decide_eq_true hy]
        exact ⟨rfl, rfl⟩
      · have et : turnR ((y, j) :: r) k x = ((x, k) :: (y, j) :: r, none) := if_neg hy
        rw [et, decide_eq_false hy]
        refine ⟨?_, (List.append_nil _).symm⟩
        simp [pieceOf]
theorem law_plain {ws : List Nat} (hs : AllSg ws) (hn : 0 < ws.length) :
    (runS (ws.map lt4) ws.length).1 = (emp, emp) :: leftGo (fun i => lastF (fOf ws) i ws.length) ws (ws.length + 1) 0 ∧ (runS (ws.map lt4) ws.length).2 = gPairs (gOf ws) ws.length := by
  obtain ⟨e1, e2⟩ := runS_eq hs ws.length (Nat.le_refl _)
  obtain ⟨g, e⟩ := stk_good hs ws.length (Nat.le_refl _)
  rw [if_neg (by omega)] at e1
  refine ⟨?_, e2⟩
  rw [e1]
  congr 1
  have hl : ∀ i, i < ws.length + 1 → i ≤ lastF (fOf ws) i ws.length ∧ lastF (fOf ws) i ws.length < ws.length + 1 ∧ fOf ws (lastF (fOf ws) i ws.length) = fOf ws i ∧ ∀ k, i ≤ k → k < ws.length + 1 → fOf ws k = fOf ws i → k ≤ lastF (fOf ws) i ws.length := fun i hi => lastF_ok _ i _ (by omega)
  have hup := up_of_good (ws := ws) [] g ⟨by
    cases hst : stk ws ws.length with
    | nil => exact Nat.zero_le _
    | cons y r => obtain ⟨y, j⟩ := y; rw [hst] at g; exact g.2.2.1, by rw [topN_mat g, e]⟩
  rw [List.append_nil] at hup
  exact (leftGo_up hl _ 0 _ hup (by omega)).symm
end
end Mine

namespace Mine
noncomputable section
open PySem PySem.W PySem.W.X
set_option maxHeartbeats 4000000
noncomputable abbrev Md (w : World) (b1 b2 : Bool) : Model := model PySem.Challenge.pw_pe0217_01 (setW w b1 b2)
noncomputable abbrev Gl (w : World) (L : Nat) : Ctx := ctxIn (fcode w 291 (L+292)) below0
noncomputable abbrev smT (w : World) (L j : Nat) : Sem Flow := execs [stmtAt w 291 j] (cenv w 291 (L+292))
noncomputable def FrameIs (h : Heap) (L : Nat) (l : List (Str × Value)) : Prop := ∃ hh kk nL, h.get? (L+292) = some (frameO (mkK hh kk 0 l) nL)
theorem frame_of {h : Heap} {L : Nat} {l : List (Str × Value)} {es : List DictEntry} {n : Nat} (hg : h.get? (L+292) = some (frameO es n)) (hk : kvs es = kvL l) : FrameIs h L l := by
  obtain ⟨hh, kk, rfl⟩ := mkK_of 0 hk
  exact ⟨hh, kk, n, hg⟩
theorem Ext.keepF {L b : Nat} {l : List (Str × Value)} {h h' : Heap} {o : Obj} (E : Ext [L+292] h h') (fF : FrameIs h L l) (hb : h.get? b = some o) (hk : kindOf o ≠ "frame") : h'.get? b = some o := by
  obtain ⟨hh, kk, nL, fF⟩ := fF
  refine E.keepT hb fun c hc e => ?_
  simp only [List.mem_cons, List.not_mem_nil, or_false] at hc
  subst hc
  rw [fF] at e
  cases e
  exact hk rfl
theorem st0 (w : World) (b1 b2 : Bool) (L a : Nat) (its : List Value) (n T : Nat) (d : Drawn) (ox : OsState) (Q : Flow → Shared → Prop) (E : Value → Shared → Prop) (h : Heap)
    (hz : its.length ≤ 63) (hint : AreInts its) (G : Glob (XX w b1 b2 tb []) h) (fF : FrameIs h L (lv0 a)) (fa : h.get? (a+292) = some (listO its n))
    (K : ∀ h' T' wd t ws, Ext [L+292] h h' → Glob (XX w b1 b2 tb []) h' → h.objs.size ≤ wd+292 → FrameIs h' L (lv1 a wd) → h'.get? (wd+292) = some (listO (four t ++ ws) 0) → Signs (its.take 20) ws → Q .next ⟨h', ⟨[]⟩, d, T', ox⟩) :
    WA (Md w b1 b2) (Gl w L) (smT w L 0) Q E ⟨h, ⟨[]⟩, d, T, ox⟩ := by
  obtain ⟨hh, kk, nL, gF⟩ := fF
  obtain ⟨N, hN⟩ := le_size fa (Nat.le_add_left _ _)
  refine WA.flow (execsF_eq _ _) (env := [⟨L+292, frameO (mkK hh kk 0 (lv0 a)) nL, true⟩]) (N := N) fun p => ?_
  refine means_of_cut (X := XX w b1 b2 tb []) (lw0_a w b1 b2 ⟨L, p, hh, kk, nL, N, T⟩ a) trivial (on_dif hN G ⟨gF, trivial⟩ ⟨trivial, trivial⟩ ⟨Nat.le_add_left _ _, trivial⟩) fun h1 T1 st1 hrun1 hV1 D1 E1 => ?_
  obtain ⟨es1, n1, ow1, e1, hk1⟩ := shape_ok hV1
  have E1' : Ext [L+292] h h1 := E1
  have gF1 : h1.get? (L+292) = some (frameO es1 n1) := D1.at e1
  have ga1 := E1'.keepF ⟨hh, kk, nL, gF⟩ fa (by simp [kindOf, listO])
  refine word_call w b1 b2 _ _ _ _ its n T1 d ox _ h1 (Nat.le_add_left _ _) hz hint D1.glob ga1 ?_
  intro h2 T2 lw ws E2 hs2 g2 hsg
  have hl : 292 ≤ lw := by
    have := D1.size
    rw [this] at hs2
    exact Nat.le_trans (by omega) hs2
  obtain ⟨wd, rfl⟩ : ∃ wd, lw = wd + 292 := ⟨lw - 292, (Nat.sub_add_cancel hl).symm⟩
  have gF2 := E2.keep _ _ gF1 (by kt_eqs)
  obtain ⟨hh1, kk1, rfl⟩ := mkK_of 0 hk1
  obtain ⟨N2, hN2⟩ := le_size gF2 (Nat.le_add_left _ _)
  refine back_done (X0 := XX w b1 b2 tb []) (X := XX w b1 b2 tb []) (own := [L+292]) hrun1 (lw0_b w b1 b2 ⟨L, p, hh, kk, nL, N, T⟩ a wd ⟨hh1, kk1, n1, N2, T2⟩) rfl rfl rfl trivial hN2 (glob_ext E2 (by kt_len) D1.glob) ⟨gF2, trivial⟩ ⟨trivial, trivial⟩ ⟨Nat.le_add_left _ _, trivial⟩ fun h3 T3 st3 hV3 D3 E3' hnQ => ?_
  obtain ⟨es3, n3, ow3, e3, hk3⟩ := shape_ok hV3
  have gF3 : h3.get? (L+292) = some (frameO es3 n3) := D3.at e3
  refine hnQ ?_
  exact K h3 T3 wd _ ws (((E1'.trans E2).trans E3').drop (by kt_ors)) (glob_ext E3' (by kt_len) (glob_ext E2 (by kt_len) D1.glob)) (Nat.le_trans E1'.size hs2) (frame_of gF3 hk3) (E3'.keepF ⟨_, _, _, gF2⟩ g2 (by simp [kindOf, listO])) hsg
end
end Mine

namespace Mine
noncomputable section
open PySem PySem.W PySem.W.X
set_option maxHeartbeats 4000000
theorem st1 (w : World) (b1 b2 : Bool) (L a wd : Nat) (its : List Value) (n : Nat) (ws : List Nat) (T : Nat) (d : Drawn) (ox : OsState) (Q : Flow → Shared → Prop) (E : Value → Shared → Prop) (h : Heap)
    (hw : All2 SignV its ws) (hz : its.length ≤ 24) (hn : 0 < its.length) (G : Glob (XX w b1 b2 tb []) h) (fF : FrameIs h L (lv1 a wd)) (fw : h.get? (wd+292) = some (listO its n))
    (K : ∀ h' T' (pl dd pr : Nat) ps np prs npr (hdh : Int) (kd t2 : Tok) nd, Ext [L+292] h h' → Glob (XX w b1 b2 tb []) h' → FrameIs h' L (lv2 a wd pl pr) → h.objs.size ≤ pl + 292 → h.objs.size ≤ dd + 292 → h.objs.size ≤ pr + 292 →
      h'.get? (pl+292) = some (pileO (dd+292) ps np) → h'.get? (dd+292) = some (dictO [⟨hdh, .str (nm "_initial_size") kd, .int 0 t2⟩] nd) → h'.get? (pr+292) = some (listO prs npr) → All2 (PieceV h') ps (runS (ws.map lt4) its.length).1 → All2 (PieceV h') prs (runS (ws.map lt4) its.length).2 →
      Q .next ⟨h', ⟨[]⟩, d, T', ox⟩) :
    WA (Md w b1 b2) (Gl w L) (smT w L 1) Q E ⟨h, ⟨[]⟩, d, T, ox⟩ := by
  obtain ⟨hh, kk, nL, gF⟩ := fF
  obtain ⟨N, hN⟩ := le_size fw (Nat.le_add_left _ _)
  refine WA.flow (execsF_eq _ _) (env := [⟨L+292, frameO (mkK hh kk 0 (lv1 a wd)) nL, true⟩]) (N := N) fun p => ?_
  refine means_of_cut (X := XX w b1 b2 tb []) (lw1_a w b1 b2 ⟨L, p, hh, kk, nL, N, T⟩ a wd) trivial (on_dif hN G ⟨gF, trivial⟩ ⟨trivial, trivial⟩ ⟨Nat.le_add_left _ _, trivial⟩) fun h1 T1 st1 hrun1 hV1 D1 E1 => ?_
  obtain ⟨es1, n1, ow1, e1, hk1⟩ := shape_ok hV1
  have E1' : Ext [L+292] h h1 := E1
  have gF1 : h1.get? (L+292) = some (frameO es1 n1) := D1.at e1
  have gw1 := E1'.keepF ⟨hh, kk, nL, gF⟩ fw (by simp [kindOf, listO])
  refine run_call w b1 b2 L wd _ _ its n ws T1 d ox _ h1 hw hz hn D1.glob gw1 ?_
  intro h2 T2 lt pl dd pr ps np prs npr hdh kd t2 nd E2 zlt zpl zdd zpr glt gpl gdd gpr hps hprs
  have gF2 := E2.keep _ _ gF1 (by kt_eqs)
  obtain ⟨hh1, kk1, rfl⟩ := mkK_of 0 hk1
  obtain ⟨N2, hN2⟩ := le_size gF2 (Nat.le_add_left _ _)
  refine back_done (X0 := XX w b1 b2 tb []) (X := XX w b1 b2 tb []) (own := [L+292]) hrun1 (lw1_b w b1 b2 ⟨L, p, hh, kk, nL, N, T⟩ a wd lt pl pr ⟨hh1, kk1, n1, N2, T2⟩) rfl rfl rfl trivial hN2 (glob_ext E2 (by kt_len) D1.glob) ⟨gF2, glt, trivial⟩ ⟨⟨.inl (by simp [kindOf, frameO, tupO]), trivial⟩, trivial, trivial⟩ ⟨Nat.le_add_left _ _, Nat.le_add_left _ _, trivial⟩ fun h3 T3 st3 hV3 D3 E3' hnQ => ?_
  obtain ⟨es3, n3, ow3, e3, hk3⟩ := shape_ok hV3
  have gF3 : h3.get? (L+292) = some (frameO es3 n3) := D3.at e3
  have F2 : FrameIs h2 L (lv1 a wd) := ⟨_, _, _, gF2⟩
  have nt : ∀ c ∈ [L+292], ∀ vs, h2.get? c ≠ some (tupO vs) := notupL (by ktr_rel)
  refine hnQ ?_
  exact K h3 T3 pl dd pr ps np prs npr hdh kd t2 nd (((E1'.trans E2).trans E3').drop (by kt_ors)) (glob_ext E3' (by kt_len) (glob_ext E2 (by kt_len) D1.glob)) (frame_of gF3 hk3) (Nat.le_trans E1'.size zpl) (Nat.le_trans E1'.size zdd) (Nat.le_trans E1'.size zpr)
    (E3'.keepF F2 gpl (by simp [kindOf, pileO])) (E3'.keepF F2 gdd (by simp [kindOf, dictO])) (E3'.keepF F2 gpr (by simp [kindOf, listO])) (pieces_ext E3' nt hps) (pieces_ext E3' nt hprs)
theorem spot_ext {own : List Addr} {h h' : Heap} (E : Ext own h h') (hown : ∀ c ∈ own, ∀ vs, h.get? c ≠ some (tupO vs)) {ps : List Value} {xs : List M4} (q : All2 (SpotV h) ps xs) : All2 (SpotV h') ps xs := q.mono fun v x q => by
  obtain ⟨a, t1, t2, t3, t4, e, ha, hg⟩ := q
  exact ⟨a, t1, t2, t3, t4, e, ha, E.keepT hg fun c hc => hown c hc _⟩
theorem st2 (w : World) (b1 b2 : Bool) (L a wd pl pr : Nat) (its : List Value) (n : Nat) (ws : List Nat) (T : Nat) (d : Drawn) (ox : OsState) (Q : Flow → Shared → Prop) (E : Value → Shared → Prop) (h : Heap)
    (hw : All2 SignV its ws) (hz : its.length ≤ 63) (hn : 0 < its.length) (G : Glob (XX w b1 b2 tb []) h) (fF : FrameIs h L (lv2 a wd pl pr)) (fw : h.get? (wd+292) = some (listO its n))
    (K : ∀ h' T' (sp : Nat) rs nr, Ext [L+292] h h' → Glob (XX w b1 b2 tb []) h' → FrameIs h' L (lv3 a wd pl pr sp) → h.objs.size ≤ sp + 292 → h'.get? (sp+292) = some (listO rs nr) → All2 (SpotV h') rs (spotsTo ws its.length) → Q .next ⟨h', ⟨[]⟩, d, T', ox⟩) :
    WA (Md w b1 b2) (Gl w L) (smT w L 2) Q E ⟨h, ⟨[]⟩, d, T, ox⟩ := by
  obtain ⟨hh, kk, nL, gF⟩ := fF
  obtain ⟨N, hN⟩ := le_size fw (Nat.le_add_left _ _)
  refine WA.flow (execsF_eq _ _) (env := [⟨L+292, frameO (mkK hh kk 0 (lv2 a wd pl pr)) nL, true⟩]) (N := N) fun p => ?_
  refine means_of_cut (X := XX w b1 b2 tb []) (lw2_a w b1 b2 ⟨L, p, hh, kk, nL, N, T⟩ a wd pl pr) trivial (on_dif hN G ⟨gF, trivial⟩ ⟨trivial, trivial⟩ ⟨Nat.le_add_left _ _, trivial⟩) fun h1 T1 st1 hrun1 hV1 D1 E1 => ?_
  obtain ⟨es1, n1, ow1, e1, hk1⟩ := shape_ok hV1
  have E1' : Ext [L+292] h h1 := E1
  have gF1 : h1.get? (L+292) = some (frameO es1 n1) := D1.at e1
  have gw1 := E1'.keepF ⟨hh, kk, nL, gF⟩ fw (by simp [kindOf, listO])
  refine spots_call w b1 b2 L wd _ _ its n ws T1 d ox _ h1 hw hz hn D1.glob gw1 ?_
  intro h2 T2 ls rs nr E2 zls gls hrs
  have hl : 292 ≤ ls := by
    have := D1.size
    rw [this] at zls
    exact Nat.le_trans (by omega) zls
  obtain ⟨sp, rfl⟩ : ∃ sp, ls = sp + 292 := ⟨ls - 292, (Nat.sub_add_cancel hl).symm⟩
  have gF2 := E2.keep _ _ gF1 (by kt_eqs)
  obtain ⟨hh1, kk1, rfl⟩ := mkK_of 0 hk1
  obtain ⟨N2, hN2⟩ := le_size gF2 (Nat.le_add_left _ _)
  refine back_done (X0 := XX w b1 b2 tb []) (X := XX w b1 b2 tb []) (own := [L+292]) hrun1 (lw2_b w b1 b2 ⟨L, p, hh, kk, nL, N, T⟩ a wd pl pr sp ⟨hh1, kk1, n1, N2, T2⟩) rfl rfl rfl trivial hN2 (glob_ext E2 (by kt_len) D1.glob) ⟨gF2, trivial⟩ ⟨trivial, trivial⟩ ⟨Nat.le_add_left _ _, trivial⟩ fun h3 T3 st3 hV3 D3 E3' hnQ => ?_
  obtain ⟨es3, n3, ow3, e3, hk3⟩ := shape_ok hV3
  have gF3 : h3.get? (L+292) = some (frameO es3 n3) := D3.at e3
  have F2 : FrameIs h2 L (lv2 a wd pl pr) := ⟨_, _, _, gF2⟩
  have nt : ∀ c ∈ [L+292], ∀ vs, h2.get? c ≠ some (tupO vs) := notupL (by ktr_rel)
  refine hnQ ?_
  exact K h3 T3 sp rs nr (((E1'.trans E2).trans E3').drop (by kt_ors)) (glob_ext E3' (by kt_len) (glob_ext E2 (by kt_len) D1.glob)) (frame_of gF3 hk3) (Nat.le_trans E1'.size zls) (E3'.keepF F2 gls (by simp [kindOf, listO])) (spot_ext E3' nt hrs)
theorem st3 (w : World) (b1 b2 : Bool) (L a wd pl pr sp : Nat) (its : List Value) (n : Nat) (rs : List Value) (nr : Nat) (ws : List Nat) (f : Nat → M4) (last : Nat → Nat) (T : Nat) (d : Drawn) (ox : OsState) (Q : Flow → Shared → Prop) (E : Value → Shared → Prop) (h : Heap)
    (hw : All2 SignV its ws) (hz : its.length ≤ 24) (G : Glob (XX w b1 b2 tb []) h) (fF : FrameIs h L (lv3 a wd pl pr sp)) (fw : h.get? (wd+292) = some (listO its n)) (fs : h.get? (sp+292) = some (listO rs nr)) (hne : wd ≠ sp) (hrs : All2 (SpotV h) rs ((List.range (its.length + 1)).map f))
    (hl : ∀ i, i < its.length + 1 → i ≤ last i ∧ last i < its.length + 1 ∧ f (last i) = f i ∧ ∀ k, i ≤ k → k < its.length + 1 → f k = f i → k ≤ last i)
    (K : ∀ h' T' (lf : Nat) lfs nlf, Ext [L+292] h h' → Glob (XX w b1 b2 tb []) h' → FrameIs h' L (lv4 a wd pl pr sp lf) → h.objs.size ≤ lf + 292 → h'.get? (lf+292) = some (listO lfs nlf) → All2 (PieceV h') lfs ((emp, emp) :: leftGo last ws (its.length + 1) 0) → Q .next ⟨h', ⟨[]⟩, d, T', ox⟩) :
    WA (Md w b1 b2) (Gl w L) (smT w L 3) Q E ⟨h, ⟨[]⟩, d, T, ox⟩ := by
  obtain ⟨hh, kk, nL, gF⟩ := fF
  obtain ⟨N, hN⟩ := le_size fw (Nat.le_add_left _ _)
  refine WA.flow (execsF_eq _ _) (env := [⟨L+292, frameO (mkK hh kk 0 (lv3 a wd pl pr sp)) nL, true⟩]) (N := N) fun p => ?_
  refine means_of_cut (X := XX w b1 b2 tb []) (lw3_a w b1 b2 ⟨L, p, hh, kk, nL, N, T⟩ a wd pl pr sp) trivial (on_dif hN G ⟨gF, trivial⟩ ⟨trivial, trivial⟩ ⟨Nat.le_add_left _ _, trivial⟩) fun h1 T1 st1 hrun1 hV1 D1 E1 => ?_
  obtain ⟨es1, n1, ow1, e1, hk1⟩ := shape_ok hV1
  have E1' : Ext [L+292] h h1 := E1
  have gF1 : h1.get? (L+292) = some (frameO es1 n1) := D1.at e1
  have F0 : FrameIs h L (lv3 a wd pl pr sp) := ⟨hh, kk, nL, gF⟩
  have gw1 := E1'.keepF F0 fw (by simp [kindOf, listO])
  have gs1 := E1'.keepF F0 fs (by simp [kindOf, listO])
  have nt0 : ∀ c ∈ [L+292], ∀ vs, h.get? c ≠ some (tupO vs) := notupL (by ktr_rel)
  refine left_call w b1 b2 L wd sp _ _ its rs n nr ws f last T1 d ox _ h1 hz hw D1.glob gw1 gs1 hne (spot_ext E1' nt0 hrs) hl ?_
  intro h2 T2 lf lfs nlf E2 zlf glf hlf
  have gF2 := E2.keep _ _ gF1 (by kt_eqs)
  obtain ⟨hh1, kk1, rfl⟩ := mkK_of 0 hk1
  obtain ⟨N2, hN2⟩ := le_size gF2 (Nat.le_add_left _ _)
  refine back_done (X0 := XX w b1 b2 tb []) (X := XX w b1 b2 tb []) (own := [L+292]) hrun1 (lw3_b w b1 b2 ⟨L, p, hh, kk, nL, N, T⟩ a wd pl pr sp lf ⟨hh1, kk1, n1, N2, T2⟩) rfl rfl rfl trivial hN2 (glob_ext E2 (by kt_len) D1.glob) ⟨gF2, trivial⟩ ⟨trivial, trivial⟩ ⟨Nat.le_add_left _ _, trivial⟩ fun h3 T3 st3 hV3 D3 E3' hnQ => ?_
  obtain ⟨es3, n3, ow3, e3, hk3⟩ := shape_ok hV3
  have gF3 : h3.get? (L+292) = some (frameO es3 n3) := D3.at e3
  have F2 : FrameIs h2 L (lv3 a wd pl pr sp) := ⟨_, _, _, gF2⟩
  have nt : ∀ c ∈ [L+292], ∀ vs, h2.get? c ≠ some (tupO vs) := notupL (by ktr_rel)
  refine hnQ ?_
  exact K h3 T3 lf lfs nlf (((E1'.trans E2).trans E3').drop (by kt_ors)) (glob_ext E3' (by kt_len) (glob_ext E2 (by kt_len) D1.glob)) (frame_of gF3 hk3) (Nat.le_trans E1'.size zlf) (E3'.keepF F2 glf (by simp [kindOf, listO])) (pieces_ext E3' nt hlf)
end
end Mine

namespace Mine
noncomputable section
open PySem PySem.W PySem.W.X PySem.Calls PyProof.Rows
set_option maxHeartbeats 4000000
theorem ok_sne {X : Cx} {x : Str} {t u : Tok} : HookOk X (hkVal "str.__ne__" [.str x t, .str x u] (.bool false)) :=
  hook_ok (v := fun _ _ => .bool false) fun A Q E s _ _ _ hq => call_gives F.slot_str_ne (typeIs_str s x t) F.entry_str_ne (F.args_str_ne_2 _ _) (gives_str_ne x x t u) (by rw [bne_self_eq_false]; exact hq)
theorem joinKV_app (K V : Str) : joinKV K V = K ++ V := by
  rw [join_kv]
  show K ++ emp ++ V = K ++ V
  rw [app_emp (x := K) (y := emp) rfl]
theorem told_same (xs : List (Str × Str)) : (xs.map fun x => joinKV x.1 x.2) = xs.map fun x => x.1 ++ x.2 := List.map_congr_left fun x _ => joinKV_app x.1 x.2
theorem sum_app (xs : List (Str × Str)) : ((xs.map fun x => x.1 ++ x.2).map (·.length)).sum = kvLen xs := by
  unfold kvLen
  rw [List.map_map]
  congr 1
  refine List.map_congr_left fun x _ => ?_
  show (x.1 ++ x.2).length = _
  rw [Str.length_append]
theorem told_len {xs : List (Str × Str)} (hne : xs ≠ []) : (Txt.join emp (xs.map fun x => x.1 ++ x.2)).length = kvLen xs := by
  show (Builtin.Str.glued emp _).length = _
  rw [StrLaws.glued_eq_join]
  cases xs with
  | nil => exact absurd rfl hne
  | cons x xs =>
    rw [← sum_app, List.map_cons, len_join_cons]
    show _ + _ * 0 = _
    simp
theorem st4 (w : World) (b1 b2 : Bool) (L a wd pl pr sp lf : Nat) (lfs : List Value) (nlf : Nat) (xs : List (Str × Str)) (T : Nat) (d : Drawn) (ox : OsState) (Q : Flow → Shared → Prop) (E : Value → Shared → Prop) (h : Heap)
    (hz : lfs.length ≤ 900) (hne : xs ≠ []) (hx : ∀ x ∈ xs, x.1.length + x.2.length ≤ 1000) (G : Glob (XX w b1 b2 tb []) h) (fF : FrameIs h L (lv4 a wd pl pr sp lf)) (fl : h.get? (lf+292) = some (listO lfs nlf)) (hps : All2 (PieceV h) lfs xs)
    (K : ∀ h' T' tt, Ext [L+292] h h' → Glob (XX w b1 b2 tb []) h' → FrameIs h' L (lv5 a wd pl pr sp lf (.str (Txt.join emp (xs.map fun x => x.1 ++ x.2)) tt)) → Q .next ⟨h', ⟨[]⟩, d, T', ox⟩) :
    WA (Md w b1 b2) (Gl w L) (smT w L 4) Q E ⟨h, ⟨[]⟩, d, T, ox⟩ := by
  obtain ⟨hh, kk, nL, gF⟩ := fF
  obtain ⟨N, hN⟩ := le_size fl (Nat.le_add_left _ _)
  have ll := lt_of_get fl hN
  have lL := lt_of_get gF hN
  let F : LwF := ⟨L, default, hh, kk, nL, N, T⟩
  refine WA.flow (execsF_eq _ _) (env := [⟨L+292, frameO (mkK hh kk 0 (lv4 a wd pl pr sp lf)) nL, true⟩, ⟨lf+292, listO lfs nlf, false⟩]) (N := N) fun p => ?_
  let F : LwF := ⟨L, p, hh, kk, nL, N, T⟩
  refine means_of_cut (X := XX w b1 b2 tb []) (lw4_a w b1 b2 F a wd pl pr sp lf lfs nlf) trivial (on_dif hN G ⟨gF, fl, trivial⟩ ⟨⟨.inl (by simp [kindOf, frameO, listO]), trivial⟩, trivial, trivial⟩ ⟨Nat.le_add_left _ _, Nat.le_add_left _ _, trivial⟩) fun h1 T1 st1 hrun1 hV1 D1 E1 => ?_
  obtain ⟨u0, u1, u2, u3⟩ := pr4 hV1
  obtain ⟨es1, n1, ow1, e1, hk1⟩ := shape_ok u3
  obtain ⟨hh1, kk1, rfl⟩ := mkK_of 0 hk1
  have F0 : FrameIs h L (lv4 a wd pl pr sp lf) := ⟨hh, kk, nL, gF⟩
  have E1' : Ext [L+292] h h1 := E1
  have gLc : h1.get? (N+294) = some (dictO [] 0) := D1.at u0
  have gacc : h1.get? (N+293) = some (listO [] 0) := D1.at u1
  have git : h1.get? (N+292) = some (iterO (lf+292) 0) := D1.at u2
  have gF1 : h1.get? (L+292) = some (frameO (mkK hh1 kk1 0 (lv4 a wd pl pr sp lf)) n1) := D1.at e1
  have gl1 := E1'.keepF F0 fl (by simp [kindOf, listO])
  have nt0 : ∀ c ∈ [L+292], ∀ vs, h.get? c ≠ some (tupO vs) := notupL (by ktr_rel)
  have hps1 := pieces_ext E1' nt0 hps
  have hlen := hps.length
  have h0 : 0 < lfs.length := by rw [hlen]; exact List.length_pos_iff.mpr hne
  refine td_comp w b1 b2 L N (N+1) (N+2) lf _ _ lfs nlf xs T1 d ox _ h1 (fun x hm => by rw [sizeL, Str.length_append]; have := hx x hm; omega) hz h0 D1.glob git gacc gLc gl1 (by omega) hps1 ?_
  intro h2 T2 accs na z nz E2 gacc2 gLc2 hacc
  have gF2 := E2.keep _ _ gF1 (by kt_eqs)
  obtain ⟨N2, hN2⟩ := le_size gF2 (Nat.le_add_left _ _)
  have G2 := glob_ext E2 (by kt_len) D1.glob
  refine back_cut (X0 := XX w b1 b2 tb []) (X := XX w b1 b2 tb []) (own := [N+293, N+294, L+292]) hrun1 (lw4_b w b1 b2 F a wd pl pr sp lf lfs nlf accs na z nz ⟨hh1, kk1, n1, N2, T2⟩) rfl rfl rfl trivial hN2 G2 ⟨gacc2, gLc2, gF2, trivial⟩ ?_ ?_ fun h3 T3 st3 hrun3 hV3 D3 E3' hnQ => ?_
  · ktd_rel
  · kt_len
  obtain ⟨v0, v2⟩ := pr2 hV3
  obtain ⟨es3, n3, ow3, e3, hk3⟩ := shape_ok v2
  obtain ⟨hh3, kk3, rfl⟩ := mkK_of 0 hk3
  have gacc3 : h3.get? (N+293) = some (listO accs na) := D3.at v0
  have gF3 : h3.get? (L+292) = some (frameO (mkK hh3 kk3 0 (lv4 a wd pl pr sp lf)) n3) := D3.at e3
  have hp3 : posO (rL4b w b1 b2 F (lv4 a wd pl pr sp lf) lf lfs nlf accs na z nz ⟨hh1, kk1, n1, N2, T2⟩) = st3.p := by
    have hrun3' : rL4b w b1 b2 F (lv4 a wd pl pr sp lf) lf lfs nlf accs na z nz ⟨hh1, kk1, n1, N2, T2⟩ = some st3 := hrun3
    rw [hrun3']; rfl
  refine hnQ ?_
  show wpCode _ (ctxIn _ ((_, posO (rL4b w b1 b2 F (lv4 a wd pl pr sp lf) lf lfs nlf accs na z nz ⟨hh1, kk1, n1, N2, T2⟩)) :: _)) _ st3.p _
  rw [hp3]
  refine join_call gacc3 hacc ?_ ?_
  · rw [sum_app]
    have := kvLen_le hx
    show _ + _ * 0 ≤ _
    omega
  intro h4 T4 tt E4
  have gF4 := E4.keep _ _ gF3 (by kt_eqs)
  obtain ⟨N4, hN4⟩ := le_size gF4 (Nat.le_add_left _ _)
  refine back_done (X0 := XX w b1 b2 tb []) (X := XX w b1 b2 tb []) (own := [L+292]) hrun3 (lw4_c w b1 b2 F a wd pl pr sp lf lfs nlf accs na z nz ⟨hh1, kk1, n1, N2, T2⟩ ⟨hh3, kk3, n3, N4, T4⟩ _ tt) rfl rfl rfl trivial hN4 (glob_ext E4 (by kt_len) D3.glob) ⟨gF4, trivial⟩ ⟨trivial, trivial⟩ ⟨Nat.le_add_left _ _, trivial⟩ fun h5 T5 st5 hV5 D5 E5' hnQ => ?_
  obtain ⟨es5, n5, ow5, e5, hk5⟩ := shape_ok hV5
  have gF5 : h5.get? (L+292) = some (frameO es5 n5) := D5.at e5
  refine hnQ ?_
  exact K h5 T5 tt (((((E1'.trans E2).trans E3').trans E4).trans E5').drop (by kt_ors)) (glob_ext E5' (by kt_len) (glob_ext E4 (by kt_len) D3.glob)) (frame_of gF5 hk5)
end
end Mine

namespace Mine
noncomputable section
open PySem PySem.W PySem.W.X PySem.Calls PyProof.Rows
set_option maxHeartbeats 4000000
theorem posO_eq {o : Option St} {s : St} (h : o = some s) : posO o = s.p := by rw [h]; rfl
theorem st5 (w : World) (b1 b2 : Bool) (L a wd pl dd pr sp lf : Nat) (td : Str) (tt : Tok) (its : List Value) (n : Nat) (rs : List Value) (nr : Nat) (prs : List Value) (npr : Nat) (ps : List Value) (np : Nat) (hdh : Int) (kd ti : Tok) (nd : Nat) (f : Nat → M4) (g : Nat → Option Nat) (xs : List (Str × Str)) (T : Nat) (d : Drawn) (ox : OsState) (Q : Flow → Shared → Prop) (E : Value → Shared → Prop) (h : Heap)
    (hz : its.length ≤ 24) (hn : 0 < its.length) (G : Glob (XX w b1 b2 tb []) h) (fF : FrameIs h L (lv5 a wd pl pr sp lf (.str td tt))) (fw : h.get? (wd+292) = some (listO its n)) (fs : h.get? (sp+292) = some (listO rs nr)) (hws : wd ≠ sp) (hrs : All2 (SpotV h) rs ((List.range (its.length + 1)).map f))
    (hg0 : ∀ k, k < its.length → g k = none → ¬ size4 (f (k+1)) < size4 (f k)) (hg1 : ∀ k, k < its.length → ∀ M, g k = some M → size4 (f (k+1)) < size4 (f k) ∧ M ≤ k ∧ f M = f (k+1) ∧ ∀ i, i ≤ k → f i = f (k+1) → i ≤ M)
    (fpr : h.get? (pr+292) = some (listO prs npr)) (hprs : All2 (PieceV h) prs (gPairs g its.length)) (fpl : h.get? (pl+292) = some (pileO (dd+292) ps np)) (fdd : h.get? (dd+292) = some (dictO [⟨hdh, .str (nm "_initial_size") kd, .int 0 ti⟩] nd))
    (hps : All2 (PieceV h) ps xs) (hzp : ps.length ≤ 90) (hne : xs ≠ []) (hx : ∀ x ∈ xs, x.1.length + x.2.length ≤ 1000) (htd : td = Txt.join emp (xs.map fun x => x.1 ++ x.2)) (f215 : h.get? 215 = some cacheO) (f222 : h.get? 222 = some cacheO)
    (K : ∀ h' T' v1 v2, Ext [L+292, 215, 222] h h' → Glob (XX w b1 b2 tb []) h' → FrameIs h' L (lv5 a wd pl pr sp lf (.str td tt)) → h'.get? 215 = some (cachedO v1) → h'.get? 222 = some (cachedO v2) → Q .next ⟨h', ⟨gl2⟩, d, T', ox⟩) :
    WA (Md w b1 b2) (Gl w L) (smT w L 5) Q E ⟨h, ⟨[]⟩, d, T, ox⟩ := by
  obtain ⟨hh, kk, nL, gF⟩ := fF
  obtain ⟨N, hN⟩ := le_size fw (Nat.le_add_left _ _)
  refine WA.flow (execsF_eq _ _) (env := [⟨L+292, frameO (mkK hh kk 0 (lv5 a wd pl pr sp lf (.str td tt))) nL, true⟩]) (N := N) fun p => ?_
  let F : LwF := ⟨L, p, hh, kk, nL, N, T⟩
  refine means_of_cut (X := XX w b1 b2 tb []) (lw5_a w b1 b2 F a wd pl pr sp lf (.str td tt)) trivial (on_dif hN G ⟨gF, trivial⟩ ⟨trivial, trivial⟩ ⟨Nat.le_add_left _ _, trivial⟩) fun h1 T1 st1 hrun1 hV1 D1 E1 => ?_
  obtain ⟨es1, n1, ow1, e1, hk1⟩ := shape_ok hV1
  obtain ⟨hh1, kk1, rfl⟩ := mkK_of 0 hk1
  have E1' : Ext [L+292] h h1 := E1
  have gF1 : h1.get? (L+292) = some (frameO (mkK hh1 kk1 0 (lv5 a wd pl pr sp lf (.str td tt))) n1) := D1.at e1
  have F0 : FrameIs h L (lv5 a wd pl pr sp lf (.str td tt)) := ⟨hh, kk, nL, gF⟩
  have nt0 : ∀ c ∈ [L+292], ∀ vs, h.get? c ≠ some (tupO vs) := notupL (by ktr_rel)
  have gw1 := E1'.keepF F0 fw (by simp [kindOf, listO])
  have gs1 := E1'.keepF F0 fs (by simp [kindOf, listO])
  have gpr1 := E1'.keepF F0 fpr (by simp [kindOf, listO])
  have gpl1 := E1'.keepF F0 fpl (by simp [kindOf, pileO])
  have gdd1 := E1'.keepF F0 fdd (by simp [kindOf, dictO])
  have g2151 := E1'.keepF F0 f215 (by simp [kindOf, cacheO])
  have g2221 := E1'.keepF F0 f222 (by simp [kindOf, cacheO])
  have hps1 := pieces_ext E1' nt0 hps
  have hprs1 := pieces_ext E1' nt0 hprs
  refine pairs_call w b1 b2 L wd sp _ _ its rs n nr f g T1 d ox _ h1 hz hn D1.glob gw1 gs1 hws (spot_ext E1' nt0 hrs) hg0 hg1 ?_
  intro h2 T2 q qs nq E2 zq gq2 hqs
  have gF2 := E2.keep _ _ gF1 (by kt_eqs)
  have gpr2 := E2.keep _ _ gpr1 (by kt_eqs)
  have gpl2 := E2.keep _ _ gpl1 (by kt_eqs)
  have gdd2 := E2.keep _ _ gdd1 (by kt_eqs)
  have g2152 := E2.keep _ _ g2151 (by kt_eqs)
  have g2222 := E2.keep _ _ g2221 (by kt_eqs)
  have hps2 := pieces_ext E2 (by simp) hps1
  have hprs2 := pieces_ext E2 (by simp) hprs1
  have G2 := glob_ext E2 (by kt_len) D1.glob
  have hqpr : pr ≠ q := by
    have := Heap.lt_size gpr1
    intro e
    rw [e] at this
    exact Nat.lt_irrefl _ (Nat.lt_of_lt_of_le this zq)
  obtain ⟨N2, hN2⟩ := le_size gF2 (Nat.le_add_left _ _)
  refine back_cut (X0 := XX w b1 b2 tb []) (X := XX w b1 b2 tb []) (own := [L+292]) hrun1 (lw5_b w b1 b2 F a wd pl pr sp lf q (.str td tt) ⟨hh1, kk1, n1, N2, T2⟩ prs qs npr nq) rfl rfl rfl trivial hN2 G2 ⟨gF2, gpr2, gq2, trivial⟩ ?_ ?_ fun h3 T3 st3 hrun3 hV3 D3 E3' hnQ => ?_
  · ktd_rel
  · kt_len
  obtain ⟨es3, n3, ow3, e3, hk3⟩ := shape_ok hV3
  obtain ⟨hh3, kk3, rfl⟩ := mkK_of 0 hk3
  have F2 : FrameIs h2 L (lv5 a wd pl pr sp lf (.str td tt)) := ⟨_, _, _, gF2⟩
  have nt2 : ∀ c ∈ [L+292], ∀ vs, h2.get? c ≠ some (tupO vs) := notupL (by ktr_rel)
  have gF3 : h3.get? (L+292) = some (frameO (mkK hh3 kk3 0 (lv5 a wd pl pr sp lf (.str td tt))) n3) := D3.at e3
  have gpr3 := E3'.keepF F2 gpr2 (by simp [kindOf, listO])
  have gq3 := E3'.keepF F2 gq2 (by simp [kindOf, listO])
  have gpl3 := E3'.keepF F2 gpl2 (by simp [kindOf, pileO])
  have gdd3 := E3'.keepF F2 gdd2 (by simp [kindOf, dictO])
  have g2153 := E3'.keepF F2 g2152 (by simp [kindOf, cacheO])
  have g2223 := E3'.keepF F2 g2222 (by simp [kindOf, cacheO])
  have hps3 := pieces_ext E3' nt2 hps2
  have hprs3 := pieces_ext E3' nt2 hprs2
  have hqs3 := pieces_ext E3' nt2 hqs
  have hp3 : posO (rL5b w b1 b2 F (lv5 a wd pl pr sp lf (.str td tt)) q pr ⟨hh1, kk1, n1, N2, T2⟩ (listO prs npr) (listO qs nq)) = st3.p := posO_eq hrun3
  refine hnQ ?_
  show wpCode _ (ctxIn _ (belowLaw w _ (posO (rL5b w b1 b2 F (lv5 a wd pl pr sp lf (.str td tt)) q pr ⟨hh1, kk1, n1, N2, T2⟩ (listO prs npr) (listO qs nq))))) _ st3.p _
  rw [hp3]
  refine ne_pieces gpr3 gq3 hprs3 hqs3 ?_
  obtain ⟨N3, hN3⟩ := le_size gF3 (Nat.le_add_left _ _)
  refine back_cut (X0 := XX w b1 b2 tb []) (X := XX w b1 b2 tb []) (own := [L+292]) hrun3 (lw5_c w b1 b2 F a wd pl pr sp lf q dd (.str td tt) ⟨hh1, kk1, n1, N2, T2⟩ ⟨hh3, kk3, n3, N3, T3⟩ prs qs ps npr nq np) rfl rfl rfl trivial hN3 D3.glob ⟨gF3, gpl3, trivial⟩ ?_ ?_ fun h4 T4 st4 hrun4 hV4 D4 E4' hnQ => ?_
  · ktd_rel
  · kt_len
  obtain ⟨es4, n4, ow4, e4, hk4⟩ := shape_ok hV4
  obtain ⟨hh4, kk4, rfl⟩ := mkK_of 0 hk4
  have F3 : FrameIs h3 L (lv5 a wd pl pr sp lf (.str td tt)) := ⟨_, _, _, gF3⟩
  have nt3 : ∀ c ∈ [L+292], ∀ vs, h3.get? c ≠ some (tupO vs) := notupL (by ktr_rel)
  have gF4 : h4.get? (L+292) = some (frameO (mkK hh4 kk4 0 (lv5 a wd pl pr sp lf (.str td tt))) n4) := D4.at e4
  have gpl4 := E4'.keepF F3 gpl3 (by simp [kindOf, pileO])
  have gdd4 := E4'.keepF F3 gdd3 (by simp [kindOf, dictO])
  have g2154 := E4'.keepF F3 g2153 (by simp [kindOf, cacheO])
  have g2224 := E4'.keepF F3 g2223 (by simp [kindOf, cacheO])
  have hps4 := pieces_ext E4' nt3 hps3
  refine hnQ ?_
  refine str_call w b1 b2 L pl dd _ _ _ _ ps np T4 xs d ox _ h4 (by omega) hne hx D4.glob gpl4 g2224 hps4 ?_
  intro h5 T5 ts v2 E5 g2225
  have gF5 := E5.keep _ _ gF4 (by kt_eqs)
  have gpl5 := E5.keep _ _ gpl4 (by kt_eqs)
  have gdd5 := E5.keep _ _ gdd4 (by kt_eqs)
  have g2155 := E5.keep _ _ g2154 (by kt_eqs)
  have hps5 := pieces_ext E5 (by intro c hc vs; simp at hc; subst hc; rw [g2224]; simp [cacheO, tupO]) hps4
  have G5 : Glob (XX w b1 b2 tb []) h5 := E5.glob (X := XX w b1 b2 tb []) (fun c hc => .inr (by simp at hc; simp [hc, tb])) D4.glob
  obtain ⟨N5, hN5⟩ := le_size gF5 (Nat.le_add_left _ _)
  have hsd : Txt.join emp (xs.map fun x => joinKV x.1 x.2) = td := by rw [told_same, htd]
  rw [hsd]
  refine back_cut (X0 := XX w b1 b2 tb []) (X := XX w b1 b2 tb [hkVal "str.__ne__" [.str td ts, .str td tt] (.bool false)]) (own := [L+292]) hrun4 (lw5_d w b1 b2 F a wd pl pr sp lf q dd td td tt ts ⟨hh1, kk1, n1, N2, T2⟩ ⟨hh3, kk3, n3, N3, T3⟩ ⟨hh4, kk4, n4, N5, T5⟩ prs qs ps npr nq np) rfl rfl rfl ⟨ok_sne, trivial⟩ hN5 G5 ⟨gF5, gpl5, trivial⟩ ?_ ?_ fun h6 T6 st6 hrun6 hV6 D6 E6' hnQ => ?_
  · ktd_rel
  · kt_len
  obtain ⟨es6, n6, ow6, e6, hk6⟩ := shape_ok hV6
  obtain ⟨hh6, kk6, rfl⟩ := mkK_of 0 hk6
  have F5 : FrameIs h5 L (lv5 a wd pl pr sp lf (.str td tt)) := ⟨_, _, _, gF5⟩
  have nt5 : ∀ c ∈ [L+292], ∀ vs, h5.get? c ≠ some (tupO vs) := notupL (by ktr_rel)
  have gF6 : h6.get? (L+292) = some (frameO (mkK hh6 kk6 0 (lv5 a wd pl pr sp lf (.str td tt))) n6) := D6.at e6
  have gpl6 := E6'.keepF F5 gpl5 (by simp [kindOf, pileO])
  have gdd6 := E6'.keepF F5 gdd5 (by simp [kindOf, dictO])
  have g2156 := E6'.keepF F5 g2155 (by simp [kindOf, cacheO])
  have g2226 := E6'.keepF F5 g2225 (by simp [kindOf, cachedO])
  have hps6 := pieces_ext E6' nt5 hps5
  refine hnQ ?_
  refine len_pile w b1 b2 L pl dd _ _ ps np T6 hdh kd ti nd xs d ox _ h6 (by omega) hne hx D6.glob gpl6 gdd6 g2156 hps6 ?_
  intro h7 T7 tn v1 E7 g2157
  have gF7 := E7.keep _ _ gF6 (by kt_eqs)
  have g2227 := E7.keep _ _ g2226 (by kt_eqs)
  have G7 : Glob (XX w b1 b2 tb []) h7 := E7.glob (X := XX w b1 b2 tb []) (fun c hc => .inr (by simp at hc; simp [hc, tb])) D6.glob
  obtain ⟨N7, hN7⟩ := le_size gF7 (Nat.le_add_left _ _)
  have hlen : td.length = kvLen xs := by rw [htd]; exact told_len hne
  have hkl := kvLen_le hx
  have hxl := hps.length
  refine back_done (X0 := XX w b1 b2 tb []) (X := XX w b1 b2 tb [hkLenS td tt, hkVal "int.__ne__" [.int (kvLen xs : Nat) tn, .int td.length (T7+1)] (.bool false)]) (own := [L+292]) hrun6 (lw5_e w b1 b2 F a wd pl pr sp lf q dd td td tt ts tn (kvLen xs) ⟨hh1, kk1, n1, N2, T2⟩ ⟨hh3, kk3, n3, N3, T3⟩ ⟨hh4, kk4, n4, N5, T5⟩ ⟨hh6, kk6, n6, N7, T7⟩ prs qs ps npr nq np) rfl rfl rfl ⟨ok_lens (by rw [hlen]; omega), ok_ne (by rw [hlen]; simp), trivial⟩ hN7 G7 ⟨gF7, trivial⟩ ⟨trivial, trivial⟩ ⟨Nat.le_add_left _ _, trivial⟩ fun h8 T8 st8 hV8 D8 E8' hnQ => ?_
  obtain ⟨es8, n8, ow8, e8, hk8⟩ := shape_ok hV8
  have F7 : FrameIs h7 L (lv5 a wd pl pr sp lf (.str td tt)) := ⟨_, _, _, gF7⟩
  have gF8 : h8.get? (L+292) = some (frameO es8 n8) := D8.at e8
  refine hnQ ?_
  exact K h8 T8 v1 v2 ((((((((E1'.trans E2).trans E3').trans E4').trans E5).trans E6').trans E7).trans E8').drop (by kt_ors)) (glob_ext E8' (by kt_len) G7) (frame_of gF8 hk8) (E8'.keepF F7 g2157 (by simp [kindOf, cachedO])) (E8'.keepF F7 g2227 (by simp [kindOf, cachedO]))
end
end Mine

namespace Mine
noncomputable section
open PySem PySem.W PySem.W.X PySem.Calls PyProof.Rows
set_option maxHeartbeats 4000000
theorem st6 (w : World) (b1 b2 : Bool) (L a wd pl dd pr sp lf : Nat) (td : Value) (ps : List Value) (np : Nat) (hdh : Int) (kd ti : Tok) (nd : Nat) (T : Nat) (d : Drawn) (ox : OsState) (Q : Flow → Shared → Prop) (E : Value → Shared → Prop) (h : Heap)
    (hz : ps.length ≤ 900) (h0 : 0 < ps.length) (G : Glob (XX w b1 b2 tb []) h) (fF : FrameIs h L (lv5 a wd pl pr sp lf td)) (fpl : h.get? (pl+292) = some (pileO (dd+292) ps np)) (fdd : h.get? (dd+292) = some (dictO [⟨hdh, .str (nm "_initial_size") kd, .int 0 ti⟩] nd))
    (K : ∀ h' T' pc, Ext [L+292, pl+292] h h' → Glob (XX w b1 b2 tb []) h' → FrameIs h' L (lv7 a wd pl pr sp lf td pc) → h.objs.size ≤ pc + 292 → h'.get? (pc+292) = some (listO ps 0) → h'.get? (pl+292) = some (pileO (dd+292) [] (np+1)) → Q .next ⟨h', ⟨gl2⟩, d, T', ox⟩) :
    WA (Md w b1 b2) (Gl w L) (smT w L 6) Q E ⟨h, ⟨gl2⟩, d, T, ox⟩ := by
  obtain ⟨hh, kk, nL, gF⟩ := fF
  obtain ⟨N, hN⟩ := le_size fpl (Nat.le_add_left _ _)
  refine WA.flow (execsF_eq _ _) (env := [⟨L+292, frameO (mkK hh kk 0 (lv5 a wd pl pr sp lf td)) nL, true⟩, ⟨pl+292, pileO (dd+292) ps np, false⟩, ⟨dd+292, dictO [⟨hdh, .str (nm "_initial_size") kd, .int 0 ti⟩] nd, false⟩]) (N := N) fun p => ?_
  let F : LwF := ⟨L, p, hh, kk, nL, N, T⟩
  refine means_of_cut (X := XX w b1 b2 tb []) (lw6_a w b1 b2 F a wd pl pr sp lf dd td ps np hdh kd ti nd) trivial (on_dif hN G ⟨gF, fpl, fdd, trivial⟩ ?_ ?_) fun h1 T1 st1 hrun1 hV1 D1 E1 => ?_
  · ktd_rel
  · kt_len
  obtain ⟨es1, n1, ow1, e1, hk1⟩ := shape_ok hV1
  obtain ⟨hh1, kk1, rfl⟩ := mkK_of 0 hk1
  have E1' : Ext [L+292] h h1 := E1
  have gF1 : h1.get? (L+292) = some (frameO (mkK hh1 kk1 0 (lv5 a wd pl pr sp lf td)) n1) := D1.at e1
  have F0 : FrameIs h L (lv5 a wd pl pr sp lf td) := ⟨hh, kk, nL, gF⟩
  have gpl1 := E1'.keepF F0 fpl (by simp [kindOf, pileO])
  refine popf_call w b1 b2 L pl dd _ _ ps np T T1 d ox _ h1 hz h0 D1.glob gpl1 ?_
  intro h2 T2 pc E2 zpc gpc2 gpl2
  have hLp : L + 292 ≠ pl + 292 := ne_kind gF fpl (by simp [kindOf, frameO, pileO])
  have gF2 := E2.keep _ _ gF1 (by kt_eqs)
  have G2 := glob_ext E2 (by kt_len) D1.glob
  obtain ⟨N2, hN2⟩ := le_size gF2 (Nat.le_add_left _ _)
  refine back_done (X0 := XX w b1 b2 tb []) (X := XX w b1 b2 tb []) (own := [L+292]) hrun1 (lw6_b w b1 b2 F a wd pl pr sp lf dd pc td ps np hdh kd ti nd ⟨hh1, kk1, n1, N2, T2⟩) rfl rfl rfl trivial hN2 G2 ⟨gF2, trivial⟩ ⟨trivial, trivial⟩ ⟨Nat.le_add_left _ _, trivial⟩ fun h3 T3 st3 hV3 D3 E3' hnQ => ?_
  obtain ⟨es3, n3, ow3, e3, hk3⟩ := shape_ok hV3
  have F2 : FrameIs h2 L (lv5 a wd pl pr sp lf td) := ⟨_, _, _, gF2⟩
  have gF3 : h3.get? (L+292) = some (frameO es3 n3) := D3.at e3
  refine hnQ ?_
  exact K h3 T3 pc (((E1'.trans E2).trans E3').drop (by kt_ors)) (glob_ext E3' (by kt_len) G2) (frame_of gF3 hk3) (Nat.le_trans E1'.size zpc) (E3'.keepF F2 gpc2 (by simp [kindOf, listO])) (E3'.keepF F2 gpl2 (by simp [kindOf, pileO]))
theorem st7 (w : World) (b1 b2 : Bool) (L a wd pl dd pr sp lf pc : Nat) (td : Value) (v1 v2 : List Value) (m1 m2 np : Nat) (hdh : Int) (kd ti : Tok) (nd : Nat) (xs : List (Str × Str)) (T : Nat) (d : Drawn) (ox : OsState) (Q : Flow → Shared → Prop) (E : Value → Shared → Prop) (h : Heap)
    (G : Glob (XX w b1 b2 tb []) h) (fF : FrameIs h L (lv7 a wd pl pr sp lf td pc)) (fpc : h.get? (pc+292) = some (listO v1 m1)) (flf : h.get? (lf+292) = some (listO v2 m2)) (hne : pc ≠ lf) (hp1 : All2 (PieceV h) v1 xs) (hp2 : All2 (PieceV h) v2 xs)
    (fpl : h.get? (pl+292) = some (pileO (dd+292) [] np)) (fdd : h.get? (dd+292) = some (dictO [⟨hdh, .str (nm "_initial_size") kd, .int 0 ti⟩] nd))
    (K : ∀ h' T', Ext [L+292] h h' → Glob (XX w b1 b2 tb []) h' → FrameIs h' L (lv7 a wd pl pr sp lf td pc) → Q .next ⟨h', ⟨gl2⟩, d, T', ox⟩) :
    WA (Md w b1 b2) (Gl w L) (smT w L 7) Q E ⟨h, ⟨gl2⟩, d, T, ox⟩ := by
  obtain ⟨hh, kk, nL, gF⟩ := fF
  obtain ⟨N, hN⟩ := le_size fpc (Nat.le_add_left _ _)
  refine WA.flow (execsF_eq _ _) (env := [⟨L+292, frameO (mkK hh kk 0 (lv7 a wd pl pr sp lf td pc)) nL, true⟩, ⟨pc+292, listO v1 m1, false⟩, ⟨lf+292, listO v2 m2, false⟩]) (N := N) fun p => ?_
  let F : LwF := ⟨L, p, hh, kk, nL, N, T⟩
  refine means_of_cut (X := XX w b1 b2 tb []) (lw7_a w b1 b2 F a wd pl pr sp lf pc td v1 v2 m1 m2) trivial (on_dif hN G ⟨gF, fpc, flf, trivial⟩ ?_ ?_) fun h1 T1 st1 hrun1 hV1 D1 E1 => ?_
  · ktd_rel
  · kt_len
  obtain ⟨es1, n1, ow1, e1, hk1⟩ := shape_ok hV1
  obtain ⟨hh1, kk1, rfl⟩ := mkK_of 0 hk1
  have E1' : Ext [L+292] h h1 := E1
  have gF1 : h1.get? (L+292) = some (frameO (mkK hh1 kk1 0 (lv7 a wd pl pr sp lf td pc)) n1) := D1.at e1
  have F0 : FrameIs h L (lv7 a wd pl pr sp lf td pc) := ⟨hh, kk, nL, gF⟩
  have nt0 : ∀ c ∈ [L+292], ∀ vs, h.get? c ≠ some (tupO vs) := notupL (by ktr_rel)
  have gpc1 := E1'.keepF F0 fpc (by simp [kindOf, listO])
  have glf1 := E1'.keepF F0 flf (by simp [kindOf, listO])
  have gpl1 := E1'.keepF F0 fpl (by simp [kindOf, pileO])
  have gdd1 := E1'.keepF F0 fdd (by simp [kindOf, dictO])
  have hpp : posO (rL7 w b1 b2 F (lv7 a wd pl pr sp lf td pc) pc lf v1 v2 m1 m2) = st1.p := posO_eq hrun1
  show wpCode _ (ctxIn _ (belowLaw w _ (posO (rL7 w b1 b2 F (lv7 a wd pl pr sp lf td pc) pc lf v1 v2 m1 m2)))) _ st1.p _
  rw [hpp]
  refine ne_pieces gpc1 glf1 (pieces_ext E1' nt0 hp1) (pieces_ext E1' nt0 hp2) ?_
  obtain ⟨N1, hN1⟩ := le_size gF1 (Nat.le_add_left _ _)
  refine back_cut (X0 := XX w b1 b2 tb []) (X := XX w b1 b2 tb []) (own := [L+292]) hrun1 (lw7_b w b1 b2 F a wd pl pr sp lf pc dd td v1 v2 m1 m2 np ⟨hh1, kk1, n1, N1, T1⟩ hdh kd ti nd) rfl rfl rfl trivial hN1 D1.glob ⟨gF1, gpl1, gdd1, trivial⟩ ?_ ?_ fun h2 T2 st2 hrun2 hV2 D2 E2' hnQ => ?_
  · ktd_rel
  · kt_len
  obtain ⟨es2, n2, ow2, e2, hk2⟩ := shape_ok hV2
  obtain ⟨hh2, kk2, rfl⟩ := mkK_of 0 hk2
  have F1 : FrameIs h1 L (lv7 a wd pl pr sp lf td pc) := ⟨_, _, _, gF1⟩
  have gF2 : h2.get? (L+292) = some (frameO (mkK hh2 kk2 0 (lv7 a wd pl pr sp lf td pc)) n2) := D2.at e2
  have gpl2 := E2'.keepF F1 gpl1 (by simp [kindOf, pileO])
  refine hnQ ?_
  refine count_call w b1 b2 _ (count_law w b1 b2 L _) pl (dd+292) _ [] np T2 d ox _ h2 D2.glob gpl2 ?_
  intro h3 T3 t0 E3
  have gF3 := E3.keep _ _ gF2 (by kt_eqs)
  have G3 := glob_ext E3 (by kt_len) D2.glob
  obtain ⟨N3, hN3⟩ := le_size gF3 (Nat.le_add_left _ _)
  refine back_done (X0 := XX w b1 b2 tb []) (X := XX w b1 b2 tb [hkVal "int.__ne__" [.int 0 t0, .int 0 T3] (.bool false)]) (own := [L+292]) hrun2 (lw7_c w b1 b2 F a wd pl pr sp lf pc dd td v1 v2 m1 m2 np ⟨hh1, kk1, n1, N1, T1⟩ ⟨hh2, kk2, n2, N3, T3⟩ hdh kd ti t0 nd) rfl rfl rfl ⟨ok_ne (by simp), trivial⟩ hN3 G3 ⟨gF3, trivial⟩ ⟨trivial, trivial⟩ ⟨Nat.le_add_left _ _, trivial⟩ fun h4 T4 st4 hV4 D4 E4' hnQ => ?_
  obtain ⟨es4, n4, ow4, e4, hk4⟩ := shape_ok hV4
  have gF4 : h4.get? (L+292) = some (frameO es4 n4) := D4.at e4
  refine hnQ ?_
  exact K h4 T4 ((((E1'.trans E2').trans E3).trans E4').drop (by kt_ors)) (glob_ext E4' (by kt_len) G3) (frame_of gF4 hk4)
theorem st8 (w : World) (b1 b2 : Bool) (L a wd pl pr sp lf pc : Nat) (td : Value) (rs : List Value) (nr : Nat) (xs : List (Str × Str)) (T : Nat) (d : Drawn) (ox : OsState) (Q : Flow → Shared → Prop) (E : Value → Shared → Prop) (h : Heap)
    (hz : rs.length ≤ 900) (h0 : 0 < rs.length) (hx : ∀ x ∈ xs, PieceOk x) (G : Glob (XX w b1 b2 tb []) h) (fF : FrameIs h L (lv7 a wd pl pr sp lf td pc)) (fpc : h.get? (pc+292) = some (listO rs nr)) (hp1 : All2 (PieceV h) rs xs)
    (K : ∀ h' T' tbl dt hl accs na hh kh nd, Ext [L+292] h h' → Glob (XX w b1 b2 tb []) h' → FrameIs h' L (lv9 a wd pl pr sp lf td pc tbl) → h'.get? (tbl+292) = some (hdrO (dt+292)) → h'.get? (dt+292) = some (dictO [⟨hh, .str (nm "_headers") kh, .ref (hl+292)⟩] nd) → h'.get? (hl+292) = some (listO accs na) → All2 (PieceV h') accs xs → Q .next ⟨h', ⟨gl2⟩, d, T', ox⟩) :
    WA (Md w b1 b2) (Gl w L) (smT w L 8) Q E ⟨h, ⟨gl2⟩, d, T, ox⟩ := by
  obtain ⟨hh, kk, nL, gF⟩ := fF
  obtain ⟨N, hN⟩ := le_size fpc (Nat.le_add_left _ _)
  have lpc := lt_of_get fpc hN
  have lL := lt_of_get gF hN
  refine WA.flow (execsF_eq _ _) (env := [⟨L+292, frameO (mkK hh kk 0 (lv7 a wd pl pr sp lf td pc)) nL, true⟩, ⟨pc+292, listO rs nr, false⟩]) (N := N) fun p => ?_
  let F : LwF := ⟨L, p, hh, kk, nL, N, T⟩
  refine means_of_cut (X := XX w b1 b2 tb []) (lw8_a w b1 b2 F a wd pl pr sp lf pc td rs nr) trivial (on_dif hN G ⟨gF, fpc, trivial⟩ ?_ ?_) fun h1 T1 st1 hrun1 hV1 D1 E1 => ?_
  · ktd_rel
  · kt_len
  obtain ⟨u0, u1, u2, u3⟩ := pr4 hV1
  obtain ⟨es1, n1, ow1, e1, hk1⟩ := shape_ok u3
  obtain ⟨hh1, kk1, rfl⟩ := mkK_of 0 hk1
  have E1' : Ext [L+292] h h1 := E1
  have gF1 : h1.get? (L+292) = some (frameO (mkK hh1 kk1 0 (lv7 a wd pl pr sp lf td pc)) n1) := D1.at e1
  have F0 : FrameIs h L (lv7 a wd pl pr sp lf td pc) := ⟨hh, kk, nL, gF⟩
  have nt0 : ∀ c ∈ [L+292], ∀ vs, h.get? c ≠ some (tupO vs) := notupL (by ktr_rel)
  have gLc : h1.get? (N+294) = some (dictO [] 0) := D1.at u0
  have gacc : h1.get? (N+293) = some (listO [] 0) := D1.at u1
  have git : h1.get? (N+292) = some (iterO (pc+292) 0) := D1.at u2
  have gpc1 := E1'.keepF F0 fpc (by simp [kindOf, listO])
  refine pi_comp w b1 b2 L N (N+1) (N+2) pc _ _ rs nr xs T1 d ox _ h1 hz h0 D1.glob git gacc gLc gpc1 (by omega) (pieces_ext E1' nt0 hp1) ?_
  intro h2 T2 accs na z nz E2 gacc2 gLc2 hacc
  have gF2 := E2.keep _ _ gF1 (by kt_eqs)
  obtain ⟨N2, hN2⟩ := le_size gF2 (Nat.le_add_left _ _)
  have hNN : N + 3 ≤ N2 := by have := lt_of_get (a := N+2) gLc2 hN2; omega
  have G2 := glob_ext E2 (by kt_len) D1.glob
  refine back_cut (X0 := XX w b1 b2 tb []) (X := XX w b1 b2 tb []) (own := [N+293, N+294, L+292]) hrun1 (lw8_b w b1 b2 F a wd pl pr sp lf pc td rs nr accs na z nz ⟨hh1, kk1, n1, N2, T2⟩) rfl rfl rfl trivial hN2 G2 ⟨gacc2, gLc2, gF2, trivial⟩ ?_ ?_ fun h3 T3 st3 hrun3 hV3 D3 E3' hnQ => ?_
  · ktd_rel
  · kt_len
  obtain ⟨v0, v1, v2, v4⟩ := pr4 hV3
  obtain ⟨es3, n3, ow3, e3, hk3⟩ := shape_ok v4
  obtain ⟨hh3, kk3, rfl⟩ := mkK_of 0 hk3
  have ghd3 : h3.get? (N2+293) = some (hdrO (N2+292)) := D3.at v0
  have gdd3 : h3.get? (N2+292) = some (dictO [] 0) := D3.at v1
  have gacc3 : h3.get? (N+293) = some (listO accs na) := D3.at v2
  have gF3 : h3.get? (L+292) = some (frameO (mkK hh3 kk3 0 (lv7 a wd pl pr sp lf td pc)) n3) := D3.at e3
  have nt2 : ∀ c ∈ [N+293, N+294, L+292], ∀ vs, h2.get? c ≠ some (tupO vs) := notupL (by ktr_rel)
  have hacc3 := pieces_ext E3' nt2 hacc
  have hlen := hacc3.length
  have hlen' := hp1.length
  refine hnQ ?_
  refine hi_call w b1 b2 _ (hi_law w b1 b2 L _) (N2+1) N2 (N+1) _ _ accs na 0 T3 xs d ox _ h3 hx (by omega) D3.glob ghd3 gdd3 gacc3 hacc3 ?_
  intro h4 T4 hq kq nq E4 ghd4 gdd4
  have gF4 := E4.keep _ _ gF3 (by kt_eqs)
  have gacc4 := E4.keep _ _ gacc3 (by kt_eqs)
  have nt3 : ∀ c ∈ [N2+1+292, N2+292], ∀ vs, h3.get? c ≠ some (tupO vs) := notupL (by ktr_rel)
  have hacc4 := pieces_ext E4 nt3 hacc3
  have G4 := glob_ext E4 (by kt_len) D3.glob
  obtain ⟨N4, hN4⟩ := le_size gF4 (Nat.le_add_left _ _)
  refine back_done (X0 := XX w b1 b2 tb []) (X := XX w b1 b2 tb []) (own := [L+292]) hrun3 (lw8_c w b1 b2 F a wd pl pr sp lf pc td rs nr accs na z nz ⟨hh1, kk1, n1, N2, T2⟩ ⟨hh3, kk3, n3, N4, T4⟩) rfl rfl rfl trivial hN4 G4 ⟨gF4, trivial⟩ ⟨trivial, trivial⟩ ⟨Nat.le_add_left _ _, trivial⟩ fun h5 T5 st5 hV5 D5 E5' hnQ => ?_
  obtain ⟨es5, n5, ow5, e5, hk5⟩ := shape_ok hV5
  have F4 : FrameIs h4 L (lv7 a wd pl pr sp lf td pc) := ⟨_, _, _, gF4⟩
  have nt4 : ∀ c ∈ [L+292], ∀ vs, h4.get? c ≠ some (tupO vs) := notupL (by ktr_rel)
  have gF5 : h5.get? (L+292) = some (frameO es5 n5) := D5.at e5
  refine hnQ ?_
  exact K h5 T5 (N2+1) N2 (N+1) accs na hq kq nq (((((E1'.trans E2).trans E3').trans E4).trans E5').drop (by kt_ors)) (glob_ext E5' (by kt_len) G4) (frame_of gF5 hk5) (E5'.keepF F4 ghd4 (by simp [kindOf, hdrO])) (E5'.keepF F4 gdd4 (by simp [kindOf, dictO])) (E5'.keepF F4 gacc4 (by simp [kindOf, listO])) (pieces_ext E5' nt4 hacc4)
end
end Mine

namespace Mine
noncomputable section
open PySem PySem.W PySem.W.X PySem.Calls PyProof.Rows
set_option maxHeartbeats 4000000
theorem sel_same (c : Bool) {x : Str × Str} (hx : NameS x.1) : selG (nmL c) x = selL c x := by
  obtain ⟨x1, x2⟩ := x
  have hx' : NameS x1 := hx
  unfold selG selL
  cases c <;> rcases hx' with rfl | rfl | rfl | rfl | rfl <;> rfl
theorem sel_all (c : Bool) {xs : List (Str × Str)} (hx : ∀ x ∈ xs, NameS x.1) : xs.filterMap (selG (nmL c)) = xs.filterMap (selL c) := by
  induction xs with
  | nil => rfl
  | cons x xs ih => rw [List.filterMap_cons, List.filterMap_cons, sel_same c (hx x (.head _)), ih fun y hy => hx y (.tail _ hy)]
theorem nmL_name (c : Bool) : NameS (nmL c) := by
  cases c
  · exact .inr (.inl rfl)
  · exact .inr (.inr (.inr (.inr rfl)))
theorem st9 (w : World) (b1 b2 c : Bool) (L a wd pl pr sp lf pc tbl dd hl : Nat) (td : Value) (hq : Int) (kq : Tok) (nq : Nat) (its : List Value) (n : Nat) (rs : List Value) (nr : Nat) (xs : List (Str × Str)) (T : Nat) (d : Drawn) (ox : OsState) (Q : Flow → Shared → Prop) (E : Value → Shared → Prop) (h : Heap)
    (hz : its.length ≤ 900) (h0 : 0 < its.length) (hx : ∀ x ∈ xs, NameS x.1) (G : Glob (XX w b1 b2 tb []) h) (fF : FrameIs h L (lv9 a wd pl pr sp lf td pc tbl)) (ft : h.get? (tbl+292) = some (hdrO (dd+292))) (fd : h.get? (dd+292) = some (dictO [⟨hq, .str (nm "_headers") kq, .ref (hl+292)⟩] nq)) (fhl : h.get? (hl+292) = some (listO its n)) (hp1 : All2 (PieceV h) its xs)
    (flf : h.get? (lf+292) = some (listO rs nr)) (hp2 : All2 (PieceV h) rs xs)
    (K : ∀ h' T', Ext [L+292] h h' → Glob (XX w b1 b2 tb []) h' → FrameIs h' L (lv9 a wd pl pr sp lf td pc tbl) → Q (endL c) ⟨h', ⟨gl2⟩, d, T', ox⟩) :
    WA (Md w b1 b2) (Gl w L) (smT w L (jL c)) Q E ⟨h, ⟨gl2⟩, d, T, ox⟩ := by
  obtain ⟨hh, kk, nL, gF⟩ := fF
  obtain ⟨N, hN⟩ := le_size flf (Nat.le_add_left _ _)
  have lL := lt_of_get gF hN
  refine WA.flow (execsF_eq _ _) (env := [⟨L+292, frameO (mkK hh kk 0 (lv9 a wd pl pr sp lf td pc tbl)) nL, true⟩, ⟨tbl+292, hdrO (dd+292), false⟩, ⟨dd+292, dictO [⟨hq, .str (nm "_headers") kq, .ref (hl+292)⟩] nq, false⟩]) (N := N) fun p => ?_
  let F : LwF := ⟨L, p, hh, kk, nL, N, T⟩
  refine means_of_cut (X := XX w b1 b2 tb []) (lw9_a w b1 b2 c F a wd pl pr sp lf pc tbl dd hl td hq kq nq) trivial (on_dif hN G ⟨gF, ft, fd, trivial⟩ ?_ ?_) fun h1 T1 st1 hrun1 hV1 D1 E1 => ?_
  · ktd_rel
  · kt_len
  obtain ⟨es1, n1, ow1, e1, hk1⟩ := shape_ok hV1
  obtain ⟨hh1, kk1, rfl⟩ := mkK_of 0 hk1
  have E1' : Ext [L+292] h h1 := E1
  have gF1 : h1.get? (L+292) = some (frameO (mkK hh1 kk1 0 (lv9 a wd pl pr sp lf td pc tbl)) n1) := D1.at e1
  have F0 : FrameIs h L (lv9 a wd pl pr sp lf td pc tbl) := ⟨hh, kk, nL, gF⟩
  have nt0 : ∀ c ∈ [L+292], ∀ vs, h.get? c ≠ some (tupO vs) := notupL (by ktr_rel)
  have gt1 := E1'.keepF F0 ft (by simp [kindOf, hdrO])
  have gd1 := E1'.keepF F0 fd (by simp [kindOf, dictO])
  have ghl1 := E1'.keepF F0 fhl (by simp [kindOf, listO])
  have glf1 := E1'.keepF F0 flf (by simp [kindOf, listO])
  refine geta_call w b1 b2 L tbl dd hl _ _ (nmL c) T hq kq nq its n T1 xs d ox _ h1 (nmL_name c) hx hz h0 D1.glob gt1 gd1 ghl1 (pieces_ext E1' nt0 hp1) ?_
  intro h2 T2 ga gas nga E2 zga gga2 hgas
  have gF2 := E2.keep _ _ gF1 (by kt_eqs)
  have glf2 := E2.keep _ _ glf1 (by kt_eqs)
  have hp22 := pieces_ext E2 (by simp) (pieces_ext E1' nt0 hp2)
  have G2 := glob_ext E2 (by kt_len) D1.glob
  obtain ⟨N2, hN2⟩ := le_size gF2 (Nat.le_add_left _ _)
  have llf := lt_of_get glf2 hN2
  have lga := lt_of_get gga2 hN2
  have lL2 := lt_of_get gF2 hN2
  refine back_cut (X0 := XX w b1 b2 tb []) (X := XX w b1 b2 tb []) (own := [L+292]) hrun1 (lw9_b w b1 b2 c F a wd pl pr sp lf pc tbl dd hl ga td hq kq nq ⟨hh1, kk1, n1, N2, T2⟩ rs nr) rfl rfl rfl trivial hN2 G2 ⟨gF2, glf2, trivial⟩ ?_ ?_ fun h3 T3 st3 hrun3 hV3 D3 E3' hnQ => ?_
  · ktd_rel
  · kt_len
  obtain ⟨u0, u1, u2, u3⟩ := pr4 hV3
  obtain ⟨es3, n3, ow3, e3, hk3⟩ := shape_ok u3
  have F2 : FrameIs h2 L (lv9 a wd pl pr sp lf td pc tbl) := ⟨_, _, _, gF2⟩
  have nt2 : ∀ c ∈ [L+292], ∀ vs, h2.get? c ≠ some (tupO vs) := notupL (by ktr_rel)
  have gLc : h3.get? (N2+294) = some (dictO [] 0) := D3.at u0
  have gacc : h3.get? (N2+293) = some (listO [] 0) := D3.at u1
  have git : h3.get? (N2+292) = some (iterO (lf+292) 0) := D3.at u2
  have gF3 : h3.get? (L+292) = some (frameO es3 n3) := D3.at e3
  have glf3 := E3'.keepF F2 glf2 (by simp [kindOf, listO])
  have gga3 := E3'.keepF F2 gga2 (by simp [kindOf, listO])
  have hlen1 := hp1.length
  have hlen2 := hp2.length
  refine hnQ ?_
  refine lt_comp w b1 b2 c L N2 (N2+1) (N2+2) lf _ _ rs nr xs T3 d ox _ h3 (by omega) (by omega) D3.glob git gacc gLc glf3 (by omega) (pieces_ext E3' nt2 hp22) ?_
  intro h4 T4 accs na z nz E4 gacc4 gLc4 hacc
  have gF4 := E4.keep _ _ gF3 (by kt_eqs)
  have gga4 := E4.keep _ _ gga3 (by kt_eqs)
  have G4 := glob_ext E4 (by kt_len) D3.glob
  obtain ⟨N4, hN4⟩ := le_size gF4 (Nat.le_add_left _ _)
  refine back_cut (X0 := XX w b1 b2 tb []) (X := XX w b1 b2 tb []) (own := [N2+293, N2+294]) hrun3 (lw9_c w b1 b2 c F a wd pl pr sp lf pc tbl dd hl ga td hq kq nq ⟨hh1, kk1, n1, N2, T2⟩ rs nr accs na z nz gas nga N4 T4) rfl rfl rfl trivial hN4 G4 ⟨gacc4, gLc4, gga4, trivial⟩ ?_ ?_ fun h5 T5 st5 hrun5 hV5 D5 E5' hnQ => ?_
  · ktd_rel
  · kt_len
  have gacc5 : h5.get? (N2+293) = some (listO accs na) := D5.at hV5
  have gF5 := E5'.keep _ _ gF4 (by kt_eqs)
  have gga5 := E5'.keep _ _ gga4 (by kt_eqs)
  obtain ⟨N5, hN5⟩ := le_size gF5 (Nat.le_add_left _ _)
  rw [sel_all c hx] at hgas
  have hpp : posO (rL9c w b1 b2 c F (lv9 a wd pl pr sp lf td pc tbl) tbl dd hl hq kq nq ga ⟨hh1, kk1, n1, N2, T2⟩ lf rs nr accs na z nz gas nga N4 T4) = st5.p := posO_eq hrun5
  have fin : MeansK (model (XX w b1 b2 tb []).prog (XX w b1 b2 tb []).w) (PostR fun r s' => match r with | .ok f => Q f s' | .error e => E e s') st5.κ st5.Γ st5.p (kOf st5.t (.ok (.ret (.bool c)))) ⟨h5, ⟨gl2⟩, d, T5, ox⟩ := by
    refine back_done (X0 := XX w b1 b2 tb []) (X := XX w b1 b2 tb []) (own := []) hrun5 (lw9_d w b1 b2 c F a wd pl pr sp lf pc tbl dd hl ga td hq kq nq ⟨hh1, kk1, n1, N2, T2⟩ rs nr accs na z nz gas nga N4 T4 N5 T5) rfl rfl rfl trivial hN5 D5.glob trivial trivial trivial fun h6 T6 st6 hV6 D6 E6' hnQ => ?_
    refine hnQ ?_
    exact K h6 T6 ((((((E1'.trans E2).trans E3').trans E4).trans E5').trans E6').drop (by have hNN := le_NN hN hN2 (Nat.le_trans E1'.size E2.size); repeat' first | exact fa_nil | refine fa_app ?_ ?_ | refine fa_cons (Or.inl (by k_mem)) ?_ | refine fa_cons (Or.inr (nw0 hN rfl)) ?_ | refine fa_cons (Or.inr (nw1 hN hNN rfl)) ?_ | refine fa_cons (Or.inr (nw2 hN hNN rfl)) ?_)) (glob_ext E6' (by kt_len) D5.glob) (frame_of (E6'.keep _ _ gF5 (by kt_eqs)) hk3)
  refine hnQ ?_
  show wpCode _ (ctxIn _ (belowLaw w _ (posO (rL9c w b1 b2 c F (lv9 a wd pl pr sp lf td pc tbl) tbl dd hl hq kq nq ga ⟨hh1, kk1, n1, N2, T2⟩ lf rs nr accs na z nz gas nga N4 T4)))) _ st5.p _
  rw [hpp]
  cases c with
  | false => exact ne_strs gga5 gacc5 hgas hacc fin
  | true => exact eq_strs gga5 gacc5 hgas hacc fin
end
end Mine

namespace Mine
noncomputable section
open PySem PySem.W PySem.W.X PySem.Calls PyProof.Rows
set_option maxHeartbeats 4000000
theorem law_in (w : World) (b1 b2 : Bool) (a : Nat) (p : Pos) (its : List Value) (n N T : Nat) : let o := run (XX w b1 b2 tb []) [0, 0, 1, 1, 0] (begin (ctxIn (.call (.ref 291) ⟨[.ref (a+292)], []⟩) below0) p [⟨a+292, listO its n, false⟩] [] N T)
    seen (fun env => shape (nth env 0)) o = some (toldA o, toldC o, toldO o, .again (fcode w 291 (N + 292)), ctxIn (fcode w 291 (N + 292)) below0, some (N + 292, some (.type "frame", none, #[], kvL (lv0 a))), [], toldM o, toldI o, true) := by
  cases b1 <;> kernel_rfl
theorem body_eq (w : World) : bodyOf w 291 = [stmtAt w 291 0, stmtAt w 291 1, stmtAt w 291 2, stmtAt w 291 3, stmtAt w 291 4, stmtAt w 291 5, stmtAt w 291 6, stmtAt w 291 7, stmtAt w 291 8, stmtAt w 291 9, stmtAt w 291 10] := by kernel_rfl
theorem Ext.carry {L b : Nat} {own : List Addr} {l : List (Str × Value)} {h h' : Heap} {o : Obj} (E : Ext ((L+292) :: own) h h') (fF : FrameIs h L l) (hb : h.get? b = some o) (hk : kindOf o ≠ "frame") (hn : ∀ c : Nat, c ∈ own → c ≠ b) : h'.get? b = some o := by
  obtain ⟨hh, kk, nL, fF⟩ := fF
  refine E.keep _ _ hb fun hc => ?_
  rcases List.mem_cons.mp hc with e | hc
  · rw [e, fF] at hb
    cases hb
    exact hk rfl
  · exact hn _ hc rfl
theorem signs_len : ∀ {l l' : List Value}, Signs l l' → l'.length = l.length
  | _, _, .nil => rfl
  | _, _, .cons _ _ _ _ _ _ h => by rw [List.length_cons, List.length_cons, signs_len h]
theorem all_sg : ∀ {its : List Value} {ws : List Nat}, All2 SignV its ws → AllSg ws
  | [], [], _, x, hx => nomatch hx
  | _ :: _, _ :: _, q, x, hx => by
    rcases List.mem_cons.mp hx with rfl | hx
    · obtain ⟨_, _, h⟩ := q.1; exact h
    · exact all_sg q.2 x hx
  | [], _ :: _, q, _, _ => q.elim
  | _ :: _, [], q, _, _ => q.elim
theorem digs_len (j : Nat) : (digs j).length ≤ 2 := by
  unfold digs
  split <;> simp [PySem.Str.length]
theorem piece_len {x : Str × Str} (h : PieceOk x) : x.1.length + x.2.length ≤ 1000 := by
  obtain ⟨h1, h2⟩ := h
  have e1 : x.1.length ≤ 1 := by rcases h1 with e | e | e | e | e <;> rw [e] <;> simp [emp, chr1, PySem.Str.length]
  have e2 : x.2.length ≤ 2 := by
    rcases h2 with e | ⟨j, _, e⟩
    · rw [e]; simp [emp, PySem.Str.length]
    · rw [e]; exact digs_len j
  omega
end
end Mine

namespace Mine
noncomputable section
open PySem PySem.W PySem.W.X PySem.Calls PyProof.Rows
set_option maxHeartbeats 4000000
theorem not_dup {h : Heap} {a b : Nat} {o : Obj} (f : h.get? (a+292) = some o) (z : h.objs.size ≤ b + 292) : a ≠ b := by
  intro e
  have := Heap.lt_size f
  rw [e] at this
  exact Nat.lt_irrefl _ (Nat.lt_of_lt_of_le this z)
theorem law_call (w : World) (b1 b2 : Bool) (a : Nat) (p : Pos) (its : List Value) (n T : Nat) (d : Drawn) (ox : OsState) (R : Result → Shared → Prop) (h : Heap)
    (hz : its.length ≤ 63) (hint : AreInts its) (G : Glob (XX w b1 b2 tb []) h) (fa : h.get? (a+292) = some (listO its n)) (f215 : h.get? 215 = some cacheO) (f222 : h.get? 222 = some cacheO)
    (K : ∀ h' T' v1 v2, Ext [215, 222] h h' → h'.get? 215 = some (cachedO v1) → h'.get? 222 = some (cachedO v2) → R (.ok (.ret (.bool true))) ⟨h', ⟨gl2⟩, d, T', ox⟩) :
    wpCode (model PySem.Challenge.pw_pe0217_01 (setW w b1 b2)) (ctxIn (.call (.ref 291) ⟨[.ref (a+292)], []⟩) below0) R p ⟨h, ⟨[]⟩, d, T, ox⟩ := by
  obtain ⟨N, hN⟩ := le_size fa (Nat.le_add_left _ _)
  refine code_loop (X0 := XX w b1 b2 tb []) (X := XX w b1 b2 tb []) (N := N) (own := []) (law_in w b1 b2 a p its n N T) rfl rfl rfl trivial hN G ⟨fa, trivial⟩ ⟨trivial, trivial⟩ ⟨Nat.le_add_left _ _, trivial⟩ (by kernel_rfl) fun h1 T1 p1 st1' hV1 D1 E1' hnQ => ?_
  obtain ⟨es1, n1, ow1, e1, hk1⟩ := shape_ok hV1
  have gF1 : h1.get? (N+292) = some (frameO es1 n1) := D1.at e1
  have F1 : FrameIs h1 N (lv0 a) := frame_of gF1 hk1
  have ga1 := E1'.keep _ _ fa (by kt_eqs)
  have gA1 := E1'.keep _ _ f215 (by kt_eqs)
  have gB1 := E1'.keep _ _ f222 (by kt_eqs)
  refine hnQ ?_
  refine code_of_body ?_
  show WA _ (Gl w N) (execs (bodyOf w 291) (cenv w 291 (N + 292))) _ _ _
  rw [body_eq]
  refine WA.execs_cons (st0 w b1 b2 N a its n T1 d ox _ _ h1 hz hint D1.glob F1 ga1 ?_)
  intro h2 T2 wd t ws E2 G2 z2 F2 gw2 hsg
  have gA2 := E2.carry F1 gA1 (by simp [kindOf, cacheO]) (by simp)
  have gB2 := E2.carry F1 gB1 (by simp [kindOf, cacheO]) (by simp)
  obtain ⟨rs0, hrs0⟩ := hsg.all2
  have hw : All2 SignV (four t ++ ws) ([1, 0, 2, 2] ++ rs0) := (four_all2 t).app hrs0
  obtain ⟨W, eW⟩ : ∃ W, four t ++ ws = W := ⟨_, rfl⟩
  obtain ⟨wl, ewl⟩ : ∃ wl : List Nat, [1, 0, 2, 2] ++ rs0 = wl := ⟨_, rfl⟩
  have hWl : W.length ≤ 24 := by
    rw [← eW, List.length_append, signs_len hsg, List.length_take]
    show 4 + _ ≤ 24
    omega
  have hW0 : 0 < W.length := by
    rw [← eW, List.length_append]
    show 0 < 4 + _
    omega
  rw [eW] at gw2 hw
  rw [ewl] at hw
  have hlw : W.length = wl.length := hw.length
  have hs : AllSg wl := all_sg hw
  obtain ⟨pl1, pl2⟩ := law_plain hs (by omega)
  have hnames := signs_name hw
  obtain ⟨ok1, ok2, ok3⟩ := runS_ok hnames wl.length (by rw [List.length_map]; omega) (by omega)
  rw [pl1] at ok1 ok2
  obtain ⟨xs, exs⟩ : ∃ xs, (emp, emp) :: leftGo (fun i => lastF (fOf wl) i wl.length) wl (wl.length + 1) 0 = xs := ⟨_, rfl⟩
  have hne : xs ≠ [] := by rw [← exs]; simp
  rw [exs] at pl1 ok1 ok2
  have hxl : ∀ x ∈ xs, x.1.length + x.2.length ≤ 1000 := fun x hx => piece_len (ok1 x hx)
  refine WA.execs_cons (st1 w b1 b2 N a wd W 0 wl T2 d ox _ _ h2 hw hWl hW0 G2 F2 gw2 ?_)
  intro h3 T3 pl dd pr ps np prs npr hdh kd t2 nd E3 G3 F3 zpl zdd zpr gpl3 gdd3 gpr3 hps3 hprs3
  rw [hlw, pl1] at hps3
  rw [hlw, pl2] at hprs3
  have gw3 := E3.carry F2 gw2 (by simp [kindOf, listO]) (by simp)
  have gA3 := E3.carry F2 gA2 (by simp [kindOf, cacheO]) (by simp)
  have gB3 := E3.carry F2 gB2 (by simp [kindOf, cacheO]) (by simp)
  refine WA.execs_cons (st2 w b1 b2 N a wd pl pr W 0 wl T3 d ox _ _ h3 hw (by omega) hW0 G3 F3 gw3 ?_)
  intro h4 T4 sp rs nr E4 G4 F4 zsp gsp4 hrs4
  have hrs4' : All2 (SpotV h4) rs ((List.range (W.length + 1)).map (fOf wl)) := hrs4
  have nt3 : ∀ c ∈ [N+292], ∀ vs, h3.get? c ≠ some (tupO vs) := by obtain ⟨_, _, _, g⟩ := F3; exact notupL (by ktr_rel)
  have gw4 := E4.carry F3 gw3 (by simp [kindOf, listO]) (by simp)
  have gA4 := E4.carry F3 gA3 (by simp [kindOf, cacheO]) (by simp)
  have gB4 := E4.carry F3 gB3 (by simp [kindOf, cacheO]) (by simp)
  have gpl4 := E4.carry F3 gpl3 (by simp [kindOf, pileO]) (by simp)
  have gdd4 := E4.carry F3 gdd3 (by simp [kindOf, dictO]) (by simp)
  have gpr4 := E4.carry F3 gpr3 (by simp [kindOf, listO]) (by simp)
  have hps4 := pieces_ext E4 nt3 hps3
  have hprs4 := pieces_ext E4 nt3 hprs3
  have hws : wd ≠ sp := not_dup gw3 zsp
  refine WA.execs_cons (st3 w b1 b2 N a wd pl pr sp W 0 rs nr wl (fOf wl) (fun i => lastF (fOf wl) i wl.length) T4 d ox _ _ h4 hw hWl G4 F4 gw4 gsp4 hws hrs4' (fun i hi => by rw [hlw] at hi ⊢; exact lastF_ok (fOf wl) i wl.length (by omega)) ?_)
  intro h5 T5 lf lfs nlf E5 G5 F5 zlf glf5 hlf5
  rw [hlw, exs] at hlf5
  have nt4 : ∀ c ∈ [N+292], ∀ vs, h4.get? c ≠ some (tupO vs) := by obtain ⟨_, _, _, g⟩ := F4; exact notupL (by ktr_rel)
  have gw5 := E5.carry F4 gw4 (by simp [kindOf, listO]) (by simp)
  have gA5 := E5.carry F4 gA4 (by simp [kindOf, cacheO]) (by simp)
  have gB5 := E5.carry F4 gB4 (by simp [kindOf, cacheO]) (by simp)
  have gpl5 := E5.carry F4 gpl4 (by simp [kindOf, pileO]) (by simp)
  have gdd5 := E5.carry F4 gdd4 (by simp [kindOf, dictO]) (by simp)
  have gpr5 := E5.carry F4 gpr4 (by simp [kindOf, listO]) (by simp)
  have gsp5 := E5.carry F4 gsp4 (by simp [kindOf, listO]) (by simp)
  have hps5 := pieces_ext E5 nt4 hps4
  have hprs5 := pieces_ext E5 nt4 hprs4
  have hrs5 := spot_ext E5 nt4 hrs4'
  have hlfl : lfs.length ≤ 90 := by rw [hlf5.length]; omega
  have hpsl : ps.length ≤ 90 := by rw [hps5.length]; omega
  have hps0 : 0 < ps.length := by rw [hps5.length]; exact List.length_pos_iff.mpr hne
  refine WA.execs_cons (st4 w b1 b2 N a wd pl pr sp lf lfs nlf xs T5 d ox _ _ h5 (by omega) hne hxl G5 F5 glf5 hlf5 ?_)
  intro h6 T6 tt E6 G6 F6
  have nt5 : ∀ c ∈ [N+292], ∀ vs, h5.get? c ≠ some (tupO vs) := by obtain ⟨_, _, _, g⟩ := F5; exact notupL (by ktr_rel)
  have gw6 := E6.carry F5 gw5 (by simp [kindOf, listO]) (by simp)
  have gA6 := E6.carry F5 gA5 (by simp [kindOf, cacheO]) (by simp)
  have gB6 := E6.carry F5 gB5 (by simp [kindOf, cacheO]) (by simp)
  have gpl6 := E6.carry F5 gpl5 (by simp [kindOf, pileO]) (by simp)
  have gdd6 := E6.carry F5 gdd5 (by simp [kindOf, dictO]) (by simp)
  have gpr6 := E6.carry F5 gpr5 (by simp [kindOf, listO]) (by simp)
  have gsp6 := E6.carry F5 gsp5 (by simp [kindOf, listO]) (by simp)
  have glf6 := E6.carry F5 glf5 (by simp [kindOf, listO]) (by simp)
  have hps6 := pieces_ext E6 nt5 hps5
  have hprs6 := pieces_ext E6 nt5 hprs5
  have hrs6 := spot_ext E6 nt5 hrs5
  have hlf6 := pieces_ext E6 nt5 hlf5
  obtain ⟨td, etd⟩ : ∃ td, Txt.join emp (xs.map fun x => x.1 ++ x.2) = td := ⟨_, rfl⟩
  rw [etd] at F6
  refine WA.execs_cons (st5 w b1 b2 N a wd pl dd pr sp lf td tt W 0 rs nr prs npr ps np hdh kd t2 nd (fOf wl) (gOf wl) xs T6 d ox _ _ h6 hWl hW0 G6 F6 gw6 gsp6 hws hrs6 (fun k hk => gOf_none hs (by omega)) (fun k hk M => gOf_some hs (by omega)) gpr6 (by rw [hlw]; exact hprs6) gpl6 gdd6 hps6 hpsl hne hxl etd.symm gA6 gB6 ?_)
  intro h7 T7 v1 v2 E7 G7 F7 gA7 gB7
  have nt6 : ∀ c ∈ [N+292, 215, 222], ∀ vs, h6.get? c ≠ some (tupO vs) := by obtain ⟨_, _, _, g⟩ := F6; exact notupL (by ktr_rel)
  have gpl7 := E7.carry F6 gpl6 (by simp [kindOf, pileO]) (by simp)
  have gdd7 := E7.carry F6 gdd6 (by simp [kindOf, dictO]) (by simp)
  have glf7 := E7.carry F6 glf6 (by simp [kindOf, listO]) (by simp)
  have hps7 := pieces_ext E7 nt6 hps6
  have hlf7 := pieces_ext E7 nt6 hlf6
  refine WA.execs_cons (st6 w b1 b2 N a wd pl dd pr sp lf (.str td tt) ps np hdh kd t2 nd T7 d ox _ _ h7 (by omega) hps0 G7 F7 gpl7 gdd7 ?_)
  intro h8 T8 pc E8 G8 F8 zpc gpc8 gpl8
  have nt7 : ∀ c ∈ [N+292, pl+292], ∀ vs, h7.get? c ≠ some (tupO vs) := by obtain ⟨_, _, _, g⟩ := F7; exact notupL (by ktr_rel)
  have hpd : pl + 292 ≠ dd + 292 := ne_kind gpl7 gdd7 (by simp [kindOf, pileO, dictO])
  have hpf : pl + 292 ≠ lf + 292 := ne_kind gpl7 glf7 (by simp [kindOf, pileO, listO])
  have gdd8 := E8.carry F7 gdd7 (by simp [kindOf, dictO]) (by simp; omega)
  have glf8 := E8.carry F7 glf7 (by simp [kindOf, listO]) (by simp; omega)
  have gA8 := E8.carry F7 gA7 (by simp [kindOf, cachedO]) (by simp)
  have gB8 := E8.carry F7 gB7 (by simp [kindOf, cachedO]) (by simp)
  have hps8 := pieces_ext E8 nt7 hps7
  have hlf8 := pieces_ext E8 nt7 hlf7
  have hpcl : pc ≠ lf := (not_dup glf7 zpc).symm
  refine WA.execs_cons (st7 w b1 b2 N a wd pl dd pr sp lf pc (.str td tt) ps lfs 0 nlf (np+1) hdh kd t2 nd xs T8 d ox _ _ h8 G8 F8 gpc8 glf8 hpcl hps8 hlf8 gpl8 gdd8 ?_)
  intro h9 T9 E9 G9 F9
  have nt8 : ∀ c ∈ [N+292], ∀ vs, h8.get? c ≠ some (tupO vs) := by obtain ⟨_, _, _, g⟩ := F8; exact notupL (by ktr_rel)
  have gpc9 := E9.carry F8 gpc8 (by simp [kindOf, listO]) (by simp)
  have glf9 := E9.carry F8 glf8 (by simp [kindOf, listO]) (by simp)
  have gA9 := E9.carry F8 gA8 (by simp [kindOf, cachedO]) (by simp)
  have gB9 := E9.carry F8 gB8 (by simp [kindOf, cachedO]) (by simp)
  have hps9 := pieces_ext E9 nt8 hps8
  have hlf9 := pieces_ext E9 nt8 hlf8
  refine WA.execs_cons (st8 w b1 b2 N a wd pl pr sp lf pc (.str td tt) ps 0 xs T9 d ox _ _ h9 (by omega) hps0 ok1 G9 F9 gpc9 hps9 ?_)
  intro h10 T10 tbl dt hl accs na hq kq nq E10 G10 F10 gt10 gdt10 ghl10 hacc10
  have nt9 : ∀ c ∈ [N+292], ∀ vs, h9.get? c ≠ some (tupO vs) := by obtain ⟨_, _, _, g⟩ := F9; exact notupL (by ktr_rel)
  have glf10 := E10.carry F9 glf9 (by simp [kindOf, listO]) (by simp)
  have gA10 := E10.carry F9 gA9 (by simp [kindOf, cachedO]) (by simp)
  have gB10 := E10.carry F9 gB9 (by simp [kindOf, cachedO]) (by simp)
  have hlf10 := pieces_ext E10 nt9 hlf9
  have hal := hacc10.length
  have hpl := hps9.length
  refine WA.execs_cons (st9 w b1 b2 false N a wd pl pr sp lf pc tbl dt hl (.str td tt) hq kq nq accs na lfs nlf xs T10 d ox _ _ h10 (by omega) (by omega) (fun x hx => (ok1 x hx).1) G10 F10 gt10 gdt10 ghl10 hacc10 glf10 hlf10 ?_)
  intro h11 T11 E11 G11 F11
  have nt10 : ∀ c ∈ [N+292], ∀ vs, h10.get? c ≠ some (tupO vs) := by obtain ⟨_, _, _, g⟩ := F10; exact notupL (by ktr_rel)
  have gt11 := E11.carry F10 gt10 (by simp [kindOf, hdrO]) (by simp)
  have gdt11 := E11.carry F10 gdt10 (by simp [kindOf, dictO]) (by simp)
  have ghl11 := E11.carry F10 ghl10 (by simp [kindOf, listO]) (by simp)
  have glf11 := E11.carry F10 glf10 (by simp [kindOf, listO]) (by simp)
  have gA11 := E11.carry F10 gA10 (by simp [kindOf, cachedO]) (by simp)
  have gB11 := E11.carry F10 gB10 (by simp [kindOf, cachedO]) (by simp)
  have hacc11 := pieces_ext E11 nt10 hacc10
  have hlf11 := pieces_ext E11 nt10 hlf10
  refine st9 w b1 b2 true N a wd pl pr sp lf pc tbl dt hl (.str td tt) hq kq nq accs na lfs nlf xs T11 d ox _ _ h11 (by omega) (by omega) (fun x hx => (ok1 x hx).1) G11 F11 gt11 gdt11 ghl11 hacc11 glf11 hlf11 ?_
  intro h12 T12 E12 G12 F12
  have gA12 := E12.carry F11 gA11 (by simp [kindOf, cachedO]) (by simp)
  have gB12 := E12.carry F11 gB11 (by simp [kindOf, cachedO]) (by simp)
  refine K h12 T12 v1 v2 ?_ gA12 gB12
  refine (((((((((((E1'.trans E2).trans E3).trans E4).trans E5).trans E6).trans E7).trans E8).trans E9).trans E10).trans E11).trans E12).drop ?_
  have hp2 : N ≤ pl := by have s1 := E1'.size; have s2 := E2.size; omega
  repeat' first | exact fa_nil | refine fa_app ?_ ?_ | refine fa_cons (Or.inl (by k_mem)) ?_ | refine fa_cons (Or.inr (nw0 hN rfl)) ?_ | refine fa_cons (Or.inr (nw1 hN hp2 rfl)) ?_ | refine fa_cons (Or.inr (nw2 hN hp2 rfl)) ?_
end
end Mine

namespace Mine
noncomputable section
open PySem PySem.W PySem.W.X PySem.Calls PyProof.Rows
set_option maxHeartbeats 4000000
theorem kt_top (P : Params) : KT.of (topK P) = topT P := by kernel_rfl
theorem holds_eq {h : Heap} {K : Frag} {t : KT} (e : KT.of K = t) (zA : AllIn h K) : KT.Holds h 1 0 t := e ▸ holds_of zA
theorem kt_holds {h : Heap} (P : Params) (zA : AllIn h (topK P)) : KT.Holds h 1 0 (topT P) := holds_eq (kt_top P) zA
theorem glob_of_kt {w : World} {b1 b2 : Bool} {hs : List Hook} {h : Heap} (H : KT.Holds h 1 0 (topT w.params)) : Glob (XX w b1 b2 tb hs) h := fun a ob hl hk => kt_at H hk
theorem tab215 {w : World} {h : Heap} (H : KT.Holds h 1 0 (topT w.params)) : h.get? 215 = some cacheO ∧ isCodeTable h 215 :=
  ⟨kt_at H (by kernel_rfl), 219, obOf w 219, vsOf w 219, kt_at H (by kernel_rfl), by kernel_rfl, by kernel_rfl, by kernel_rfl⟩
theorem tab222 {w : World} {h : Heap} (H : KT.Holds h 1 0 (topT w.params)) : h.get? 222 = some cacheO ∧ isCodeTable h 222 :=
  ⟨kt_at H (by kernel_rfl), 226, obOf w 226, vsOf w 226, kt_at H (by kernel_rfl), by kernel_rfl, by kernel_rfl, by kernel_rfl⟩
theorem oldk_of {h h' : Heap} {v1 v2 : Array Value} (E : Ext [215, 222] h h') (f1 : h.get? 215 = some cacheO) (t1 : isCodeTable h 215) (g1 : h'.get? 215 = some (cachedO v1)) (f2 : h.get? 222 = some cacheO) (t2 : isCodeTable h 222) (g2 : h'.get? 222 = some (cachedO v2)) : OldK h h' := by
  refine ⟨fun b o e => ?_, fun b o e => ?_⟩
  · by_cases h1 : b = 215
    · subst h1
      rw [f1] at e
      cases e
      exact .inr (.inl ⟨t1, rfl, #[], v1, rfl, by rw [g1]; simp [cachedO, cacheO]⟩)
    · by_cases h2 : b = 222
      · subst h2
        rw [f2] at e
        cases e
        exact .inr (.inl ⟨t2, rfl, #[], v2, rfl, by rw [g2]; simp [cachedO, cacheO]⟩)
      · exact .inl (E.keep b o e (by simp [h1, h2]))
  · by_cases h1 : b = 215
    · subst h1; exact ⟨_, g1⟩
    · by_cases h2 : b = 222
      · subst h2; exact ⟨_, g2⟩
      · exact ⟨o, E.keep b o e (by simp [h1, h2])⟩
theorem ints_are : ∀ {vs : List Value} {ns : List Int}, IntsAre vs ns → AreInts vs
  | _, _, .nil, v, hv => nomatch hv
  | _, _, .cons n t h, v, hv => by
    rcases List.mem_cons.mp hv with rfl | hv
    · exact ⟨n, t, rfl⟩
    · exact ints_are h v hv
theorem wp_of_code {M : Model} {Γ : PySem.Ctx} {f : Value} {pos : List Value} {Q : Value → Shared → Prop} {E : Value → Shared → Prop} {p : Pos} {s : Shared}
    (h : wpCode M (Γ.enter (.call f ⟨pos, []⟩) none p) (fun r s' => match r with | .ok (.ret v) => Q v s' | .ok _ => False | .error e => E e s') p s) : Sem.wp M Γ (PySem.call f pos) (fun v _ s' => Q v s') (fun e _ s' => E e s') p s := by
  show Sem.wp M Γ (PySem.run (.call f ⟨pos, []⟩) >>= fun fl => match fl with | .ret v => Pure.pure v | _ => unsupported "internal:call-without-return-value") _ _ _ _
  rw [Sem.wp_bind']
  unfold PySem.run
  rw [Sem.wp_call]
  refine wpCode_mono (fun r s' q => ?_) h
  cases r with
  | error e => rw [Sem.wp_raise]; exact q
  | ok fl =>
    rw [Sem.wp_pure]
    cases fl with
    | ret v => rw [Sem.wp_pure']; exact q
    | next => exact q.elim
    | brk => exact q.elim
    | cont => exact q.elim
theorem law_wp (w : World) (s : Shared) (its : List Value) (n : Nat) (Q E : Value → Shared → Prop) (hz : its.length ≤ 63) (hint : AreInts its) (H : KT.Holds s.heap 1 0 (topT w.params)) (fa : s.heap.get? 292 = some (listO its n)) (hg : s.gens = #[])
    (K : ∀ s', OldK s.heap s'.heap → s'.os = s.os → AllBare s'.gens → Q (.bool true) s') :
    Sem.wp (model PySem.Challenge.pw_pe0217_01 w) Hd.Γ0 (PySem.call (.ref 291) [.ref 292]) (fun v _ s' => Q v s') (fun e _ s' => E e s') default s := by
  refine wp_of_code ?_
  obtain ⟨h, g, d, T, ox⟩ := s
  have hg' : g = #[] := hg
  subst hg'
  obtain ⟨f1, t1⟩ := tab215 H
  obtain ⟨f2, t2⟩ := tab222 H
  have z := law_call w (w.params.followText "special-get-raises") (w.params.followText "comprehension-iter-twice") 0 default its n T d ox (fun r s' => match r with | .ok (.ret v) => Q v s' | .ok _ => False | .error e => E e s') h hz hint (glob_of_kt H) fa f1 f2 (fun h' T' v1 v2 x g1 g2 => K ⟨h', ⟨gl2⟩, d, T', ox⟩ (oldk_of x f1 t1 g1 f2 t2 g2) rfl (fun y hy => by
    have : y ∈ gl2 := by simpa using hy
    simp only [gl2, List.mem_cons, List.not_mem_nil, or_false, or_self] at this
    subst this
    rfl))
  rw [setW_eq] at z
  exact z
end
end Mine

namespace Mine
noncomputable section
open PySem PySem.W PySem.W.X PySem.Calls PyProof.Rows
set_option maxHeartbeats 4000000
theorem the_end {s₁ : Shared} {args : List WData} {cl : Str → Option Addr} {mean : ExcName → Option Value} {s' : Shared} (h1 : OldK s₁.heap s'.heap) (h2 : s'.os = s₁.os) (h3 : AllBare s'.gens) : GoodWG PySem.Challenge.rw_pe0217_01.row.toRowW.claim cl mean args s₁ (.ok (.ret (.bool true))) s' :=
  ⟨.inl ⟨.bool true, .bool true, [], rfl, fun _ => rfl, .bool true, (by wrow_post), fun _ => ⟨List.nodup_nil, fun _ h => nomatch h⟩⟩, h1, h2, h3⟩
theorem len63 {ns : List Int} (h : ¬ (63 : Int) < (ns.length : Int)) : ns.length ≤ 63 := by omega
set_option maxHeartbeats 8000000 in
theorem fin : PySem.Challenge.rw_pe0217_01.Holds := by
  refine ⟨by kernel_rfl, ?_⟩
  refine Hd.holdsX (q := vw) (loose := looseL) (Xt := fun s => xlAt vw [] s && recOk (RowW.records rwL) s) (XP := XL vw []) (Yf := obsZ topA) (Ya := valZ topK 292 656) (N := 3348) left (fun s e => xl_of s (Bool.and_eq_true_iff.mp e).1) XL.keeps (by rfl) (by rfl) (by rfl) (fun s e => recFacts_of (Bool.and_eq_true_iff.mp e).2) (by rfl) (by kernel_rfl) (by kernel_rfl) ⟨rfl, rfl, rfl, rfl, rfl, by kernel_rfl⟩ ?hw ?hc
  case hw => w_witness2
  intro w s₀ s₁ mg mb G y fa o pm cd doc dV kV ho hd hcd hD hmg hg args vals as L hpre hlay hrd hwl hlo
  clear hd hcd hD ho
  have zf := z_facts (K := topK) (fun P => by kernel_rfl) y
  clear y
  refine Ground.open G ?_
  intro T B D TE TW
  clear G B D TE TW
  obtain ⟨zA, zI, zN, zT⟩ := zf
  have H0 := kt_holds w.params zA
  wrow_args hpre hlay hrd hwl hlo
  obtain ⟨hat, hsz⟩ := script_at L
  have H1 : KT.Holds s₁.heap 1 0 (topT w.params) := KT.Holds.keeps L.keeps H0
  clear H0
  have KX : (topK w.params).In s₁.heap := InK.keeps w s₀.heap s₁.heap zI L.keeps
  x_fa T KX hmg
  clear T hmg KX
  rename IntsAre _ _ => hI
  rename Heap.IsList _ _ _ => hL
  rename ¬ _ < _ => h63
  have hob := script_obj L hL
  rw [zN] at hat
  subst hat
  exact law_wp w s₁ _ 0 _ _ (by rw [ints_len_eq hI]; exact len63 h63) (ints_are hI) H1 hob hg fun s' a b c => the_end a b c
end
end Mine
theorem PySem.Challenge.cw_pe0217_01_holds : PySem.Challenge.rw_pe0217_01.Holds :=
  Mine.fin
