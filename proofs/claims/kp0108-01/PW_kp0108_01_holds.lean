import PyProof.Rows.All
import Wide.All
import OpenK.AllK
import Wide.FinOn
import PySem.Challenge.RW_kp0108_01
open PySem PySem.W PyProof.Rows
set_option Elab.async false
set_option maxRecDepth 100000
set_option maxHeartbeats 8000000
set_option rowWalk.seconds 0
namespace Esc01
open_top hd for PySem.Challenge.rw_kp0108_01
end Esc01
section
open PySem PySem.W PyProof.Rows
namespace Esc

/-! ## replace of one sign, as a map over the signs -/

def put (c : Nat) (z : List Nat) (l : List Nat) : List Nat := l.flatMap fun a => if a = c then z else [a]

theorem put_nil (c : Nat) (z : List Nat) : put c z [] = [] := rfl
theorem put_cons (c : Nat) (z : List Nat) (a : Nat) (l : List Nat) : put c z (a :: l) = (if a = c then z else [a]) ++ put c z l := by
  unfold put; rw [List.flatMap_cons]
theorem put_append (c : Nat) (z : List Nat) (a b : List Nat) : put c z (a ++ b) = put c z a ++ put c z b := by
  unfold put; rw [List.flatMap_append]
theorem put_free (c : Nat) (z : List Nat) : ∀ l : List Nat, c ∉ l → put c z l = l
  | [], _ => rfl
  | k :: r, h => by
    have h1 : ¬ k = c := fun e => h (e ▸ List.mem_cons_self ..)
    have h2 : c ∉ r := fun m => h (List.mem_cons_of_mem _ m)
    rw [put_cons, if_neg h1, put_free c z r h2]; rfl
theorem put_join (c : Nat) (z : Str) : ∀ parts : List Str, (∀ p ∈ parts, c ∉ p.cps.toList) → put c z.cps.toList (Str.join ⟨#[c]⟩ parts).cps.toList = (Str.join z parts).cps.toList
  | [], _ => rfl
  | [p], h => put_free c _ _ (h p (List.mem_singleton.mpr rfl))
  | p :: q :: r, h => by
    have ih := put_join c z (q :: r) fun a ha => h a (List.mem_cons_of_mem _ ha)
    show put c z.cps.toList (p ++ ⟨#[c]⟩ ++ Str.join ⟨#[c]⟩ (q :: r)).cps.toList = (p ++ z ++ Str.join z (q :: r)).cps.toList
    simp only [Str.cps_append, Array.toList_append]
    rw [put_append, put_append, ih, put_free c _ _ (h p (List.mem_cons_self ..))]
    simp [put]
theorem replace_put (x z : Str) (c : Nat) : (Txt.replace x ⟨#[c]⟩ z).cps.toList = put c z.cps.toList x.cps.toList := by
  rw [StrLaws.replace_one, ← put_join c z _ (StrLaws.split_free x c), StrLaws.join_split]

theorem put_len (c : Nat) (z : List Nat) (hz : 1 ≤ z.length) : ∀ l : List Nat, (put c z l).length ≤ z.length * l.length
  | [] => by simp [put]
  | a :: l => by
    have ih := put_len c z hz l
    rw [put_cons, List.length_append, List.length_cons, Nat.mul_succ]
    split
    · omega
    · simp only [List.length_cons, List.length_nil]; omega

theorem length_eq (x : Str) : x.length = x.cps.toList.length := by simp [Str.length]
theorem replace_len {x y z : Str} {c : Nat} (hy : y = ⟨#[c]⟩) (hz : 1 ≤ z.length) : (Txt.replace x y z).length ≤ z.length * x.length := by
  subst hy
  rw [length_eq (Txt.replace _ _ _), replace_put, length_eq x]
  have : z.length = z.cps.toList.length := length_eq z
  rw [this] at hz ⊢
  exact put_len c _ hz _
/-- any replace: how long it can be -/
theorem replace_len_any (x y z : Str) : (Txt.replace x y z).length ≤ x.length + (x.length + 1) * z.length := by
  unfold Txt.replace
  split
  · exact Nat.le_add_right _ _
  · have h1 := StrLaws.occ_length_le x y 0 x.length (x.length + 1)
    have hy : (PySem.Builtin.Str.glued y (PySem.Builtin.Str.partsBetween x (PySem.Builtin.Str.occurrences x y 0 x.length (x.length + 1)) y.length)).length = x.length := by rw [StrLaws.glued_between_self]
    rw [size_glued, length_partsBetween, Nat.add_sub_cancel] at hy
    rw [size_glued, length_partsBetween, Nat.add_sub_cancel]
    have h2 : (PySem.Builtin.Str.occurrences x y 0 x.length (x.length + 1)).length * z.length ≤ (x.length + 1) * z.length := Nat.mul_le_mul_right _ h1
    omega

/-! ## the join of short texts -/
theorem join_len : ∀ L : List Str, (∀ a ∈ L, a.length ≤ 1) → (Txt.join (Str.ofString "") L).length ≤ L.length := by
  intro L hL
  unfold Txt.join
  rw [StrLaws.glued_eq_join]
  refine Nat.le_trans (StrLaws.join_length_le _ _) ?_
  have e : (Str.ofString "").length = 0 := by decide +kernel
  rw [e, Nat.mul_zero, Nat.add_zero]
  induction L with
  | nil => simp
  | cons a r ih =>
    rw [List.map_cons, List.sum_cons, List.length_cons]
    have := hL a (List.mem_cons_self ..)
    have := ih fun b hb => hL b (List.mem_cons_of_mem _ hb)
    omega

section
variable {prog : Program} {w : World} {A : Around} {E : Value → Shared → Prop} {s : Shared} {t : Tok} {Q : Value → Shared → Prop} {α : Type} {D : Addr} {ys : List Value} {l : List α} {g : α → PySem.Str}
theorem join_any (hl : s.heap.IsList D ys.toArray) (hc : CarriedAll ys (l.map fun a => PyData.str (g a))) (h1 : ∀ a ∈ l, (g a).length ≤ 1) (hn : l.length ≤ 63)
    (h : ∀ (T : Str) t' k, T.length ≤ 63 → Q (.str T t') { s with toks := k }) :
    wpAny (model prog w) A (call (.builtin "str.join") [.str (PySem.Str.ofString "") t, .ref D]) Q E s :=
  KT.join_B 1 hl hc h1 (by omega) (by decide) fun t' k => h _ t' k (Nat.le_trans (join_len _ (fun a ha => by
    obtain ⟨b, hb, eb⟩ := List.mem_map.1 ha; rw [← eb]; exact h1 b hb)) (by rw [List.length_map]; exact hn))
end

/-! ## the counter of tokens never falls -/
theorem runs_toks {M : Model} {Γ : Ctx} {p : Pos} {t : Sem Fin} {fs : List Frame} {s : Shared} {e : End} {s' : Shared} (h : Runs M Γ p t fs s e s') : s.toks ≤ s'.toks := by
  induction h with
  | done => exact Nat.le_refl _
  | raise => exact Nat.le_refl _
  | again _ _ ih => exact ih
  | rule _ ih => exact ih
  | «at» _ ih => exact ih
  | load _ _ ih => exact ih
  | update _ _ ih => exact ih
  | loadIfAlive _ ih => exact ih
  | point _ ih => exact ih
  | alloc _ ih => exact ih
  | fresh _ ih => exact Nat.le_of_succ_le ih
  | ask _ ih => exact ih
  | choose _ _ ih => exact ih
  | os _ ih => exact ih
  | handled _ ih => exact ih
  | genState _ _ ih => exact ih
  | stack _ ih => exact ih
  | thread _ ih => exact ih
  | newGen _ ih => exact ih
  | call _ _ ih1 ih2 => exact Nat.le_trans ih1 ih2
  | callSusp _ ih => exact ih
  | yield => exact Nat.le_refl _
  | resumeFresh _ _ _ _ ih1 ih2 => exact Nat.le_trans ih1 ih2
  | resumeSuspended _ _ _ _ ih1 ih2 => exact Nat.le_trans ih1 ih2
  | resumeJustStarted _ _ _ ih => exact ih
  | resumeThrowFresh _ _ ih => exact ih
  | resumeRunning _ _ ih => exact ih
  | resumeFinished _ _ ih => exact ih
  | segRet _ _ ih1 ih2 => exact Nat.le_trans ih1 ih2
  | segGen _ _ ih1 ih2 => exact Nat.le_trans ih1 ih2
  | segSuspOut _ _ ih => exact ih
  | segSuspGen _ _ _ _ ih1 ih2 => exact Nat.le_trans ih1 ih2

theorem wakes_toks {M : Model} {p : Pos} {Γ : Ctx} {g : Nat} {r : Resume} {s : Shared} {res : GenResult} {s' : Shared} (h : Wakes M Γ p g r s res s') : s.toks ≤ s'.toks := by
  unfold Wakes at h
  split at h
  · exact h.elim
  · split at h
    · obtain ⟨e₁, s₁, hr, _, _, e⟩ := h
      subst e
      exact (runs_toks hr : (s.setGen g .running).toks ≤ s₁.toks)
    · obtain ⟨_, e⟩ := h; subst e; exact Nat.le_refl _
    · obtain ⟨_, e⟩ := h; subst e; exact Nat.le_refl _
  · obtain ⟨e₁, s₁, hr, _, _, e⟩ := h
    subst e
    exact (runs_toks hr : (s.setGen g .running).toks ≤ s₁.toks)
  · obtain ⟨_, e⟩ := h; subst e; exact Nat.le_refl _
  · obtain ⟨_, e⟩ := h; subst e; exact Nat.le_refl _

theorem wp_toks {α : Type} {M : Model} {Γ : Ctx} {n : Nat} (t : Sem α) {Q : α → Pos → Shared → Prop} {E : Value → Pos → Shared → Prop} : ∀ (p : Pos) (s : Shared), n ≤ s.toks →
    Sem.wp M Γ t (fun a p' s' => n ≤ s'.toks → Q a p' s') (fun e p' s' => n ≤ s'.toks → E e p' s') p s → Sem.wp M Γ t Q E p s := by
  induction t with
  | pure a => intro p s hn h; exact h hn
  | raise e => intro p s hn h; exact h hn
  | unsupported w => intro p s hn h; exact h
  | finish e => intro p s hn h; exact h
  | rule t k ih => intro p s hn h; exact ih _ _ _ hn h
  | «at» q k ih => intro p s hn h; exact ih _ _ _ hn h
  | load a part k ih => intro p s hn h; obtain ⟨o, ho, h⟩ := h; exact ⟨o, ho, ih _ _ _ hn h⟩
  | update a part f k ih => intro p s hn h; exact ⟨h.1, ih _ _ { s with heap := s.heap.update a f } hn h.2⟩
  | alloc o k ih => intro p s hn h; exact ih _ _ { s with heap := s.heap.push o } hn h
  | loadIfAlive a k ih => intro p s hn h; exact ih _ _ _ hn h
  | point l k ih => intro p s hn h; exact ih _ _ _ hn h
  | register a k ih => intro p s hn h; exact h
  | fresh k ih => intro p s hn h; exact ih _ _ { s with toks := s.toks + 1 } (Nat.le_succ_of_le hn) h
  | ask k ih => intro p s hn h; exact ih _ _ _ hn h
  | choose src m k ih => intro p s hn h; exact ⟨h.1, ih _ _ { s with drawn := s.drawn.bump src } hn h.2⟩
  | os q l k ih => intro p s hn h; exact ih _ _ { s with os := (Os.step s.os q).1 } hn h
  | call c h₀ g l k ih =>
    intro p s hn h
    obtain ⟨r, s', hr, h⟩ := h
    exact ⟨r, s', hr, ih _ _ _ (Nat.le_trans hn (runs_toks hr)) h⟩
  | handled o k ih => intro p s hn h; exact ih _ _ _ hn h
  | newGen c k ih => intro p s hn h; exact ih _ _ { s with gens := s.gens.push (.fresh c) } hn h
  | genState g k ih => intro p s hn h; obtain ⟨st, hs, h⟩ := h; exact ⟨st, hs, ih _ _ _ hn h⟩
  | resume g r l k ih =>
    intro p s hn h
    obtain ⟨res, s', hw, h⟩ := h
    exact ⟨res, s', hw, ih _ _ _ (Nat.le_trans hn (wakes_toks hw)) h⟩
  | yield v g l k ih => intro p s hn h; exact h
  | stack k ih => intro p s hn h; exact ih _ _ _ hn h
  | fork c k ih => intro p s hn h; exact h
  | thread k ih => intro p s hn h; exact ih _ _ _ hn h
  | await a f d l k ih => intro p s hn h; exact h
/-- what was counted at the start is counted at the end -/
def After {α : Type} (n : Nat) (Q : α → Shared → Prop) (a : α) (s : Shared) : Prop := n ≤ s.toks → Q a s
theorem any_toks {α : Type} {M : Model} {A : Around} {t : Sem α} {Q : α → Shared → Prop} {E : Value → Shared → Prop} {s : Shared} {n : Nat} (hn : n ≤ s.toks)
    (h : wpAny M A t (After n Q) E s) : wpAny M A t Q E s := fun Γ p hΓ =>
  wp_toks (n := n) (Q := fun a _ s' => Q a s') (E := fun e _ s' => E e s') t p s hn (Sem.wp_mono M Γ t (fun _ _ _ h => h) (fun e _ s' (h : E e s') (_ : n ≤ s'.toks) => h) p s (h Γ p hΓ))

section
variable {prog : Program} {w : World} {A : Around} {E : Value → Shared → Prop} {s : Shared} {x y z : Str} {t : Tok} {Q : Value → Shared → Prop}
theorem replace_call {u : Nat} (b : Nat) (hu : 1 ≤ u) (hyz : (y == z) = false) (hx : x.length ≤ 1048576) (hz : z.length ≤ b) (hb : b ≤ 14) (hs : u ≤ s.toks)
    (hq : ∀ t' k, 1 ≤ k → (Txt.replace x y z).length ≤ x.length + (x.length + 1) * b → Q (.str (Txt.replace x y z) t') { s with toks := k }) : wpAny (model prog w) A (call (.builtin "str.replace") [.str x t, .str y u, .str z (u + 1)]) Q E s :=
  any_toks (Nat.le_trans hu hs) (SC.replaceW (by show @Ne Nat u 0; omega) (by show @Ne Nat (u + 1) 0; omega) (by show @Ne Nat u (u + 1); omega) hyz hx (Nat.le_trans hz hb) fun t' k hk =>
    hq t' k hk (Nat.le_trans (replace_len_any x y z) (Nat.add_le_add_left (Nat.mul_le_mul_left _ hz) _)))
theorem replace_hid {u : Nat} (b : Nat) (hu : 1 ≤ u) (hyz : (y == z) = false) (hx : x.length ≤ 1048576) (hz : z.length ≤ b) (hb : b ≤ 14) (hs : u ≤ s.toks)
    (hq : ∀ U t' k, 1 ≤ k → U.length ≤ x.length + (x.length + 1) * b → U = Txt.replace x y z → Q (.str U t') { s with toks := k }) : wpAny (model prog w) A (call (.builtin "str.replace") [.str x t, .str y u, .str z (u + 1)]) Q E s :=
  replace_call b hu hyz hx hz hb hs fun t' k h1 h2 => hq _ t' k h1 h2 rfl
end

section
variable {M : Model} {A : Around} {E : Value → Shared → Prop} {env : Env} {st : Stmt} {rest : List Stmt} {Q : Flow → Shared → Prop} {hp : Heap} {gens : Array GenState} {drawn : _} {t : Nat} {os : _}
theorem cons_toks (P : 1 ≤ t) (h : ∀ tk : Nat, 1 ≤ tk → wpAny M A (exec st env) (After 1 (fun f s' => match f with | .next => wpAny M A (execs rest env) Q E s' | f => Q f s')) E ⟨hp, gens, drawn, tk, os⟩) :
    wpAny M A (execs (st :: rest) env) Q E ⟨hp, gens, drawn, t, os⟩ := wpAny_execs_cons (any_toks P (h t P))
end

/-! ## an if that changes nothing but what replace would change: one path -/
structure TestAt (c : Bool) (h₀ : Heap) (L : Addr) (m : Str → Option Value) (news : List (Addr × Obj)) (s : Shared) (k : Bool) (s' : Shared) : Prop where
  out : k = c
  here : ∃ (h : Heap) (tk : Nat), s' = { s with heap := h, toks := tk } ∧ 1 ≤ tk ∧ Fr h₀ L h m ∧ News h₀ L h news
structure StrAt (x : Str) (v : Str) (h₀ : Heap) (L : Addr) (m : Str → Option Value) (news : List (Addr × Obj)) (s : Shared) (f : Flow) (s' : Shared) : Prop where
  next : f = .next
  here : ∃ t : Tok, KJoinAt h₀ L (fun y => if y = x then some (.str v t) else m y) news s s'
def Same (P : Prop) : Prop := P
def Halt (P : Prop) : Prop := P
theorem Halt.on {P : Prop} (h : Halt P) : P := h
def Turn (P : Prop) : Prop := P
def Rest (P : Prop) : Prop := P
section
variable {M : Model} {A : Around} {E : Value → Shared → Prop} {s : Shared} {env : Env} {h₀ : Heap} {L : Addr} {m : Str → Option Value} {news : List (Addr × Obj)}
theorem rep_if {test : Expr} {x n : Str} {p q pos p1 p2 p3 : Pos} {args : List Expr} {c : Bool} {a v : Str} {b : Nat} {t₀ : Tok} {Q : Flow → Shared → Prop} (_F : Fr h₀ L s.heap m) (_N : News h₀ L s.heap news)
    (hold : m x = some (.str a t₀))
    (hc : wpAny M A (isTrue test env (eval test env)) (fun k s₂ => TestAt c h₀ L m news s k s₂) E s)
    (hv : Turn (c = true → ∀ (h : Heap) (tk : Nat), 1 ≤ tk → Fr h₀ L h m → News h₀ L h news → wpAny M A (exec (.Assign [.Name x p] (.Call (.Attribute (.Name x p1) n p2) args [] p3) q) env) (fun f s₃ => StrAt x v h₀ L m news s f s₃) E { s with heap := h, toks := tk }))
    (hs : Same ((c = false → v = a) ∧ v.length ≤ b * a.length))
    (hk : Rest (∀ (t : Tok) (h : Heap) (tk : Nat), v.length ≤ b * a.length → Fr h₀ L h (fun y => if y = x then some (.str v t) else m y) → News h₀ L h news → Q .next { s with heap := h, toks := tk })) :
    wpAny M A (exec (.If test [.Assign [.Name x p] (.Call (.Attribute (.Name x p1) n p2) args [] p3) q] [] pos) env) Q E s := by
  refine wpAny_If (wpAny_mono hc (fun k s₂ hkc => ?_) fun _ _ h => h)
  obtain ⟨hkc, h, tk, e, h1, F, N⟩ := hkc
  subst hkc
  subst e
  cases k with
  | true =>
    show wpAny M A (execs [_] env) Q E _
    refine wpAny_execs_cons (wpAny_mono (hv rfl h tk h1 F N) (fun f s₃ hf => ?_) fun _ _ h => h)
    obtain ⟨hf, t, h', tk', e', F', N'⟩ := hf
    subst hf
    subst e'
    exact wpAny_execs_nil (hk t h' tk' hs.2 F' N')
  | false =>
    show wpAny M A (execs [] env) Q E _
    refine wpAny_execs_nil (hk t₀ h tk hs.2 ?_ N)
    have e : (fun y => if y = x then some (Value.str v t₀) else m y) = m := by
      funext y
      by_cases hy : y = x
      · rw [if_pos hy, hy, hold, hs.1 rfl]
      · rw [if_neg hy]
    rw [e]
    exact F
end
/-! ## an if that sets two names: one path -/
structure TestTo (c : Bool) (h₀ : Heap) (L : Addr) (m : Str → Option Value) (news : List (Addr × Obj)) (s : Shared) (k : Bool) (s' : Shared) : Prop where
  out : k = c
  here : KJoinAt h₀ L m news s s'
structure TwoAt (x : Str) (v : Str) (y : Str) (u : Int) (h₀ : Heap) (L : Addr) (m : Str → Option Value) (news : List (Addr × Obj)) (s : Shared) (f : Flow) (s' : Shared) : Prop where
  next : f = .next
  here : ∃ t t' : Tok, KJoinAt h₀ L (fun z => if z = y then some (.int u t') else if z = x then some (.str v t) else m z) news s s'
def Turn2 (P : Prop) : Prop := P
def Enter (P : Prop) : Prop := P
def Rest2 (P : Prop) : Prop := P
section
variable {M : Model} {A : Around} {E : Value → Shared → Prop} {s : Shared} {env : Env} {h₀ : Heap} {L : Addr} {m : Str → Option Value} {news : List (Addr × Obj)}
theorem two_if {test e1 e2 : Expr} {x y : Str} {p q p' q' pos : Pos} {c : Bool} {a v : Str} {b u : Int} {t₀ t₁ : Tok} {Q : Flow → Shared → Prop} (_F : Fr h₀ L s.heap m) (_N : News h₀ L s.heap news)
    (hold : m x = some (.str a t₀)) (hold2 : m y = some (.int b t₁))
    (hc : wpAny M A (isTrue test env (eval test env)) (fun k s₂ => TestTo c h₀ L m news s k s₂) E s)
    (hv : Turn2 (c = true → ∀ (h : Heap) (tk : Nat), Fr h₀ L h m → News h₀ L h news → wpAny M A (execs [.Assign [.Name x p] e1 q, .Assign [.Name y p'] e2 q'] env) (fun f s₃ => TwoAt x v y u h₀ L m news s f s₃) E { s with heap := h, toks := tk }))
    (hk : Rest2 (∀ (t t' : Tok) (h : Heap) (tk : Nat), Fr h₀ L h (fun z => if z = y then some (.int (cond c u b) t') else if z = x then some (.str (cond c v a) t) else m z) → News h₀ L h news → Q .next { s with heap := h, toks := tk })) :
    wpAny M A (exec (.If test [.Assign [.Name x p] e1 q, .Assign [.Name y p'] e2 q'] [] pos) env) Q E s := by
  refine wpAny_If (wpAny_mono hc (fun k s₂ hkc => ?_) fun _ _ h => h)
  obtain ⟨hkc, h, tk, e, F, N⟩ := hkc
  subst hkc
  subst e
  cases k with
  | true =>
    show wpAny M A (execs [_, _] env) Q E _
    refine wpAny_mono (hv rfl h tk F N) (fun f s₃ hf => ?_) fun _ _ h => h
    obtain ⟨hf, t, t', h', tk', e', F', N'⟩ := hf
    subst hf
    subst e'
    exact hk t t' h' tk' F' N'
  | false =>
    show wpAny M A (execs [] env) Q E _
    refine wpAny_execs_nil (hk t₀ t₁ h tk ?_ N)
    have e : (fun z => if z = y then some (Value.int b t₁) else if z = x then some (Value.str a t₀) else m z) = m := by
      funext z
      by_cases hz : z = y
      · rw [if_pos hz, hz, hold2]
      · rw [if_neg hz]
        by_cases hz' : z = x
        · rw [if_pos hz', hz', hold]
        · rw [if_neg hz']
    show Fr h₀ L h (fun z => if z = y then some (Value.int b t₁) else if z = x then some (Value.str a t₀) else m z)
    rw [e]
    exact F
end
section
variable {M : Model} {A : Around} {E : Value → Shared → Prop} {s : Shared} {env : Env} {h₀ : Heap} {L : Addr} {m0 : Str → Option Value} {news : List (Addr × Obj)}
/-- the same, and the frame stays small: the loop's name, the two names, and what stood there -/
theorem two_if1 {test e1 e2 : Expr} {x y r : Str} {p q p' q' pos : Pos} {c : Bool} {a v : Str} {b u : Int} {t₀ t₁ : Tok} {vr : Option Value} {Q : Flow → Shared → Prop}
    (F : Fr h₀ L s.heap (fun z => if z = r then vr else if z = y then some (.int b t₁) else if z = x then some (.str a t₀) else m0 z)) (N : News h₀ L s.heap news)
    (hne : r ≠ x ∧ r ≠ y ∧ y ≠ x)
    (hc : wpAny M A (isTrue test env (eval test env)) (fun k s₂ => TestTo c h₀ L (fun z => if z = r then vr else if z = y then some (.int b t₁) else if z = x then some (.str a t₀) else m0 z) news s k s₂) E s)
    (hv : Turn2 (c = true → ∀ (h : Heap) (tk : Nat), Fr h₀ L h (fun z => if z = r then vr else if z = y then some (.int b t₁) else if z = x then some (.str a t₀) else m0 z) → News h₀ L h news → wpAny M A (execs [.Assign [.Name x p] e1 q, .Assign [.Name y p'] e2 q'] env) (fun f s₃ => TwoAt x v y u h₀ L (fun z => if z = r then vr else if z = y then some (.int b t₁) else if z = x then some (.str a t₀) else m0 z) news s f s₃) E { s with heap := h, toks := tk }))
    (hk : Rest2 (∀ (t t' : Tok) (h : Heap) (tk : Nat), Fr h₀ L h (fun z => if z = r then vr else if z = y then some (.int (cond c u b) t') else if z = x then some (.str (cond c v a) t) else m0 z) → News h₀ L h news → Q .next { s with heap := h, toks := tk })) :
    wpAny M A (exec (.If test [.Assign [.Name x p] e1 q, .Assign [.Name y p'] e2 q'] [] pos) env) Q E s := by
  obtain ⟨n1, n2, n3⟩ := hne
  refine two_if (a := a) (b := b) (t₀ := t₀) (t₁ := t₁) F N ?_ ?_ hc hv ?_
  · show (if x = r then vr else if x = y then some (.int b t₁) else if x = x then some (.str a t₀) else m0 x) = _
    rw [if_neg (Ne.symm n1), if_neg (Ne.symm n3), if_pos rfl]
  · show (if y = r then vr else if y = y then some (.int b t₁) else if y = x then some (.str a t₀) else m0 y) = _
    rw [if_neg (Ne.symm n2), if_pos rfl]
  · intro t t' h tk F' N'
    refine hk t t' h tk ?_ N'
    have e : (fun z => if z = y then some (Value.int (cond c u b) t') else if z = x then some (Value.str (cond c v a) t) else if z = r then vr else if z = y then some (.int b t₁) else if z = x then some (.str a t₀) else m0 z)
        = (fun z => if z = r then vr else if z = y then some (.int (cond c u b) t') else if z = x then some (.str (cond c v a) t) else m0 z) := by
      funext z
      by_cases hy : z = y
      · subst hy; rw [if_pos rfl, if_neg (Ne.symm n2), if_pos rfl]
      · rw [if_neg hy, if_neg hy, if_neg hy]
        by_cases hx : z = x
        · subst hx; rw [if_pos rfl, if_neg (Ne.symm n1), if_pos rfl]
        · rw [if_neg hx, if_neg hx, if_neg hx]
    rw [← e]
    exact F'
theorem two_if2 {test e1 e2 : Expr} {x y r : Str} {p q p' q' pos : Pos} {c : Bool} {a v : Str} {b u : Int} {t₀ t₁ : Tok} {vr vr' : Option Value} {Q : Flow → Shared → Prop}
    (F : Fr h₀ L s.heap (fun z => if z = r then vr else if z = r then vr' else if z = y then some (.int b t₁) else if z = x then some (.str a t₀) else m0 z)) (N : News h₀ L s.heap news)
    (hne : r ≠ x ∧ r ≠ y ∧ y ≠ x)
    (hc : Enter (Fr h₀ L s.heap (fun z => if z = r then vr else if z = y then some (.int b t₁) else if z = x then some (.str a t₀) else m0 z) → wpAny M A (isTrue test env (eval test env)) (fun k s₂ => TestTo c h₀ L (fun z => if z = r then vr else if z = y then some (.int b t₁) else if z = x then some (.str a t₀) else m0 z) news s k s₂) E s))
    (hv : Turn2 (c = true → ∀ (h : Heap) (tk : Nat), Fr h₀ L h (fun z => if z = r then vr else if z = y then some (.int b t₁) else if z = x then some (.str a t₀) else m0 z) → News h₀ L h news → wpAny M A (execs [.Assign [.Name x p] e1 q, .Assign [.Name y p'] e2 q'] env) (fun f s₃ => TwoAt x v y u h₀ L (fun z => if z = r then vr else if z = y then some (.int b t₁) else if z = x then some (.str a t₀) else m0 z) news s f s₃) E { s with heap := h, toks := tk }))
    (hk : Rest2 (∀ (t t' : Tok) (h : Heap) (tk : Nat), Fr h₀ L h (fun z => if z = r then vr else if z = y then some (.int (cond c u b) t') else if z = x then some (.str (cond c v a) t) else m0 z) → News h₀ L h news → Q .next { s with heap := h, toks := tk })) :
    wpAny M A (exec (.If test [.Assign [.Name x p] e1 q, .Assign [.Name y p'] e2 q'] [] pos) env) Q E s := by
  have e : (fun z => if z = r then vr else if z = r then vr' else if z = y then some (Value.int b t₁) else if z = x then some (Value.str a t₀) else m0 z)
      = (fun z => if z = r then vr else if z = y then some (Value.int b t₁) else if z = x then some (Value.str a t₀) else m0 z) := by
    funext z
    by_cases hr : z = r
    · rw [if_pos hr, if_pos hr]
    · rw [if_neg hr, if_neg hr, if_neg hr]
  rw [e] at F
  exact two_if1 F N hne (hc F) hv hk
end
theorem drop1 {h₀ h : Heap} {L : Addr} {p : Addr × Obj} {news : List (Addr × Obj)} (N : News h₀ L h (p :: news)) : News h₀ L h news := fun q hq => N q (List.mem_cons_of_mem _ hq)
theorem put1 {h₀ h : Heap} {L : Addr} {p : Addr × Obj} {news : List (Addr × Obj)} (N : News h₀ L h news) (hp : p ∈ news) : News h₀ L h (p :: news) := fun q hq => by
  rcases List.mem_cons.mp hq with rfl | hq
  · exact N _ hp
  · exact N _ hq
theorem same_of {x y z : Str} {c : Nat} (hy : y = ⟨#[c]⟩) (h : (!(PySem.Builtin.Str.occurrences x y 0 x.length 1).isEmpty) = false) : Txt.replace x y z = x := by
  subst hy
  rw [StrLaws.found_one] at h
  have hn : c ∉ x.cps.toList := of_decide_eq_false h
  have e := replace_put x z c
  rw [put_free c _ _ hn] at e
  generalize Txt.replace x ⟨#[c]⟩ z = r at e
  obtain ⟨⟨l⟩⟩ := r
  obtain ⟨⟨l'⟩⟩ := x
  simp only at e
  rw [e]
theorem same_two {x y z : Str} (c b : Nat) (hy : y = ⟨#[c]⟩) (h1 : 1 ≤ b) (hb : z.length = b) :
    ((!(PySem.Builtin.Str.occurrences x y 0 x.length 1).isEmpty) = false → Txt.replace x y z = x) ∧ (Txt.replace x y z).length ≤ b * x.length :=
  ⟨same_of hy, by subst hb; exact replace_len hy h1⟩
end Esc
end
section
open PySem PySem.W PyProof.Rows PySem.Builtin PySem.Builtin.Str
namespace Esc
/-! ## texts as lists -/
theorem str_ext {a b : Str} (h : a.cps.toList = b.cps.toList) : a = b := by
  obtain ⟨⟨l⟩⟩ := a; obtain ⟨⟨l'⟩⟩ := b; simp only at h; rw [h]
theorem beq_list (a b : Str) : (a == b) = (a.cps.toList == b.cps.toList) := by
  by_cases h : a = b
  · subst h; simp
  · have h' : ¬ a.cps.toList = b.cps.toList := fun e => h (str_ext e)
    rw [beq_eq_false_iff_ne.mpr h, beq_eq_false_iff_ne.mpr h']
theorem sliceIdx_beyond (len : Nat) {i j : Int} (h0 : 0 ≤ i) (h : (len : Int) ≤ j) : strSliceIndices (some i) (some j) 1 len = strSliceIndices (some i) (some (len : Int)) 1 len := by
  have a1 : ¬ j < 0 := by omega
  have a2 : ¬ ((len : Int) < 0) := by omega
  have a3 : ¬ i < 0 := by omega
  have e1 : max (0 : Int) (min j (len : Int)) = len := by omega
  simp [strSliceIndices, a1, a2, a3, e1]
theorem slice_cps {x : Str} {i : Int} {n : Nat} (h0 : 0 ≤ i) (hi : i ≤ x.length) : (Txt.slice x (some i) (some (i + (n : Int)))).cps.toList = (x.cps.toList.drop i.toNat).take n := by
  have hl : (x.length : Int) = (x.cps.toList.length : Int) := by simp [Str.length]
  by_cases h : i + (n : Int) ≤ x.length
  · rw [eq_of_beq (slice_closesL h0 (by omega) h)]
    have e : (i + (n : Int) - i).toNat = n := by omega
    rw [e]
  · have e : Txt.slice x (some i) (some (i + (n : Int))) = Txt.slice x (some i) (some (x.length : Int)) := by
      show StrLaws.sliceText x (some i) (some (i + (n : Int))) = StrLaws.sliceText x (some i) (some (x.length : Int))
      unfold StrLaws.sliceText
      rw [sliceIdx_beyond x.length h0 (by omega)]
    rw [e, eq_of_beq (slice_closesL h0 hi (Int.le_refl _))]
    show List.take ((x.length : Int) - i).toNat (List.drop i.toNat x.cps.toList) = _
    have hd : (List.drop i.toNat x.cps.toList).length = x.cps.toList.length - i.toNat := List.length_drop ..
    rw [List.take_of_length_le (by omega), List.take_of_length_le (by omega)]
theorem slice_to_cps {x : Str} {j : Int} (h0 : 0 ≤ j) (hj : j ≤ x.length) : (Txt.slice x none (some j)).cps.toList = x.cps.toList.take j.toNat := by
  rw [eq_of_beq (slice_closes_toL h0 hj)]
  simp
theorem slice_from_cps {x : Str} {i : Int} (h0 : 0 ≤ i) (hi : i ≤ x.length) : (Txt.slice x (some i) none).cps.toList = x.cps.toList.drop i.toNat := by
  have hl : (x.length : Int) = (x.cps.toList.length : Int) := by simp [Str.length]
  rw [eq_of_beq (slice_closes_fromL h0 hi rfl)]
  show List.take ((x.length : Int) - i).toNat (List.drop i.toNat x.cps.toList) = _
  have hd : (List.drop i.toNat x.cps.toList).length = x.cps.toList.length - i.toNat := List.length_drop ..
  rw [List.take_of_length_le (by omega)]
theorem item_cps {x : Str} {i : Int} (h0 : 0 ≤ i) (hi : i < x.length) : (Txt.item x i).cps.toList = (x.cps.toList.drop i.toNat).take 1 := by
  have h1 := eq_of_beq (slice_one_closes h0 hi)
  have h2 := slice_cps (x := x) (n := 1) h0 (Int.le_of_lt hi)
  have h3 : (Txt.slice x (some i) (some (i + ((1 : Nat) : Int)))) = Txt.slice x (some i) (some (i + 1)) := rfl
  rw [h3, h1] at h2
  rw [← h2]
  have hk : i.toNat < x.cps.size := by have : x.length = x.cps.size := rfl; omega
  unfold Txt.item Txt.charAt seqIndex?
  have a1 : ¬ i < 0 := by omega
  simp [a1, h0, hi, hk]

def has (r l : List Nat) : Bool := l.take r.length == r
theorem slice_has {x y : Str} {i : Int} (h0 : 0 ≤ i) (hi : i ≤ x.length) (r : List Nat) (hr : y = ⟨r.toArray⟩) :
    (Txt.slice x (some i) (some (i + (r.length : Int))) == y) = has r (x.cps.toList.drop i.toNat) := by
  rw [beq_list, slice_cps h0 hi, hr]
  rfl
theorem has_len {r l : List Nat} (h : has r l = true) : r.length ≤ l.length := by
  have e := eq_of_beq h
  have := congrArg List.length e
  rw [List.length_take] at this
  omega
theorem cond_cps (b : Bool) (x y : Str) : (cond b x y).cps.toList = cond b x.cps.toList y.cps.toList := by cases b <;> rfl
theorem cond_cast (b : Bool) (x y : Nat) : (cond b (x : Int) (y : Int)) = ((cond b x y : Nat) : Int) := by cases b <;> rfl
theorem app_cps (a b : Str) : (a ++ b).cps.toList = a.cps.toList ++ b.cps.toList := by simp [Str.cps_append]

theorem replace_absent {x y z : Str} {c : Nat} {r : List Nat} (hy : y = ⟨(c :: r).toArray⟩) (h : c ∉ x.cps.toList) : Txt.replace x y z = x := by
  unfold Txt.replace
  have he : (PySem.Builtin.Str.occurrences x y 0 x.length (x.length + 1)).isEmpty = true := by
    obtain ⟨f, hc⟩ := StrLaws.occ_chain x y (x.length + 1)
    cases ho : PySem.Builtin.Str.occurrences x y 0 x.length (x.length + 1) with
    | nil => rfl
    | cons i l =>
      rw [ho] at hc
      exfalso
      obtain ⟨hlen, hs⟩ := hc.2.1
      unfold PySem.Builtin.Str.subAt at hs
      have e := eq_of_beq hs
      have e2 := congrArg Array.toList e
      rw [hy] at e2
      simp only [Array.toList_extract, List.extract_eq_take_drop] at e2
      have hm : c ∈ List.take (i + y.length - i) (List.drop i x.cps.toList) := by
        rw [hy, e2]; exact List.mem_cons_self ..
      exact h (List.mem_of_mem_drop (List.mem_of_mem_take hm))
  rw [he]
  simp

/-! ## a reader from the left: at each place a piece and a step -/
def rdG (f : List Nat → List Nat) (st : List Nat → Nat) : Nat → List Nat → List Nat
  | 0, _ => []
  | n + 1, l => if l = [] then [] else f l ++ rdG f st n (l.drop (st l))
structure Fair (f : List Nat → List Nat) (st : List Nat → Nat) : Prop where
  one : ∀ l, l ≠ [] → 1 ≤ st l
  most : ∀ l, l ≠ [] → st l ≤ l.length
  short : ∀ l, (f l).length ≤ 1
theorem rd_fuel {f : List Nat → List Nat} {st : List Nat → Nat} (G : Fair f st) : ∀ (n : Nat) (l : List Nat), l.length ≤ n → rdG f st n l = rdG f st l.length l := by
  intro n
  induction n using Nat.strongRecOn with
  | ind n ih =>
    intro l hl
    cases l with
    | nil => cases n <;> rfl
    | cons a r =>
      cases n with
      | zero => simp at hl
      | succ m =>
        have h1 := G.one (a :: r) (List.cons_ne_nil _ _)
        have hd : ((a :: r).drop (st (a :: r))).length ≤ r.length := by rw [List.length_drop, List.length_cons]; omega
        have hm : r.length ≤ m := by simp at hl; omega
        show (if (a :: r) = [] then [] else f (a :: r) ++ rdG f st m ((a :: r).drop (st (a :: r)))) = (if (a :: r) = [] then [] else f (a :: r) ++ rdG f st r.length ((a :: r).drop (st (a :: r))))
        rw [if_neg (List.cons_ne_nil _ _), if_neg (List.cons_ne_nil _ _), ih m (by omega) _ (by omega), ih r.length (by omega) _ hd]
def readG (f : List Nat → List Nat) (st : List Nat → Nat) (U : Str) : Str := ⟨(rdG f st U.length U.cps.toList).toArray⟩
structure Inv (f : List Nat → List Nat) (st : List Nat → Nat) (U p : Str) (k : Int) : Prop where
  p1 : 0 ≤ k
  p2 : k ≤ (U.length : Int)
  p3 : (p.length : Int) ≤ k
  p4 : U.length ≤ 7000
  p5 : p.cps.toList ++ rdG f st (U.length - k.toNat) (U.cps.toList.drop k.toNat) = rdG f st U.length U.cps.toList
theorem inv_start {f : List Nat → List Nat} {st : List Nat → Nat} {U : Str} (h : U.length ≤ 7000) : Inv f st U (Str.ofString "") 0 :=
  ⟨Int.le_refl _, by omega, by decide +kernel, h, by
    have e : (Str.ofString "").cps.toList = [] := by decide +kernel
    rw [e]; rfl⟩
theorem inv_turn {f : List Nat → List Nat} {st : List Nat → Nat} {U p fv : Str} {k sv : Int} (G : Fair f st) (h : Inv f st U p k) (hk : k < (U.length : Int))
    (hf : fv.cps.toList = f (U.cps.toList.drop k.toNat)) (hs : sv = ((st (U.cps.toList.drop k.toNat) : Nat) : Int)) : Inv f st U (p ++ fv) (k + sv) := by
  obtain ⟨h1, h2, h3, h4, h5⟩ := h
  have hl : (U.length : Int) = (U.cps.toList.length : Int) := by simp [Str.length]
  have hdl : (U.cps.toList.drop k.toNat).length = U.length - k.toNat := by rw [List.length_drop]; omega
  generalize hD : U.cps.toList.drop k.toNat = D at *
  have hne : D ≠ [] := by
    intro e; rw [e] at hdl; simp at hdl; omega
  have s1 := G.one D hne
  have s2 := G.most D hne
  subst hs
  have e1 : (k + ((st D : Nat) : Int)).toNat = k.toNat + st D := by omega
  refine ⟨by omega, by omega, ?_, h4, ?_⟩
  · have hfl : fv.length ≤ 1 := by rw [length_eq, hf]; exact G.short _
    have : (p ++ fv).length = p.length + fv.length := by rw [length_eq, app_cps, List.length_append, ← length_eq, ← length_eq]
    omega
  · rw [app_cps, hf, List.append_assoc, ← h5]
    apply congrArg
    rw [e1, ← List.drop_drop, hD]
    have e2 : U.length - k.toNat = (U.length - k.toNat - 1) + 1 := by omega
    rw [e2]
    show _ = (if D = [] then [] else f D ++ rdG f st (U.length - k.toNat - 1) (D.drop (st D)))
    rw [if_neg hne]
    apply congrArg
    have hdd : (D.drop (st D)).length = U.length - (k.toNat + st D) := by rw [List.length_drop, hdl]; omega
    rw [rd_fuel G (U.length - k.toNat - 1) _ (by omega), hdd]
theorem inv_less {f : List Nat → List Nat} {st : List Nat → Nat} {U p : Str} {k sv : Int} (G : Fair f st) (h : Inv f st U p k) (hk : k < (U.length : Int)) (hs : sv = ((st (U.cps.toList.drop k.toNat) : Nat) : Int)) :
    U.length - (k + sv).toNat < U.length - k.toNat := by
  have hdl : (U.cps.toList.drop k.toNat).length = U.length - k.toNat := by
    have hl : (U.length : Int) = (U.cps.toList.length : Int) := by simp [Str.length]
    rw [List.length_drop]; omega
  have h1 := h.p1
  have hne : U.cps.toList.drop k.toNat ≠ [] := by
    intro e; rw [e] at hdl; simp at hdl; omega
  have s1 := G.one _ hne
  omega
theorem inv_end {f : List Nat → List Nat} {st : List Nat → Nat} {U p : Str} {k : Int} (h : Inv f st U p k) (hk : ¬ k < (U.length : Int)) : p = readG f st U := by
  obtain ⟨h1, h2, h3, h4, h5⟩ := h
  apply str_ext
  have e : U.length - k.toNat = 0 := by omega
  rw [e] at h5
  show _ = rdG f st U.length U.cps.toList
  rw [← h5]
  show _ = p.cps.toList ++ []
  rw [List.append_nil]

/-! ## what is written piece by piece is read back -/
structure Wrote (f : List Nat → List Nat) (st : List Nat → Nat) (piece : Nat → List Nat) : Prop where
  some : ∀ a, piece a ≠ []
  found : ∀ a r, f (piece a ++ r) = [a]
  step : ∀ a r, st (piece a ++ r) = (piece a).length
theorem rd_wrote {f : List Nat → List Nat} {st : List Nat → Nat} {piece : Nat → List Nat} (W : Wrote f st piece) : ∀ (l : List Nat) (n : Nat), (l.flatMap piece).length ≤ n → rdG f st n (l.flatMap piece) = l
  | [], n, _ => by cases n <;> simp [rdG]
  | a :: r, n, h => by
    rw [List.flatMap_cons] at h ⊢
    have hp := W.some a
    have hne : piece a ++ r.flatMap piece ≠ [] := fun e => hp (List.append_eq_nil_iff.mp e).1
    have hl : 1 ≤ (piece a).length := by
      cases hq : piece a with
      | nil => exact absurd hq hp
      | cons _ _ => simp
    cases n with
    | zero => rw [List.length_append] at h; omega
    | succ m =>
      show (if piece a ++ r.flatMap piece = [] then [] else f (piece a ++ r.flatMap piece) ++ rdG f st m ((piece a ++ r.flatMap piece).drop (st (piece a ++ r.flatMap piece)))) = _
      rw [if_neg hne, W.found, W.step, List.drop_left, rd_wrote W r m (by rw [List.length_append] at h; omega)]
      rfl
theorem read_wrote {f : List Nat → List Nat} {st : List Nat → Nat} {piece : Nat → List Nat} (W : Wrote f st piece) {U T : Str} (h : U.cps.toList = T.cps.toList.flatMap piece) : readG f st U = T := by
  apply str_ext
  show rdG f st U.length U.cps.toList = _
  rw [h]
  exact rd_wrote W _ _ (by rw [length_eq, h]; exact Nat.le_refl _)
end Esc
end
section
open PySem PySem.W PyProof.Rows
namespace Esc01
open Esc
theorem cond_one {b : Bool} {x y : Nat} (hx : 1 ≤ x) (hy : 1 ≤ y) : 1 ≤ cond b x y := by cases b <;> assumption
theorem cond_most {b : Bool} {x y n : Nat} (hx : b = true → x ≤ n) (hy : y ≤ n) : cond b x y ≤ n := by
  cases b with
  | true => exact hx rfl
  | false => exact hy
theorem cond_short {b : Bool} {x y : List Nat} (hx : x.length ≤ 1) (hy : y.length ≤ 1) : (cond b x y).length ≤ 1 := by cases b <;> assumption
theorem has_other {a c : Nat} {r s : List Nat} (h : ¬ a = c) : has (c :: s) (a :: r) = false := by
  unfold has
  rw [List.length_cons, List.take_succ_cons]
  apply beq_eq_false_iff_ne.mpr
  intro e
  exact h (List.cons.inj e).1
theorem map_len {p : Nat → List Nat} {b : Nat} (h : ∀ a, (p a).length ≤ b) : ∀ l : List Nat, (l.flatMap p).length ≤ b * l.length
  | [] => by simp
  | a :: l => by
    rw [List.flatMap_cons, List.length_append, List.length_cons, Nat.mul_succ]
    have := map_len h l
    have := h a
    omega
theorem no_not {a b : Str} (h : a = b) : ¬ ((a != b) = true) := by subst h; simp
def fndD (U : Str) (k : Int) : Str := (bif Txt.slice U (some k) (some (k + ((4 : Nat) : Int))) == (Str.ofString "&gt;") then (Str.ofString ">") else (bif Txt.slice U (some k) (some (k + ((4 : Nat) : Int))) == (Str.ofString "&lt;") then (Str.ofString "<") else (bif Txt.slice U (some k) (some (k + ((5 : Nat) : Int))) == (Str.ofString "&amp;") then (Str.ofString "&") else Txt.item U k)))
def stpD (U : Str) (k : Int) : Int := (bif Txt.slice U (some k) (some (k + ((4 : Nat) : Int))) == (Str.ofString "&gt;") then ((4 : Nat) : Int) else (bif Txt.slice U (some k) (some (k + ((4 : Nat) : Int))) == (Str.ofString "&lt;") then ((4 : Nat) : Int) else (bif Txt.slice U (some k) (some (k + ((5 : Nat) : Int))) == (Str.ofString "&amp;") then ((5 : Nat) : Int) else 1)))
def fndLD (l : List Nat) : List Nat := (bif has [38, 103, 116, 59] l then [62] else (bif has [38, 108, 116, 59] l then [60] else (bif has [38, 97, 109, 112, 59] l then [38] else l.take 1)))
def stpLD (l : List Nat) : Nat := (bif has [38, 103, 116, 59] l then 4 else (bif has [38, 108, 116, 59] l then 4 else (bif has [38, 97, 109, 112, 59] l then 5 else 1)))
theorem fndD_cps {U : Str} {k : Int} (h0 : 0 ≤ k) (hk : k < U.length) : (fndD U k).cps.toList = fndLD (U.cps.toList.drop k.toNat) := by
  have h1 : k ≤ U.length := Int.le_of_lt hk
  have g0 := slice_has (x := U) (y := (Str.ofString "&amp;")) h0 h1 [38, 97, 109, 112, 59] (by decide +kernel)
  have g1 := slice_has (x := U) (y := (Str.ofString "&lt;")) h0 h1 [38, 108, 116, 59] (by decide +kernel)
  have g2 := slice_has (x := U) (y := (Str.ofString "&gt;")) h0 h1 [38, 103, 116, 59] (by decide +kernel)
  have e0 : (Str.ofString "&").cps.toList = [38] := by decide +kernel
  have e1 : (Str.ofString "<").cps.toList = [60] := by decide +kernel
  have e2 : (Str.ofString ">").cps.toList = [62] := by decide +kernel
  simp only [List.length_cons, List.length_nil, Nat.zero_add, Nat.reduceAdd] at g0 g1 g2
  unfold fndD fndLD
  rw [g0, g1, g2]
  simp only [cond_cps, e0, e1, e2, item_cps h0 hk]
theorem stpD_eq {U : Str} {k : Int} (h0 : 0 ≤ k) (hk : k < U.length) : stpD U k = ((stpLD (U.cps.toList.drop k.toNat) : Nat) : Int) := by
  have h1 : k ≤ U.length := Int.le_of_lt hk
  have g0 := slice_has (x := U) (y := (Str.ofString "&amp;")) h0 h1 [38, 97, 109, 112, 59] (by decide +kernel)
  have g1 := slice_has (x := U) (y := (Str.ofString "&lt;")) h0 h1 [38, 108, 116, 59] (by decide +kernel)
  have g2 := slice_has (x := U) (y := (Str.ofString "&gt;")) h0 h1 [38, 103, 116, 59] (by decide +kernel)
  simp only [List.length_cons, List.length_nil, Nat.zero_add, Nat.reduceAdd] at g0 g1 g2
  unfold stpD stpLD
  rw [g0, g1, g2]
  have e1 : (1 : Int) = ((1 : Nat) : Int) := rfl
  rw [e1]
  simp only [cond_cast]
theorem fairD : Fair fndLD stpLD where
  one := by
    intro l hl
    unfold stpLD
    repeat' (first | exact Nat.le_refl _ | exact Nat.le_of_ble_eq_true rfl | refine cond_one ?_ ?_)
  most := by
    intro l hl
    have hlen : 1 ≤ l.length := by cases l with | nil => exact absurd rfl hl | cons _ _ => simp
    unfold stpLD
    repeat' (first | exact hlen | (refine cond_most (fun h => ?_) ?_; exact has_len h))
  short := by
    intro l
    unfold fndLD
    repeat' (first | exact Nat.le_refl _ | (refine cond_short ?_ ?_; exact Nat.le_refl _) | (rw [List.length_take]; exact Nat.min_le_left _ _))
def readD (U : Str) : Str := readG fndLD stpLD U
theorem rd_turnD {U p : Str} {k : Int} (h : Inv fndLD stpLD U p k) (hk : k < (U.length : Int)) : Inv fndLD stpLD U (p ++ fndD U k) (k + stpD U k) :=
  inv_turn fairD h hk (fndD_cps h.p1 hk) (stpD_eq h.p1 hk)
theorem rd_lessD {U p : Str} {k : Int} (h : Inv fndLD stpLD U p k) (hk : k < (U.length : Int)) : U.length - (k + stpD U k).toNat < U.length - k.toNat :=
  inv_less fairD h hk (stpD_eq h.p1 hk)
theorem fndLD_plain {a : Nat} (h : ¬ a = 38) (r : List Nat) : fndLD ([a] ++ r) = [a] := by
  have n0 : has [38, 97, 109, 112, 59] (a :: r) = false := has_other h
  have n1 : has [38, 108, 116, 59] (a :: r) = false := has_other h
  have n2 : has [38, 103, 116, 59] (a :: r) = false := has_other h
  show fndLD (a :: r) = [a]
  unfold fndLD
  rw [n0, n1, n2]
  rfl
theorem stpLD_plain {a : Nat} (h : ¬ a = 38) (r : List Nat) : stpLD ([a] ++ r) = 1 := by
  have n0 : has [38, 97, 109, 112, 59] (a :: r) = false := has_other h
  have n1 : has [38, 108, 116, 59] (a :: r) = false := has_other h
  have n2 : has [38, 103, 116, 59] (a :: r) = false := has_other h
  show stpLD (a :: r) = 1
  unfold stpLD
  rw [n0, n1, n2]
  rfl
def escD (t : Str) : Str := (Txt.replace (Txt.replace (Txt.replace t (Str.ofString "&") (Str.ofString "&amp;")) (Str.ofString "<") (Str.ofString "&lt;")) (Str.ofString ">") (Str.ofString "&gt;"))
def allD (l : List Nat) : List Nat := (put 62 [38, 103, 116, 59] (put 60 [38, 108, 116, 59] (put 38 [38, 97, 109, 112, 59] l)))
def pieceD (a : Nat) : List Nat := (if a = 38 then [38, 97, 109, 112, 59] else (if a = 60 then [38, 108, 116, 59] else (if a = 62 then [38, 103, 116, 59] else [a])))
theorem allD_cons (a : Nat) (l : List Nat) : allD (a :: l) = pieceD a ++ allD l := by
  unfold allD
  rw [put_cons, put_append, put_append]
  apply congrArg (· ++ _)
  unfold pieceD
  by_cases c0 : a = 38
  · subst c0; rfl
  by_cases c1 : a = 60
  · subst c1; rfl
  by_cases c2 : a = 62
  · subst c2; rfl
  simp only [put, List.flatMap_cons, List.flatMap_nil, List.append_nil, c0, c1, c2, if_false]
theorem allD_map : ∀ l : List Nat, allD l = l.flatMap pieceD
  | [] => rfl
  | a :: l => by rw [allD_cons, List.flatMap_cons, allD_map l]
theorem escD_cps (T : Str) : (escD T).cps.toList = T.cps.toList.flatMap pieceD := by
  have y0 : (Str.ofString "&") = ⟨#[38]⟩ := by decide +kernel
  have z0 : (Str.ofString "&amp;").cps.toList = [38, 97, 109, 112, 59] := by decide +kernel
  have y1 : (Str.ofString "<") = ⟨#[60]⟩ := by decide +kernel
  have z1 : (Str.ofString "&lt;").cps.toList = [38, 108, 116, 59] := by decide +kernel
  have y2 : (Str.ofString ">") = ⟨#[62]⟩ := by decide +kernel
  have z2 : (Str.ofString "&gt;").cps.toList = [38, 103, 116, 59] := by decide +kernel
  rw [← allD_map]
  unfold escD allD
  rw [y0, y1, y2, replace_put, replace_put, replace_put, z0, z1, z2]
theorem wroteD : Wrote fndLD stpLD pieceD where
  some := by
    intro a
    by_cases c0 : a = 38
    · subst c0; exact List.cons_ne_nil _ _
    by_cases c1 : a = 60
    · subst c1; exact List.cons_ne_nil _ _
    by_cases c2 : a = 62
    · subst c2; exact List.cons_ne_nil _ _
    simp only [pieceD, c0, c1, c2, if_false]; exact List.cons_ne_nil _ _
  found := by
    intro a r
    by_cases c0 : a = 38
    · subst c0; rfl
    by_cases c1 : a = 60
    · subst c1; rfl
    by_cases c2 : a = 62
    · subst c2; rfl
    simp only [pieceD, c0, c1, c2, if_false]; exact fndLD_plain c0 r
  step := by
    intro a r
    by_cases c0 : a = 38
    · subst c0; rfl
    by_cases c1 : a = 60
    · subst c1; rfl
    by_cases c2 : a = 62
    · subst c2; rfl
    simp only [pieceD, c0, c1, c2, if_false]; exact stpLD_plain c0 r
theorem pieceD_len (a : Nat) : (pieceD a).length ≤ 6 := by
  unfold pieceD
  repeat' (first | exact Nat.le_of_ble_eq_true rfl | split)
theorem escD_len (T : Str) : (escD T).length ≤ 6 * T.length := by
  rw [length_eq, escD_cps, length_eq T]
  exact map_len pieceD_len _
theorem read_D (T : Str) : readD (escD T) = T := read_wrote wroteD (escD_cps T)
theorem no1D (T : Str) : ¬ ((readD (escD T) != T) = true) := no_not (read_D T)
theorem escD_400 {T : Str} (h : T.length ≤ 63) : (escD T).length ≤ 400 := Nat.le_trans (escD_len T) (by omega)
theorem escD_grows {T : Str} {i j : Nat} (h : i ≤ j) : ((T.cps.toList.take i).flatMap pieceD).length ≤ ((T.cps.toList.take j).flatMap pieceD).length := by
  have e : T.cps.toList.take j = T.cps.toList.take i ++ (T.cps.toList.drop i).take (j - i) := by
    have e1 : j = i + (j - i) := by omega
    rw [e1, List.take_add]
    congr 2
    omega
  rw [e, List.flatMap_append, List.length_append]
  exact Nat.le_add_right _ _
theorem escD_take {T : Str} {k : Int} (h0 : 0 ≤ k) (hk : k ≤ T.length) : (escD (Txt.slice T none (some k))).length = ((T.cps.toList.take k.toNat).flatMap pieceD).length := by
  rw [length_eq, escD_cps, slice_to_cps h0 hk]
def fndV (U : Str) (k : Int) : Str := (bif Txt.slice U (some k) (some (k + ((5 : Nat) : Int))) == (Str.ofString "&#09;") then (Str.ofString "\t") else (bif Txt.slice U (some k) (some (k + ((5 : Nat) : Int))) == (Str.ofString "&#10;") then (Str.ofString "\n") else (bif Txt.slice U (some k) (some (k + ((5 : Nat) : Int))) == (Str.ofString "&#13;") then (Str.ofString "\r") else (bif Txt.slice U (some k) (some (k + ((6 : Nat) : Int))) == (Str.ofString "&quot;") then (Str.ofString "\"") else (bif Txt.slice U (some k) (some (k + ((4 : Nat) : Int))) == (Str.ofString "&gt;") then (Str.ofString ">") else (bif Txt.slice U (some k) (some (k + ((4 : Nat) : Int))) == (Str.ofString "&lt;") then (Str.ofString "<") else (bif Txt.slice U (some k) (some (k + ((5 : Nat) : Int))) == (Str.ofString "&amp;") then (Str.ofString "&") else Txt.item U k)))))))
def stpV (U : Str) (k : Int) : Int := (bif Txt.slice U (some k) (some (k + ((5 : Nat) : Int))) == (Str.ofString "&#09;") then ((5 : Nat) : Int) else (bif Txt.slice U (some k) (some (k + ((5 : Nat) : Int))) == (Str.ofString "&#10;") then ((5 : Nat) : Int) else (bif Txt.slice U (some k) (some (k + ((5 : Nat) : Int))) == (Str.ofString "&#13;") then ((5 : Nat) : Int) else (bif Txt.slice U (some k) (some (k + ((6 : Nat) : Int))) == (Str.ofString "&quot;") then ((6 : Nat) : Int) else (bif Txt.slice U (some k) (some (k + ((4 : Nat) : Int))) == (Str.ofString "&gt;") then ((4 : Nat) : Int) else (bif Txt.slice U (some k) (some (k + ((4 : Nat) : Int))) == (Str.ofString "&lt;") then ((4 : Nat) : Int) else (bif Txt.slice U (some k) (some (k + ((5 : Nat) : Int))) == (Str.ofString "&amp;") then ((5 : Nat) : Int) else 1)))))))
def fndLV (l : List Nat) : List Nat := (bif has [38, 35, 48, 57, 59] l then [9] else (bif has [38, 35, 49, 48, 59] l then [10] else (bif has [38, 35, 49, 51, 59] l then [13] else (bif has [38, 113, 117, 111, 116, 59] l then [34] else (bif has [38, 103, 116, 59] l then [62] else (bif has [38, 108, 116, 59] l then [60] else (bif has [38, 97, 109, 112, 59] l then [38] else l.take 1)))))))
def stpLV (l : List Nat) : Nat := (bif has [38, 35, 48, 57, 59] l then 5 else (bif has [38, 35, 49, 48, 59] l then 5 else (bif has [38, 35, 49, 51, 59] l then 5 else (bif has [38, 113, 117, 111, 116, 59] l then 6 else (bif has [38, 103, 116, 59] l then 4 else (bif has [38, 108, 116, 59] l then 4 else (bif has [38, 97, 109, 112, 59] l then 5 else 1)))))))
theorem fndV_cps {U : Str} {k : Int} (h0 : 0 ≤ k) (hk : k < U.length) : (fndV U k).cps.toList = fndLV (U.cps.toList.drop k.toNat) := by
  have h1 : k ≤ U.length := Int.le_of_lt hk
  have g0 := slice_has (x := U) (y := (Str.ofString "&amp;")) h0 h1 [38, 97, 109, 112, 59] (by decide +kernel)
  have g1 := slice_has (x := U) (y := (Str.ofString "&lt;")) h0 h1 [38, 108, 116, 59] (by decide +kernel)
  have g2 := slice_has (x := U) (y := (Str.ofString "&gt;")) h0 h1 [38, 103, 116, 59] (by decide +kernel)
  have g3 := slice_has (x := U) (y := (Str.ofString "&quot;")) h0 h1 [38, 113, 117, 111, 116, 59] (by decide +kernel)
  have g4 := slice_has (x := U) (y := (Str.ofString "&#13;")) h0 h1 [38, 35, 49, 51, 59] (by decide +kernel)
  have g5 := slice_has (x := U) (y := (Str.ofString "&#10;")) h0 h1 [38, 35, 49, 48, 59] (by decide +kernel)
  have g6 := slice_has (x := U) (y := (Str.ofString "&#09;")) h0 h1 [38, 35, 48, 57, 59] (by decide +kernel)
  have e0 : (Str.ofString "&").cps.toList = [38] := by decide +kernel
  have e1 : (Str.ofString "<").cps.toList = [60] := by decide +kernel
  have e2 : (Str.ofString ">").cps.toList = [62] := by decide +kernel
  have e3 : (Str.ofString "\"").cps.toList = [34] := by decide +kernel
  have e4 : (Str.ofString "\r").cps.toList = [13] := by decide +kernel
  have e5 : (Str.ofString "\n").cps.toList = [10] := by decide +kernel
  have e6 : (Str.ofString "\t").cps.toList = [9] := by decide +kernel
  simp only [List.length_cons, List.length_nil, Nat.zero_add, Nat.reduceAdd] at g0 g1 g2 g3 g4 g5 g6
  unfold fndV fndLV
  rw [g0, g1, g2, g3, g4, g5, g6]
  simp only [cond_cps, e0, e1, e2, e3, e4, e5, e6, item_cps h0 hk]
theorem stpV_eq {U : Str} {k : Int} (h0 : 0 ≤ k) (hk : k < U.length) : stpV U k = ((stpLV (U.cps.toList.drop k.toNat) : Nat) : Int) := by
  have h1 : k ≤ U.length := Int.le_of_lt hk
  have g0 := slice_has (x := U) (y := (Str.ofString "&amp;")) h0 h1 [38, 97, 109, 112, 59] (by decide +kernel)
  have g1 := slice_has (x := U) (y := (Str.ofString "&lt;")) h0 h1 [38, 108, 116, 59] (by decide +kernel)
  have g2 := slice_has (x := U) (y := (Str.ofString "&gt;")) h0 h1 [38, 103, 116, 59] (by decide +kernel)
  have g3 := slice_has (x := U) (y := (Str.ofString "&quot;")) h0 h1 [38, 113, 117, 111, 116, 59] (by decide +kernel)
  have g4 := slice_has (x := U) (y := (Str.ofString "&#13;")) h0 h1 [38, 35, 49, 51, 59] (by decide +kernel)
  have g5 := slice_has (x := U) (y := (Str.ofString "&#10;")) h0 h1 [38, 35, 49, 48, 59] (by decide +kernel)
  have g6 := slice_has (x := U) (y := (Str.ofString "&#09;")) h0 h1 [38, 35, 48, 57, 59] (by decide +kernel)
  simp only [List.length_cons, List.length_nil, Nat.zero_add, Nat.reduceAdd] at g0 g1 g2 g3 g4 g5 g6
  unfold stpV stpLV
  rw [g0, g1, g2, g3, g4, g5, g6]
  have e1 : (1 : Int) = ((1 : Nat) : Int) := rfl
  rw [e1]
  simp only [cond_cast]
theorem fairV : Fair fndLV stpLV where
  one := by
    intro l hl
    unfold stpLV
    repeat' (first | exact Nat.le_refl _ | exact Nat.le_of_ble_eq_true rfl | refine cond_one ?_ ?_)
  most := by
    intro l hl
    have hlen : 1 ≤ l.length := by cases l with | nil => exact absurd rfl hl | cons _ _ => simp
    unfold stpLV
    repeat' (first | exact hlen | (refine cond_most (fun h => ?_) ?_; exact has_len h))
  short := by
    intro l
    unfold fndLV
    repeat' (first | exact Nat.le_refl _ | (refine cond_short ?_ ?_; exact Nat.le_refl _) | (rw [List.length_take]; exact Nat.min_le_left _ _))
def readV (U : Str) : Str := readG fndLV stpLV U
theorem rd_turnV {U p : Str} {k : Int} (h : Inv fndLV stpLV U p k) (hk : k < (U.length : Int)) : Inv fndLV stpLV U (p ++ fndV U k) (k + stpV U k) :=
  inv_turn fairV h hk (fndV_cps h.p1 hk) (stpV_eq h.p1 hk)
theorem rd_lessV {U p : Str} {k : Int} (h : Inv fndLV stpLV U p k) (hk : k < (U.length : Int)) : U.length - (k + stpV U k).toNat < U.length - k.toNat :=
  inv_less fairV h hk (stpV_eq h.p1 hk)
theorem fndLV_plain {a : Nat} (h : ¬ a = 38) (r : List Nat) : fndLV ([a] ++ r) = [a] := by
  have n0 : has [38, 97, 109, 112, 59] (a :: r) = false := has_other h
  have n1 : has [38, 108, 116, 59] (a :: r) = false := has_other h
  have n2 : has [38, 103, 116, 59] (a :: r) = false := has_other h
  have n3 : has [38, 113, 117, 111, 116, 59] (a :: r) = false := has_other h
  have n4 : has [38, 35, 49, 51, 59] (a :: r) = false := has_other h
  have n5 : has [38, 35, 49, 48, 59] (a :: r) = false := has_other h
  have n6 : has [38, 35, 48, 57, 59] (a :: r) = false := has_other h
  show fndLV (a :: r) = [a]
  unfold fndLV
  rw [n0, n1, n2, n3, n4, n5, n6]
  rfl
theorem stpLV_plain {a : Nat} (h : ¬ a = 38) (r : List Nat) : stpLV ([a] ++ r) = 1 := by
  have n0 : has [38, 97, 109, 112, 59] (a :: r) = false := has_other h
  have n1 : has [38, 108, 116, 59] (a :: r) = false := has_other h
  have n2 : has [38, 103, 116, 59] (a :: r) = false := has_other h
  have n3 : has [38, 113, 117, 111, 116, 59] (a :: r) = false := has_other h
  have n4 : has [38, 35, 49, 51, 59] (a :: r) = false := has_other h
  have n5 : has [38, 35, 49, 48, 59] (a :: r) = false := has_other h
  have n6 : has [38, 35, 48, 57, 59] (a :: r) = false := has_other h
  show stpLV (a :: r) = 1
  unfold stpLV
  rw [n0, n1, n2, n3, n4, n5, n6]
  rfl
def escV (t : Str) : Str := (Txt.replace (Txt.replace (Txt.replace (Txt.replace (Txt.replace (Txt.replace (Txt.replace t (Str.ofString "&") (Str.ofString "&amp;")) (Str.ofString "<") (Str.ofString "&lt;")) (Str.ofString ">") (Str.ofString "&gt;")) (Str.ofString "\"") (Str.ofString "&quot;")) (Str.ofString "\r") (Str.ofString "&#13;")) (Str.ofString "\n") (Str.ofString "&#10;")) (Str.ofString "\t") (Str.ofString "&#09;"))
def allV (l : List Nat) : List Nat := (put 9 [38, 35, 48, 57, 59] (put 10 [38, 35, 49, 48, 59] (put 13 [38, 35, 49, 51, 59] (put 34 [38, 113, 117, 111, 116, 59] (put 62 [38, 103, 116, 59] (put 60 [38, 108, 116, 59] (put 38 [38, 97, 109, 112, 59] l)))))))
def pieceV (a : Nat) : List Nat := (if a = 38 then [38, 97, 109, 112, 59] else (if a = 60 then [38, 108, 116, 59] else (if a = 62 then [38, 103, 116, 59] else (if a = 34 then [38, 113, 117, 111, 116, 59] else (if a = 13 then [38, 35, 49, 51, 59] else (if a = 10 then [38, 35, 49, 48, 59] else (if a = 9 then [38, 35, 48, 57, 59] else [a])))))))
theorem allV_cons (a : Nat) (l : List Nat) : allV (a :: l) = pieceV a ++ allV l := by
  unfold allV
  rw [put_cons, put_append, put_append, put_append, put_append, put_append, put_append]
  apply congrArg (· ++ _)
  unfold pieceV
  by_cases c0 : a = 38
  · subst c0; rfl
  by_cases c1 : a = 60
  · subst c1; rfl
  by_cases c2 : a = 62
  · subst c2; rfl
  by_cases c3 : a = 34
  · subst c3; rfl
  by_cases c4 : a = 13
  · subst c4; rfl
  by_cases c5 : a = 10
  · subst c5; rfl
  by_cases c6 : a = 9
  · subst c6; rfl
  simp only [put, List.flatMap_cons, List.flatMap_nil, List.append_nil, c0, c1, c2, c3, c4, c5, c6, if_false]
theorem allV_map : ∀ l : List Nat, allV l = l.flatMap pieceV
  | [] => rfl
  | a :: l => by rw [allV_cons, List.flatMap_cons, allV_map l]
theorem escV_cps (T : Str) : (escV T).cps.toList = T.cps.toList.flatMap pieceV := by
  have y0 : (Str.ofString "&") = ⟨#[38]⟩ := by decide +kernel
  have z0 : (Str.ofString "&amp;").cps.toList = [38, 97, 109, 112, 59] := by decide +kernel
  have y1 : (Str.ofString "<") = ⟨#[60]⟩ := by decide +kernel
  have z1 : (Str.ofString "&lt;").cps.toList = [38, 108, 116, 59] := by decide +kernel
  have y2 : (Str.ofString ">") = ⟨#[62]⟩ := by decide +kernel
  have z2 : (Str.ofString "&gt;").cps.toList = [38, 103, 116, 59] := by decide +kernel
  have y3 : (Str.ofString "\"") = ⟨#[34]⟩ := by decide +kernel
  have z3 : (Str.ofString "&quot;").cps.toList = [38, 113, 117, 111, 116, 59] := by decide +kernel
  have y4 : (Str.ofString "\r") = ⟨#[13]⟩ := by decide +kernel
  have z4 : (Str.ofString "&#13;").cps.toList = [38, 35, 49, 51, 59] := by decide +kernel
  have y5 : (Str.ofString "\n") = ⟨#[10]⟩ := by decide +kernel
  have z5 : (Str.ofString "&#10;").cps.toList = [38, 35, 49, 48, 59] := by decide +kernel
  have y6 : (Str.ofString "\t") = ⟨#[9]⟩ := by decide +kernel
  have z6 : (Str.ofString "&#09;").cps.toList = [38, 35, 48, 57, 59] := by decide +kernel
  rw [← allV_map]
  unfold escV allV
  rw [y0, y1, y2, y3, y4, y5, y6, replace_put, replace_put, replace_put, replace_put, replace_put, replace_put, replace_put, z0, z1, z2, z3, z4, z5, z6]
theorem wroteV : Wrote fndLV stpLV pieceV where
  some := by
    intro a
    by_cases c0 : a = 38
    · subst c0; exact List.cons_ne_nil _ _
    by_cases c1 : a = 60
    · subst c1; exact List.cons_ne_nil _ _
    by_cases c2 : a = 62
    · subst c2; exact List.cons_ne_nil _ _
    by_cases c3 : a = 34
    · subst c3; exact List.cons_ne_nil _ _
    by_cases c4 : a = 13
    · subst c4; exact List.cons_ne_nil _ _
    by_cases c5 : a = 10
    · subst c5; exact List.cons_ne_nil _ _
    by_cases c6 : a = 9
    · subst c6; exact List.cons_ne_nil _ _
    simp only [pieceV, c0, c1, c2, c3, c4, c5, c6, if_false]; exact List.cons_ne_nil _ _
  found := by
    intro a r
    by_cases c0 : a = 38
    · subst c0; rfl
    by_cases c1 : a = 60
    · subst c1; rfl
    by_cases c2 : a = 62
    · subst c2; rfl
    by_cases c3 : a = 34
    · subst c3; rfl
    by_cases c4 : a = 13
    · subst c4; rfl
    by_cases c5 : a = 10
    · subst c5; rfl
    by_cases c6 : a = 9
    · subst c6; rfl
    simp only [pieceV, c0, c1, c2, c3, c4, c5, c6, if_false]; exact fndLV_plain c0 r
  step := by
    intro a r
    by_cases c0 : a = 38
    · subst c0; rfl
    by_cases c1 : a = 60
    · subst c1; rfl
    by_cases c2 : a = 62
    · subst c2; rfl
    by_cases c3 : a = 34
    · subst c3; rfl
    by_cases c4 : a = 13
    · subst c4; rfl
    by_cases c5 : a = 10
    · subst c5; rfl
    by_cases c6 : a = 9
    · subst c6; rfl
    simp only [pieceV, c0, c1, c2, c3, c4, c5, c6, if_false]; exact stpLV_plain c0 r
theorem pieceV_len (a : Nat) : (pieceV a).length ≤ 6 := by
  unfold pieceV
  repeat' (first | exact Nat.le_of_ble_eq_true rfl | split)
theorem escV_len (T : Str) : (escV T).length ≤ 6 * T.length := by
  rw [length_eq, escV_cps, length_eq T]
  exact map_len pieceV_len _
theorem read_V (T : Str) : readV (escV T) = T := read_wrote wroteV (escV_cps T)
theorem no1V (T : Str) : ¬ ((readV (escV T) != T) = true) := no_not (read_V T)
theorem escV_400 {T : Str} (h : T.length ≤ 63) : (escV T).length ≤ 400 := Nat.le_trans (escV_len T) (by omega)
theorem escV_grows {T : Str} {i j : Nat} (h : i ≤ j) : ((T.cps.toList.take i).flatMap pieceV).length ≤ ((T.cps.toList.take j).flatMap pieceV).length := by
  have e : T.cps.toList.take j = T.cps.toList.take i ++ (T.cps.toList.drop i).take (j - i) := by
    have e1 : j = i + (j - i) := by omega
    rw [e1, List.take_add]
    congr 2
    omega
  rw [e, List.flatMap_append, List.length_append]
  exact Nat.le_add_right _ _
theorem escV_take {T : Str} {k : Int} (h0 : 0 ≤ k) (hk : k ≤ T.length) : (escV (Txt.slice T none (some k))).length = ((T.cps.toList.take k.toNat).flatMap pieceV).length := by
  rw [length_eq, escV_cps, slice_to_cps h0 hk]
def fndH (U : Str) (k : Int) : Str := (bif Txt.slice U (some k) (some (k + ((6 : Nat) : Int))) == (Str.ofString "&quot;") then (Str.ofString "\"") else (bif Txt.slice U (some k) (some (k + ((4 : Nat) : Int))) == (Str.ofString "&gt;") then (Str.ofString ">") else (bif Txt.slice U (some k) (some (k + ((5 : Nat) : Int))) == (Str.ofString "&amp;") then (Str.ofString "&") else Txt.item U k)))
def stpH (U : Str) (k : Int) : Int := (bif Txt.slice U (some k) (some (k + ((6 : Nat) : Int))) == (Str.ofString "&quot;") then ((6 : Nat) : Int) else (bif Txt.slice U (some k) (some (k + ((4 : Nat) : Int))) == (Str.ofString "&gt;") then ((4 : Nat) : Int) else (bif Txt.slice U (some k) (some (k + ((5 : Nat) : Int))) == (Str.ofString "&amp;") then ((5 : Nat) : Int) else 1)))
def fndLH (l : List Nat) : List Nat := (bif has [38, 113, 117, 111, 116, 59] l then [34] else (bif has [38, 103, 116, 59] l then [62] else (bif has [38, 97, 109, 112, 59] l then [38] else l.take 1)))
def stpLH (l : List Nat) : Nat := (bif has [38, 113, 117, 111, 116, 59] l then 6 else (bif has [38, 103, 116, 59] l then 4 else (bif has [38, 97, 109, 112, 59] l then 5 else 1)))
theorem fndH_cps {U : Str} {k : Int} (h0 : 0 ≤ k) (hk : k < U.length) : (fndH U k).cps.toList = fndLH (U.cps.toList.drop k.toNat) := by
  have h1 : k ≤ U.length := Int.le_of_lt hk
  have g0 := slice_has (x := U) (y := (Str.ofString "&amp;")) h0 h1 [38, 97, 109, 112, 59] (by decide +kernel)
  have g1 := slice_has (x := U) (y := (Str.ofString "&gt;")) h0 h1 [38, 103, 116, 59] (by decide +kernel)
  have g2 := slice_has (x := U) (y := (Str.ofString "&quot;")) h0 h1 [38, 113, 117, 111, 116, 59] (by decide +kernel)
  have e0 : (Str.ofString "&").cps.toList = [38] := by decide +kernel
  have e1 : (Str.ofString ">").cps.toList = [62] := by decide +kernel
  have e2 : (Str.ofString "\"").cps.toList = [34] := by decide +kernel
  simp only [List.length_cons, List.length_nil, Nat.zero_add, Nat.reduceAdd] at g0 g1 g2
  unfold fndH fndLH
  rw [g0, g1, g2]
  simp only [cond_cps, e0, e1, e2, item_cps h0 hk]
theorem stpH_eq {U : Str} {k : Int} (h0 : 0 ≤ k) (hk : k < U.length) : stpH U k = ((stpLH (U.cps.toList.drop k.toNat) : Nat) : Int) := by
  have h1 : k ≤ U.length := Int.le_of_lt hk
  have g0 := slice_has (x := U) (y := (Str.ofString "&amp;")) h0 h1 [38, 97, 109, 112, 59] (by decide +kernel)
  have g1 := slice_has (x := U) (y := (Str.ofString "&gt;")) h0 h1 [38, 103, 116, 59] (by decide +kernel)
  have g2 := slice_has (x := U) (y := (Str.ofString "&quot;")) h0 h1 [38, 113, 117, 111, 116, 59] (by decide +kernel)
  simp only [List.length_cons, List.length_nil, Nat.zero_add, Nat.reduceAdd] at g0 g1 g2
  unfold stpH stpLH
  rw [g0, g1, g2]
  have e1 : (1 : Int) = ((1 : Nat) : Int) := rfl
  rw [e1]
  simp only [cond_cast]
theorem fairH : Fair fndLH stpLH where
  one := by
    intro l hl
    unfold stpLH
    repeat' (first | exact Nat.le_refl _ | exact Nat.le_of_ble_eq_true rfl | refine cond_one ?_ ?_)
  most := by
    intro l hl
    have hlen : 1 ≤ l.length := by cases l with | nil => exact absurd rfl hl | cons _ _ => simp
    unfold stpLH
    repeat' (first | exact hlen | (refine cond_most (fun h => ?_) ?_; exact has_len h))
  short := by
    intro l
    unfold fndLH
    repeat' (first | exact Nat.le_refl _ | (refine cond_short ?_ ?_; exact Nat.le_refl _) | (rw [List.length_take]; exact Nat.min_le_left _ _))
def readH (U : Str) : Str := readG fndLH stpLH U
theorem rd_turnH {U p : Str} {k : Int} (h : Inv fndLH stpLH U p k) (hk : k < (U.length : Int)) : Inv fndLH stpLH U (p ++ fndH U k) (k + stpH U k) :=
  inv_turn fairH h hk (fndH_cps h.p1 hk) (stpH_eq h.p1 hk)
theorem rd_lessH {U p : Str} {k : Int} (h : Inv fndLH stpLH U p k) (hk : k < (U.length : Int)) : U.length - (k + stpH U k).toNat < U.length - k.toNat :=
  inv_less fairH h hk (stpH_eq h.p1 hk)
theorem fndLH_plain {a : Nat} (h : ¬ a = 38) (r : List Nat) : fndLH ([a] ++ r) = [a] := by
  have n0 : has [38, 97, 109, 112, 59] (a :: r) = false := has_other h
  have n1 : has [38, 103, 116, 59] (a :: r) = false := has_other h
  have n2 : has [38, 113, 117, 111, 116, 59] (a :: r) = false := has_other h
  show fndLH (a :: r) = [a]
  unfold fndLH
  rw [n0, n1, n2]
  rfl
theorem stpLH_plain {a : Nat} (h : ¬ a = 38) (r : List Nat) : stpLH ([a] ++ r) = 1 := by
  have n0 : has [38, 97, 109, 112, 59] (a :: r) = false := has_other h
  have n1 : has [38, 103, 116, 59] (a :: r) = false := has_other h
  have n2 : has [38, 113, 117, 111, 116, 59] (a :: r) = false := has_other h
  show stpLH (a :: r) = 1
  unfold stpLH
  rw [n0, n1, n2]
  rfl
def escH (t : Str) : Str := (Txt.replace (Txt.replace (Txt.replace t (Str.ofString "&") (Str.ofString "&amp;")) (Str.ofString ">") (Str.ofString "&gt;")) (Str.ofString "\"") (Str.ofString "&quot;"))
def allH (l : List Nat) : List Nat := (put 34 [38, 113, 117, 111, 116, 59] (put 62 [38, 103, 116, 59] (put 38 [38, 97, 109, 112, 59] l)))
def pieceH (a : Nat) : List Nat := (if a = 38 then [38, 97, 109, 112, 59] else (if a = 62 then [38, 103, 116, 59] else (if a = 34 then [38, 113, 117, 111, 116, 59] else [a])))
theorem allH_cons (a : Nat) (l : List Nat) : allH (a :: l) = pieceH a ++ allH l := by
  unfold allH
  rw [put_cons, put_append, put_append]
  apply congrArg (· ++ _)
  unfold pieceH
  by_cases c0 : a = 38
  · subst c0; rfl
  by_cases c1 : a = 62
  · subst c1; rfl
  by_cases c2 : a = 34
  · subst c2; rfl
  simp only [put, List.flatMap_cons, List.flatMap_nil, List.append_nil, c0, c1, c2, if_false]
theorem allH_map : ∀ l : List Nat, allH l = l.flatMap pieceH
  | [] => rfl
  | a :: l => by rw [allH_cons, List.flatMap_cons, allH_map l]
theorem escH_cps (T : Str) : (escH T).cps.toList = T.cps.toList.flatMap pieceH := by
  have y0 : (Str.ofString "&") = ⟨#[38]⟩ := by decide +kernel
  have z0 : (Str.ofString "&amp;").cps.toList = [38, 97, 109, 112, 59] := by decide +kernel
  have y1 : (Str.ofString ">") = ⟨#[62]⟩ := by decide +kernel
  have z1 : (Str.ofString "&gt;").cps.toList = [38, 103, 116, 59] := by decide +kernel
  have y2 : (Str.ofString "\"") = ⟨#[34]⟩ := by decide +kernel
  have z2 : (Str.ofString "&quot;").cps.toList = [38, 113, 117, 111, 116, 59] := by decide +kernel
  rw [← allH_map]
  unfold escH allH
  rw [y0, y1, y2, replace_put, replace_put, replace_put, z0, z1, z2]
theorem wroteH : Wrote fndLH stpLH pieceH where
  some := by
    intro a
    by_cases c0 : a = 38
    · subst c0; exact List.cons_ne_nil _ _
    by_cases c1 : a = 62
    · subst c1; exact List.cons_ne_nil _ _
    by_cases c2 : a = 34
    · subst c2; exact List.cons_ne_nil _ _
    simp only [pieceH, c0, c1, c2, if_false]; exact List.cons_ne_nil _ _
  found := by
    intro a r
    by_cases c0 : a = 38
    · subst c0; rfl
    by_cases c1 : a = 62
    · subst c1; rfl
    by_cases c2 : a = 34
    · subst c2; rfl
    simp only [pieceH, c0, c1, c2, if_false]; exact fndLH_plain c0 r
  step := by
    intro a r
    by_cases c0 : a = 38
    · subst c0; rfl
    by_cases c1 : a = 62
    · subst c1; rfl
    by_cases c2 : a = 34
    · subst c2; rfl
    simp only [pieceH, c0, c1, c2, if_false]; exact stpLH_plain c0 r
theorem pieceH_len (a : Nat) : (pieceH a).length ≤ 6 := by
  unfold pieceH
  repeat' (first | exact Nat.le_of_ble_eq_true rfl | split)
theorem escH_len (T : Str) : (escH T).length ≤ 6 * T.length := by
  rw [length_eq, escH_cps, length_eq T]
  exact map_len pieceH_len _
theorem read_H (T : Str) : readH (escH T) = T := read_wrote wroteH (escH_cps T)
theorem no1H (T : Str) : ¬ ((readH (escH T) != T) = true) := no_not (read_H T)
theorem escH_400 {T : Str} (h : T.length ≤ 63) : (escH T).length ≤ 400 := Nat.le_trans (escH_len T) (by omega)
theorem escH_grows {T : Str} {i j : Nat} (h : i ≤ j) : ((T.cps.toList.take i).flatMap pieceH).length ≤ ((T.cps.toList.take j).flatMap pieceH).length := by
  have e : T.cps.toList.take j = T.cps.toList.take i ++ (T.cps.toList.drop i).take (j - i) := by
    have e1 : j = i + (j - i) := by omega
    rw [e1, List.take_add]
    congr 2
    omega
  rw [e, List.flatMap_append, List.length_append]
  exact Nat.le_add_right _ _
theorem escH_take {T : Str} {k : Int} (h0 : 0 ≤ k) (hk : k ≤ T.length) : (escH (Txt.slice T none (some k))).length = ((T.cps.toList.take k.toNat).flatMap pieceH).length := by
  rw [length_eq, escH_cps, slice_to_cps h0 hk]
end Esc01
end
section
open PySem PySem.W PyProof.Rows
namespace Esc

/-! ## a dict merged into another one that bears none of its keys -/

/-- a loop over the indices from i on whose turns each go on and climb one step of P -/
theorem climb {M : Model} {A : Around} {E : Value → Shared → Prop} {top : Nat} {P : Nat → Shared → Prop} {f : Nat → PUnit → Sem (ForInStep PUnit)}
    (turn : ∀ i s b, i < top → P i s → wpAny M A (f i b) (fun r t => r = .yield ⟨⟩ ∧ P (i + 1) t) E s) :
    ∀ (left i : Nat) (s : Shared) (b : PUnit), i + left = top → P i s → wpAny M A (forIn (List.range' i left) b f) (fun _ t => P top t) E s := by
  intro left
  induction left with
  | zero => intro i s b e p; exact wpAny_pure (by rw [← e]; exact p)
  | succ left ih =>
    intro i s b e p
    rw [List.range'_succ, List.forIn_cons]
    refine wpAny_bind (wpAny_mono (turn i s b (by omega) p) ?_ fun _ _ x => x)
    rintro _ t ⟨rfl, q⟩
    exact ih (i + 1) t ⟨⟩ (by omega) q

/-- a loop whose turns do nothing -/
theorem idle {α : Type} {f : α → PUnit → Sem (ForInStep PUnit)} : ∀ (l : List α), (∀ x ∈ l, ∀ b, f x b = pure (.yield ⟨⟩)) → forIn l PUnit.unit f = pure PUnit.unit
  | [], _ => rfl
  | x :: l, h => by
    rw [List.forIn_cons, h x (by simp), pure_bind]
    exact idle l fun y m => h y (List.mem_cons_of_mem _ m)

section
variable {prog : Program} {w : World} {K : Type} [DecidableEq K] {knd : KeyKind prog w K} {A : Around} {E : Value → Shared → Prop} {s : Shared}

/-- a key that is not there yet goes to the end -/
theorem put_fresh {d : Addr} {old : List (K × Value)} {k : K} {key val : Value} {Q : Unit → Shared → Prop} (is : knd.is k key = true)
    (at_d : s.heap.DictOf knd d old) (new : k ∉ old.map Prod.fst) (fit : old.length ≤ sizeLine)
    (next : ∀ h, h.DictOf knd d (old ++ [(k, val)]) → Heap.SameBut d s.heap h → Q () { s with heap := h }) :
    wpAny (model prog w) A (dictPut d (knd.hash k) key val) Q E s := by
  obtain ⟨obj, ent, n, found, plain, data, keys, prs, once⟩ := at_d
  have absent : (ent.findIdx? fun e => knd.is k e.key) = none := by
    have none_old : (ent.toList.findIdx? fun e => knd.is k e.key) = none := by
      rw [prs.findIdx k, List.findIdx?_eq_none_iff]
      intro p mem
      exact decide_eq_false fun e => new (e ▸ List.mem_map_of_mem mem)
    rwa [← List.findIdx?_toArray, Array.toArray_toList] at none_old
  have room : ent.size ≤ sizeLine := by rw [← Array.length_toList, prs.length]; exact fit
  unfold dictPut
  apply wpAny_bind
  apply wpAny_dictFind_of is found data keys
  rw [absent]
  refine wpAny_updateDictKeys found data ?_ room
  have data' := Obj.data_mapDictKeys data fun a => a.push ⟨knd.hash k, key, val⟩
  refine next _ ⟨_, _, _, Heap.get?_update_self _ found (Obj.isFreed_of_dict data'), plain.mapDictKeys _, data', keys.push is val, ?_, ?_⟩ (Heap.SameBut.update ..)
  · rw [Array.toList_push]; exact prs.append is _ val
  · have both : ((old ++ [(k, val)]).map Prod.fst) = old.map Prod.fst ++ [k] := by simp
    rw [both]
    exact List.nodup_append.mpr ⟨once, by simp, fun a ma b mb e => new (by rw [← List.mem_singleton.mp mb, ← e]; exact ma)⟩

theorem merge_fresh {d o : Addr} {old more : List (K × Value)} {Q : Unit → Shared → Prop} (apart : d ≠ o) (lo : (o == sysModules) = false)
    (at_d : s.heap.DictOf knd d old) (at_o : s.heap.DictOf knd o more) (new : ((old ++ more).map Prod.fst).Nodup) (fit : old.length + more.length ≤ sizeLine)
    (next : ∀ h, h.DictOf knd d (old ++ more) → Heap.SameBut d s.heap h → Q () { s with heap := h }) :
    wpAny (model prog w) A (mergeMapping d (.ref o) false) Q E s := by
  have ty := at_o.typeIs
  obtain ⟨od, entd, nd, foundd, _, datad, _⟩ := id at_d
  obtain ⟨oo, ent, n, found, _, data, keys, prs, _⟩ := at_o
  have size : ent.size = more.length := by rw [← Array.length_toList, prs.length]
  unfold mergeMapping
  apply wpAny_bind
  apply wpAny_isInstance ty isSubtype_dict_dict
  simp only [if_true]
  apply wpAny_bind
  apply wpAny_specialOf ty F.slot_dict_iter.lookup
  apply wpAny_bind
  apply wpAny_pure
  simp only [beq_self_eq_true, lo, Bool.false_eq_true, if_false]
  apply wpAny_bind
  apply wpAny_dictEntries foundd datad
  split
  case' isTrue =>
    apply wpAny_bind
    apply wpAny_dictEntries found data
    apply wpAny_bind
    rw [← Array.forIn_toList]
    refine wpAny_of_eq (idle _ fun e mem b => ?same) ?_
    case same =>
      obtain ⟨k, is, _⟩ := keys e (Array.mem_toList_iff.mp mem)
      have by_value := knd.byValue k _ is
      revert by_value
      cases e.key <;> first | (intro; rfl) | (intro x; exact Bool.noConfusion x)
  all_goals
    apply wpAny_bind
    apply wpAny_dictEntries found data
    apply wpAny_bind
    apply wpAny_dictEpoch found data
    rw [List.range_eq_range']
    apply wpAny_bind
    refine wpAny_mono (climb (top := ent.size) (P := fun i t => ∃ h, t = { s with heap := h } ∧ h.DictOf knd d (old ++ more.take i) ∧ Heap.SameBut d s.heap h)
      ?turn ent.size 0 s _ (Nat.zero_add _) ⟨s.heap, rfl, by simpa using at_d, Heap.SameBut.refl _ _⟩) ?last fun _ _ x => x
    case last =>
      rintro _ _ ⟨h, rfl, has, same⟩
      rw [size, List.take_length] at has
      exact wpAny_pure (next h has same)
    case turn =>
      rintro i _ b lt ⟨h, rfl, has, same⟩
      have here : h.get? o = some oo := by rw [same.2 o (Ne.symm apart)]; exact found
      have lt' : i < more.length := by omega
      have parts : old ++ more = old ++ more.take i ++ (more[i] :: more.drop (i + 1)) := by
        rw [List.append_assoc, ← List.drop_eq_getElem_cons, List.take_append_drop]
      obtain ⟨is, val⟩ := prs.get? (i := i) (e := ent[i]) (k := more[i].1) (v := more[i].2) (by simp [lt]) (by simp [lt'])
      have hash : ent[i].hash = knd.hash more[i].1 := by
        obtain ⟨k, is', e⟩ := keys ent[i] (Array.getElem_mem lt)
        rw [e, knd.inj _ _ _ is' is]
      apply wpAny_bind
      apply wpAny_dictEntries here data
      rw [Array.getElem?_eq_getElem lt]
      dsimp only
      apply wpAny_bind
      apply wpAny_holding
      rw [hash, val]
      refine put_fresh is has ?_ ?_ ?_
      · intro mem
        rw [parts, List.map_append] at new
        exact (List.nodup_append.mp new).2.2 _ mem _ (List.mem_map_of_mem (List.mem_cons_self ..)) rfl
      · have := List.length_take_le i more
        rw [List.length_append]; omega
      · intro h' has' same'
        apply wpAny_bind
        apply wpAny_dictEpoch (by rw [same'.2 o (Ne.symm apart)]; exact here) data
        rw [if_neg (by simp)]
        refine wpAny_pure ⟨rfl, h', rfl, ?_, same.trans same'⟩
        rw [List.take_succ_eq_append_getElem lt', ← List.append_assoc]
        exact has'
end
end Esc
end
section
open PySem PySem.W PyProof.Rows
namespace Esc
section
variable {prog : Program} {w : World} {K : Type} [DecidableEq K] {knd : KeyKind prog w K} {A : Around} {E : Value → Shared → Prop} {s : Shared}
/-- the display's loop behind a starred part: it only gathers the written pairs -/
theorem gather_on {β : Type} (d : β) (f : (Option (Sem Value) × Sem Value) → (Option β × List (Sem Value × Sem Value)) → Sem (ForInStep (Option β × List (Sem Value × Sem Value))))
    (one : ∀ (p : Sem Value × Sem Value) (run : List (Sem Value × Sem Value)), run.length < 16 → f (some p.1, p.2) (some d, run) = pure (.yield (some d, run ++ [p])))
    (items : List (Sem Value × Sem Value)) : ∀ run : List (Sem Value × Sem Value), run.length + items.length ≤ 16 →
      forIn (items.map fun p => (some p.1, p.2)) (some d, run) f = pure (some d, run ++ items) := by
  induction items with
  | nil => intro run _; rw [List.append_nil]; rfl
  | cons p items ih =>
    intro run room
    have room' : run.length + (items.length + 1) ≤ 16 := room
    have longer : (run ++ [p]).length = run.length + 1 := List.length_append
    rw [List.map_cons, List.forIn_cons, one p run (by omega)]
    refine Eq.trans (ih (run ++ [p]) (by omega)) ?_
    rw [List.append_assoc, List.singleton_append]

theorem display_star {v : Sem Value} {pairs : List (Sem Value × Sem Value)} {Q : Value → Shared → Prop} (h0 : pairs ≠ []) (hlen : pairs.length ≤ 15)
    (h : wpAny (model prog w) A v (fun m s₁ => wpAny (model prog w) A (mergeMapping s.heap.objs.size m false) (fun _ s₂ => wpAny (model prog w) A (subDict pairs) (fun sub s₃ =>
      wpAny (model prog w) A (mergeMapping s.heap.objs.size (.ref sub) false) (fun _ s₄ => Q (.ref s.heap.objs.size) s₄) (fun _ _ => False) s₃) E s₂) (fun _ _ => False) s₁) E
      { s with heap := s.heap.push { cls := .type "dict", data := .dict #[] } }) :
    wpAny (model prog w) A (dictDisplay ((none, v) :: pairs.map fun p => (some p.1, p.2))) Q E s := by
  unfold dictDisplay
  dsimp only
  rw [List.forIn_cons]
  dsimp only [List.isEmpty_nil]
  refine wpAny_bind (wpAny_bind (wpAny_bind ?_))
  rw [if_pos rfl]
  refine wpAny_pure ?_
  show wpAny _ _ (alloc _ >>= _) _ _ _
  refine wpAny_bind (wpAny_alloc ?_)
  refine wpAny_bind (wpAny_holding (wpAny_mono h (fun m s₁ h₁ => ?_) fun _ _ e => e))
  refine wpAny_bind (wpAny_onRaise (wpAny_tryCatch (wpAny_onRaise (wpAny_holding (wpAny_mono h₁ (fun _ s₂ h₂ => ?_) fun _ _ e => e.elim)))))
  refine wpAny_pure ?_
  show wpAny _ _ (forIn _ _ _) _ _ _
  refine wpAny_of_eq (gather_on _ _ (fun p run h => ?_) pairs [] (by simp only [List.length_nil]; omega)) ?_
  · have hne : ((run ++ [(p.1, p.2)]).length == 17) = false := by simp; omega
    simp only [hne, Bool.false_eq_true, if_false]
  rw [List.nil_append]
  dsimp only
  refine wpAny_bind ?_
  rw [if_neg (by simpa using h0)]
  skip
  refine wpAny_bind (wpAny_holding (wpAny_mono h₂ (fun sub s₃ h₃ => ?_) fun _ _ e => e))
  refine wpAny_bind (wpAny_onRaise (wpAny_holding (wpAny_mono h₃ (fun _ s₄ h₄ => ?_) fun _ _ e => e.elim)))
  exact wpAny_pure (wpAny_pure h₄)
end
end Esc
end
section
open PySem PySem.W PyProof.Rows
namespace Esc
theorem fr_same {h₀ h h' : Heap} {L d : Addr} {m : Str → Option Value} (F : Fr h₀ L h m) (hs : Heap.SameBut d h h') (hL : d ≠ L) (hn : h₀.get? d = none) : Fr h₀ L h' m :=
  ⟨F.ns.sameBut hs (Ne.symm hL), fun b x hb => (hs.2 b (fun e => by subst e; rw [hn] at hb; cases hb)).trans (F.keep b x hb), F.above⟩
theorem news_same {h₀ h h' : Heap} {L d : Addr} {o : Obj} {news : List (Addr × Obj)} (N : News h₀ L h news) (hs : Heap.SameBut d h h') (hap : ∀ p ∈ news, p.1 ≠ d) (hL : d ≠ L) (hn : h₀.get? d = none) (ho : h'.get? d = some o) : News h₀ L h' ((d, o) :: news) := by
  intro p hp
  rcases List.mem_cons.mp hp with rfl | hp
  · exact ⟨ho, hL, hn⟩
  · exact ⟨(hs.2 _ (hap p hp)).trans (N p hp).1, (N p hp).2.1, (N p hp).2.2⟩
theorem keys_len : ∀ D : List (PyData × PyData), (strKeysOf D).length ≤ D.length
  | [] => Nat.le_refl _
  | (a, b) :: r => by
    have := keys_len r
    cases a <;> first | (simp only [strKeysOf, List.length_cons, List.length_nil]; omega)
section
variable {prog : Program} {w : World} {A : Around} {E : Value → Shared → Prop} {s : Shared} {env : Env} {h₀ : Heap} {L : Addr} {m : Str → Option Value} {news : List (Addr × Obj)}
theorem dict_star {da : Addr} {oa : Obj} {kvs : List (Str × Value)} {keys : List (Option Expr)} {values : List Expr} {e0 : Expr} {D : List (PyData × PyData)} {pos : Pos} {Q : Value → Shared → Prop}
    (F : Fr h₀ L s.heap m) (N : News h₀ L s.heap news) (hbig : sysModules < h₀.objs.size)
    (hm : (da, oa) ∈ news) (lo : (da == sysModules) = false) (hda : oa.IsDictOf (PySem.strKind prog w) kvs)
    (hall : keys.all (·.isSome) = true) (hl : keys.length = values.length) (h0 : keys ≠ []) (hlen : keys.length ≤ 15) (hkl : kvs.length ≤ 100)
    (hD : litPairs keys values = some D) (hs : strKeyed D = true) (hDl : D.length ≤ 100) (hnd : (kvs.map (·.1) ++ strKeysOf D).Nodup)
    (he : ∀ (h : Heap) (Q' : Value → Shared → Prop), Fr h₀ L h m → Q' (.ref da) { s with heap := h } → wpAny (model prog w) A (eval e0 env) Q' E { s with heap := h })
    (hq : ∀ (d : Addr) (h' : Heap) (o : Obj) (vs : List (Value × Value)) (tk : Nat), Fr h₀ L h' m → News h₀ L h' ((d, o) :: news) → (∀ p ∈ news, p.1 < d) → (d == sysModules) = false → ReadAs vs D → o.IsDictOf (PySem.strKind prog w) (kvs ++ strPairs vs) →
      Q (.ref d) { s with heap := h', toks := tk }) :
    wpAny (model prog w) A (eval (.Dict (none :: keys) (e0 :: values) pos) env) Q E s := by
  have hn := pairTrees_length keys values env pos hall hl
  rw [arm_eval_Dict]
  refine wpAny_bind (wpAny_standAt ?_)
  have shape : (evalEachOpt (none :: keys) env).zip ((evalEach (e0 :: values) env).map fun v => do let x ← v; standAt pos; pure x)
      = (none, (do let x ← eval e0 env; standAt pos; pure x)) :: (pairTrees keys values env pos).map fun p => (some p.1, p.2) := by
    rw [← zip_pairTrees keys values env pos hall hl]
    rfl
  rw [shape]
  refine display_star (by intro e; rw [e] at hn; exact h0 (List.length_eq_zero_iff.mp hn.symm)) (by rw [hn]; exact hlen) ?_
  refine wpAny_bind (he _ _ (F.push _) ?_)
  refine wpAny_bind (wpAny_standAt (wpAny_pure ?_))
  have hdne : s.heap.objs.size ≠ da := fun e => absurd (Heap.lt_size (N _ hm).1) (by rw [← e]; exact Nat.lt_irrefl _)
  have hnone : h₀.get? s.heap.objs.size = none := by
    cases hq' : h₀.get? s.heap.objs.size with
    | none => rfl
    | some o' => exact absurd (Heap.lt_size (F.keep _ _ hq')) (Nat.lt_irrefl _)
  have hdL : s.heap.objs.size ≠ L := Nat.ne_of_gt F.ns.lt
  obtain ⟨es, ep, r⟩ := id hda
  have hnodup : (kvs.map (·.1)).Nodup := r.2.2.2.2
  refine merge_fresh (knd := PySem.strKind prog w) (old := []) (more := kvs) hdne lo (Heap.DictOf.new _) (Heap.dictOf_iff.mpr ⟨oa, Heap.get?_push_of_some _ (N _ hm).1, hda⟩)
    (by rw [List.nil_append]; exact hnodup) (by rw [sizeLine_eq, List.length_nil]; omega) (fun h2 hd2 sb2 => ?_)
  rw [List.nil_append] at hd2
  have F2 : Fr h₀ L h2 m := F.filled sb2
  obtain ⟨o2, ho2, hio2⟩ := Heap.dictOf_iff.mp hd2
  have N2 := N.filled F sb2 ho2
  refine wpAny_subDict (knd := PySem.strKind prog w) (by rw [hn]; exact hlen) (evalPairs_lits keys values D _ _ hD fun vs tk hr => ?_)
  obtain ⟨q1, q2, q3⟩ := hr.str hs
  refine ⟨strPairs vs, carries_strPairs prog w vs q1, Heap.DictOf.new _, fun h3 hd3 sb3 => ?_⟩
  have hvn : ((strPairs vs).map (·.1)).Nodup := by rw [q2]; exact (List.nodup_append.mp hnd).2.1
  rw [merged_nil_of_nodup _ hvn] at hd3
  have F3 : Fr h₀ L h3 m := F2.filled sb3
  obtain ⟨o3, ho3, hio3⟩ := Heap.dictOf_iff.mp hd3
  have N3 := News.filled F2 N2 sb3 ho3
  have hlt : s.heap.objs.size < h2.objs.size := Heap.lt_size ho2
  have hsz : (strPairs vs).length ≤ 100 := by
    have e1 := congrArg List.length q2
    rw [List.length_map] at e1
    have e2 := keys_len D
    omega
  refine merge_fresh (knd := PySem.strKind prog w) (old := kvs) (more := strPairs vs) (Nat.ne_of_lt hlt) (F2.notModules hbig) ?_ hd3
    (by rw [List.map_append, q2]; exact hnd) (by rw [sizeLine_eq]; omega) (fun h4 hd4 sb4 => ?_)
  · exact Heap.dictOf_iff.mpr ⟨o2, (N3 (s.heap.objs.size, o2) (List.mem_cons_of_mem _ (List.mem_cons_self ..))).1, hio2⟩
  · obtain ⟨o4, ho4, hio4⟩ := Heap.dictOf_iff.mp hd4
    refine hq s.heap.objs.size h4 o4 vs _ (fr_same F3 sb4 hdL hnone) (news_same (fun p hp => N3 p (List.mem_cons_of_mem _ (List.mem_cons_of_mem _ hp))) sb4 (fun p hp => Nat.ne_of_lt (Heap.lt_size (N p hp).1)) hdL hnone ho4) (fun p hp => Heap.lt_size (N p hp).1) (F.notModules hbig) hr hio4
end
end Esc
end
section
open PySem PySem.W PyProof.Rows
namespace Esc01
theorem read_cons {vs : List (Value × Value)} {x y : Str} {D : List (PyData × PyData)} (h : ReadAs vs ((.str x, .str y) :: D)) : ∃ t u vs', vs = (.str x t, .str y u) :: vs' ∧ ReadAs vs' D := by
  cases h with
  | cons fk fv r =>
    obtain ⟨t, rfl⟩ := fk.str_inv
    obtain ⟨u, rfl⟩ := fv.str_inv
    exact ⟨t, u, _, rfl, r⟩
theorem read_nil {vs : List (Value × Value)} (h : ReadAs vs []) : vs = [] := by cases h; rfl
section
variable {prog : Program} {w : World} {A : Around} {E : Value → Shared → Prop} {s : Shared} {env : Env} {h₀ : Heap} {L : Addr} {m : Str → Option Value} {news : List (Addr × Obj)}
theorem star_V {da : Addr} {oa : Obj} {a0 b0 a1 b1 a2 b2 : Tok} {keys : List (Option Expr)} {values : List Expr} {e0 : Expr} {pos : Pos} {Q : Value → Shared → Prop}
    (F : Fr h₀ L s.heap m) (N : News h₀ L s.heap news) (hbig : sysModules < h₀.objs.size)
    (he : ∀ (h : Heap) (Q' : Value → Shared → Prop), Fr h₀ L h m → Q' (.ref da) { s with heap := h } → wpAny (model prog w) A (eval e0 env) Q' E { s with heap := h })
    (hm : (da, oa) ∈ news) (lo : (da == sysModules) = false)
    (hda : oa.IsDictOf (PySem.strKind prog w) (strPairs [(Value.str (Str.ofString "&") a0, Value.str (Str.ofString "&amp;") b0), (Value.str (Str.ofString "<") a1, Value.str (Str.ofString "&lt;") b1), (Value.str (Str.ofString ">") a2, Value.str (Str.ofString "&gt;") b2)]))
    (hall : keys.all (·.isSome) = true) (hl : keys.length = values.length) (h0 : keys ≠ []) (hlen : keys.length ≤ 15)
    (hD : litPairs keys values = some [(PyData.str (Str.ofString "\""), PyData.str (Str.ofString "&quot;")), (PyData.str (Str.ofString "\r"), PyData.str (Str.ofString "&#13;")), (PyData.str (Str.ofString "\n"), PyData.str (Str.ofString "&#10;")), (PyData.str (Str.ofString "\t"), PyData.str (Str.ofString "&#09;"))])
    (hq : ∀ (d : Addr) (h' : Heap) (o : Obj) (a3 b3 a4 b4 a5 b5 a6 b6 : Tok) (tk : Nat), Fr h₀ L h' m → News h₀ L h' ((d, o) :: news) → (∀ p ∈ news, p.1 < d) → (d == sysModules) = false →
      o.IsDictOf (PySem.strKind prog w) (strPairs [(Value.str (Str.ofString "&") a0, Value.str (Str.ofString "&amp;") b0), (Value.str (Str.ofString "<") a1, Value.str (Str.ofString "&lt;") b1), (Value.str (Str.ofString ">") a2, Value.str (Str.ofString "&gt;") b2), (Value.str (Str.ofString "\"") a3, Value.str (Str.ofString "&quot;") b3), (Value.str (Str.ofString "\r") a4, Value.str (Str.ofString "&#13;") b4), (Value.str (Str.ofString "\n") a5, Value.str (Str.ofString "&#10;") b5), (Value.str (Str.ofString "\t") a6, Value.str (Str.ofString "&#09;") b6)]) →
      PyProof.V.FlatPairs PyData.str (strPairs [(Value.str (Str.ofString "&") a0, Value.str (Str.ofString "&amp;") b0), (Value.str (Str.ofString "<") a1, Value.str (Str.ofString "&lt;") b1), (Value.str (Str.ofString ">") a2, Value.str (Str.ofString "&gt;") b2), (Value.str (Str.ofString "\"") a3, Value.str (Str.ofString "&quot;") b3), (Value.str (Str.ofString "\r") a4, Value.str (Str.ofString "&#13;") b4), (Value.str (Str.ofString "\n") a5, Value.str (Str.ofString "&#10;") b5), (Value.str (Str.ofString "\t") a6, Value.str (Str.ofString "&#09;") b6)])
        (strData [(Value.str (Str.ofString "&") a0, Value.str (Str.ofString "&amp;") b0), (Value.str (Str.ofString "<") a1, Value.str (Str.ofString "&lt;") b1), (Value.str (Str.ofString ">") a2, Value.str (Str.ofString "&gt;") b2), (Value.str (Str.ofString "\"") a3, Value.str (Str.ofString "&quot;") b3), (Value.str (Str.ofString "\r") a4, Value.str (Str.ofString "&#13;") b4), (Value.str (Str.ofString "\n") a5, Value.str (Str.ofString "&#10;") b5), (Value.str (Str.ofString "\t") a6, Value.str (Str.ofString "&#09;") b6)]) →
      Q (.ref d) { s with heap := h', toks := tk }) :
    wpAny (model prog w) A (eval (.Dict (none :: keys) (e0 :: values) pos) env) Q E s := by
  refine Esc.dict_star F N hbig hm lo hda hall hl h0 hlen (Nat.le_of_ble_eq_true rfl) hD rfl (Nat.le_of_ble_eq_true rfl)
    (by decide +kernel : [Str.ofString "&", Str.ofString "<", Str.ofString ">", Str.ofString "\"", Str.ofString "\r", Str.ofString "\n", Str.ofString "\t"].Nodup) he ?_
  intro d h' o vs tk F' N' l1 lo' hr hd'
  obtain ⟨a3, b3, vs3, rfl, hr3⟩ := read_cons hr
  obtain ⟨a4, b4, vs4, rfl, hr4⟩ := read_cons hr3
  obtain ⟨a5, b5, vs5, rfl, hr5⟩ := read_cons hr4
  obtain ⟨a6, b6, vs6, rfl, hr6⟩ := read_cons hr5
  have e := read_nil hr6
  subst e
  exact hq d h' o a3 b3 a4 b4 a5 b5 a6 b6 tk F' N' l1 lo' hd' (flatPairs_str _ rfl rfl)
end
end Esc01
end
section
local macro_rules | `(tactic| walk_at "no key at all") => `(tactic| fail)
local macro_rules | `(tactic| walk_at "no key at all") => `(tactic| fail)
local macro_rules | `(tactic| walk_at "no key at all") => `(tactic| fail)
local macro_rules | `(tactic| walk_at "no key at all") => `(tactic| fail)
local macro_rules | `(tactic| walk_at "no key at all") => `(tactic| fail)
local macro_rules | `(tactic| walk_at "no key at all") => `(tactic| fail)
local macro_rules | `(tactic| walk_at "no key at all") => `(tactic| fail)
local macro_rules | `(tactic| walk_at "no key at all") => `(tactic| fail)
local macro_rules | `(tactic| walk_at "no key at all") => `(tactic| fail)
local macro_rules | `(tactic| walk_at "no key at all") => `(tactic| fail)
local macro_rules | `(tactic| walk_at "no key at all") => `(tactic| fail)
local macro_rules | `(tactic| walk_at "no key at all") => `(tactic| fail)
local macro_rules | `(tactic| walk_at "no key at all") => `(tactic| fail)
local macro_rules | `(tactic| walk_at "no key at all") => `(tactic| fail)
open PySem PySem.W PyProof.Rows
namespace Esc01
local macro_rules | `(tactic| walk_at "exec If") => `(tactic| (k_here; (rename Fr _ _ _ _ => F'); (rename News _ _ _ _ => N'); apply Esc.rep_if F' N'; (case hold => with_unfolding_all rfl)))
local macro_rules | `(tactic| walk_at "Turn") => `(tactic| ((show _ → ∀ _ _, _ → _ → _ → _); intro hc' h' tk' htk' F'' N''))
local macro_rules | `(tactic| walk_at "TestAt") => `(tactic| exact ⟨rfl, _, _, rfl, by omega, by assumption, by assumption⟩)
local macro_rules | `(tactic| walk_at "StrAt") => `(tactic| exact ⟨rfl, _, ⟨⟨_, _, rfl, by assumption, by assumption⟩⟩⟩)
local macro_rules | `(tactic| walk_at "Same") => `(tactic| first | exact Esc.same_two 38 5 (by decide +kernel) (by decide) (by decide +kernel) | exact Esc.same_two 60 4 (by decide +kernel) (by decide) (by decide +kernel) | exact Esc.same_two 62 4 (by decide +kernel) (by decide) (by decide +kernel) | exact Esc.same_two 34 6 (by decide +kernel) (by decide) (by decide +kernel) | exact Esc.same_two 13 5 (by decide +kernel) (by decide) (by decide +kernel) | exact Esc.same_two 10 5 (by decide +kernel) (by decide) (by decide +kernel) | exact Esc.same_two 9 5 (by decide +kernel) (by decide) (by decide +kernel))
local macro_rules | `(tactic| walk_at "Rest") => `(tactic| (k_whole; (show ∀ _ _ _, _ → _ → _ → _); intro t' h' tk' hl' F'' N''))
local macro_rules | `(tactic| walk_at "call builtin:str.replace") => `(tactic| (k_here; (with_reducible show wpAny _ _ (call (Value.builtin "str.replace") [Value.str _ _, Value.str _ _, Value.str _ _]) _ _ _); first
  | (refine Esc.replace_call 1 (by omega) (by decide +kernel) (by omega) (by decide +kernel) (by decide) (by first | omega | (dsimp only; omega)) ?_; intro t' k' hk' hl')
  | (refine Esc.replace_call 6 (by omega) (by decide +kernel) (by omega) (by decide +kernel) (by decide) (by first | omega | (dsimp only; omega)) ?_; intro t' k' hk' hl'9; clear hl'9)))

theorem escD_call {w : World} {dp un : Nat} {gd : Option (List Code)} {cn : Str} {cs : Scope} {a : Addr} {ccd : Value} {cl : List (Str × Addr)} {outer : List Env} {A₀ : Around} {base h₀ : Heap} {L : Addr} {m : Str → Option Value} {s : Shared} {Q E : Value → Shared → Prop} {mean : ExcName → Option Value} {mg mb : Str → Option Value} {news : List (Addr × Obj)} {T : Str} {t : Tok}
    (k1 : Below A₀ base outer h₀) (k2 : Fr h₀ L s.heap m) (k3 : (hd.heap_39 w.params).In h₀) (k4 : News h₀ L s.heap news) (k5 : Top hd.view_39 (looseW hd.view_39 []) mean mg mb h₀) (kK : cs.kind = .function)
    (kp : T.length ≤ 63) (kd : dp + 1 < recursionLimit) (ku : un + 8 < cLine)
    (hret : ∀ (t' : Tok) (h' : Heap) (tk' : Nat), Fr h₀ L h' m → News h₀ L h' news → Q (.str (escD T) t') { s with heap := h', toks := tk' }) :
    wpAny (model Challenge.rw_kp0108_01.row.prog w) (ktrTop dp un gd cn cs L a ccd cl outer) (call (.ref 28) [.str T t]) Q E s := by
  revert k3; k_fill; intro k3
  refine wpAny_call ?_
  k_dflt cell_enter
  w_top off
  k_with_none
  k_steps
  all_goals exact hret _ _ _ (by assumption) (by assumption)
theorem escV_call {w : World} {dp un : Nat} {gd : Option (List Code)} {cn : Str} {cs : Scope} {a : Addr} {ccd : Value} {cl : List (Str × Addr)} {outer : List Env} {A₀ : Around} {base h₀ : Heap} {L : Addr} {m : Str → Option Value} {s : Shared} {Q E : Value → Shared → Prop} {mean : ExcName → Option Value} {mg mb : Str → Option Value} {news : List (Addr × Obj)} {T : Str} {t : Tok}
    (k1 : Below A₀ base outer h₀) (k2 : Fr h₀ L s.heap m) (k3 : (hd.heap_39 w.params).In h₀) (k4 : News h₀ L s.heap news) (k5 : Top hd.view_39 (looseW hd.view_39 []) mean mg mb h₀) (kK : cs.kind = .function)
    (kp : T.length ≤ 63) (kd : dp + 1 < recursionLimit) (ku : un + 8 < cLine)
    (hret : ∀ (t' : Tok) (h' : Heap) (tk' : Nat), Fr h₀ L h' m → News h₀ L h' news → Q (.str (escV T) t') { s with heap := h', toks := tk' }) :
    wpAny (model Challenge.rw_kp0108_01.row.prog w) (ktrTop dp un gd cn cs L a ccd cl outer) (call (.ref 35) [.str T t]) Q E s := by
  revert k3; k_fill; intro k3
  refine wpAny_call ?_
  k_dflt cell_enter
  w_top off
  k_with_none
  k_steps
  all_goals exact hret _ _ _ (by assumption) (by assumption)
theorem escH_call {w : World} {dp un : Nat} {gd : Option (List Code)} {cn : Str} {cs : Scope} {a : Addr} {ccd : Value} {cl : List (Str × Addr)} {outer : List Env} {A₀ : Around} {base h₀ : Heap} {L : Addr} {m : Str → Option Value} {s : Shared} {Q E : Value → Shared → Prop} {mean : ExcName → Option Value} {mg mb : Str → Option Value} {news : List (Addr × Obj)} {T : Str} {t : Tok}
    (k1 : Below A₀ base outer h₀) (k2 : Fr h₀ L s.heap m) (k3 : (hd.heap_39 w.params).In h₀) (k4 : News h₀ L s.heap news) (k5 : Top hd.view_39 (looseW hd.view_39 []) mean mg mb h₀) (kK : cs.kind = .function)
    (kp : T.length ≤ 63) (kd : dp + 1 < recursionLimit) (ku : un + 8 < cLine)
    (hret : ∀ (t' : Tok) (h' : Heap) (tk' : Nat), Fr h₀ L h' m → News h₀ L h' news → Q (.str (escH T) t') { s with heap := h', toks := tk' }) :
    wpAny (model Challenge.rw_kp0108_01.row.prog w) (ktrTop dp un gd cn cs L a ccd cl outer) (call (.ref 42) [.str T t]) Q E s := by
  revert k3; k_fill; intro k3
  refine wpAny_call ?_
  k_dflt cell_enter
  w_top off
  k_with_none
  k_steps
  all_goals exact hret _ _ _ (by assumption) (by assumption)
end Esc01
end
section
local macro_rules | `(tactic| walk_at "no key at all") => `(tactic| fail)
local macro_rules | `(tactic| walk_at "no key at all") => `(tactic| fail)
local macro_rules | `(tactic| walk_at "no key at all") => `(tactic| fail)
local macro_rules | `(tactic| walk_at "no key at all") => `(tactic| fail)
local macro_rules | `(tactic| walk_at "no key at all") => `(tactic| fail)
local macro_rules | `(tactic| walk_at "no key at all") => `(tactic| fail)
local macro_rules | `(tactic| walk_at "no key at all") => `(tactic| fail)
local macro_rules | `(tactic| walk_at "no key at all") => `(tactic| fail)
local macro_rules | `(tactic| walk_at "no key at all") => `(tactic| fail)
local macro_rules | `(tactic| walk_at "no key at all") => `(tactic| fail)
local macro_rules | `(tactic| walk_at "no key at all") => `(tactic| fail)
local macro_rules | `(tactic| walk_at "no key at all") => `(tactic| fail)
local macro_rules | `(tactic| walk_at "no key at all") => `(tactic| fail)
open PySem PySem.W PyProof.Rows
namespace Esc01
section
variable {prog : Program} {w : World} {A : Around} {E : Value → Shared → Prop} {s : Shared} {t u : Tok} {Q : Value → Shared → Prop}
theorem add_foundD {U p : Str} {k : Int} (h : Esc.Inv fndLD stpLD U p k) (hk : k < (U.length : Int)) (hq : ∀ t' k', Q (.str (p ++ fndD U k) t') { s with toks := k' }) :
    wpAny (model prog w) A (binaryOp .Add (.str p t) (.str (fndD U k) u)) Q E s := by
  refine KOpn.add ?_ fun t' k' _ => hq t' k'
  have e : (fndD U k).length ≤ 1 := by rw [Esc.length_eq, fndD_cps h.p1 hk]; exact fairD.short _
  have := h.p2
  have := h.p3
  have := h.p4
  omega
theorem add_stepD {U p : Str} {k : Int} (_h : Esc.Inv fndLD stpLD U p k) (hq : ∀ t' k', Q (.int (k + stpD U k) t') { s with toks := k' }) :
    wpAny (model prog w) A (binaryOp .Add (.int k t) (.int (stpD U k) u)) Q E s := by
  first
    | exact add_int (hq _ _)
    | (refine add_int ?_; exact hq _ _)
end
local macro_rules | `(tactic| walk_at "exec While Compare cons nil") => `(tactic| (k_while_given ["text"] (fun (U : Str) (_ : List Int) (plain : Str) (k : Int) => Esc.Inv fndLD stpLD U plain k) (fun (U : Str) (_ : List Int) (_ : Str) (k : Int) => U.length - k.toNat) "plain" "k"; (rename Esc.Inv _ _ _ _ _ => hInv'); (have hInv1 := Esc.Inv.p1 hInv'); (have hInv2 := Esc.Inv.p2 hInv'); (have hInv3 := Esc.Inv.p3 hInv'); (have hInv4 := Esc.Inv.p4 hInv')))
local macro_rules | `(tactic| walk_at "exec If") => `(tactic| (k_here; (rename Fr _ _ _ _ => F'); (rename News _ _ _ _ => N'); (first | (apply Esc.two_if2 F' N'; (case hne => decide +kernel)) | (apply Esc.two_if1 F' N'; (case hne => decide +kernel))); (all_goals (try k_fold))))
local macro_rules | `(tactic| walk_at "Enter") => `(tactic| ((show _ → _); intro F'; (try k_fold)))
local macro_rules | `(tactic| walk_at "Turn2") => `(tactic| ((show _ → ∀ _ _, _ → _ → _); intro hc' h' tk' F'' N''; (try k_fold)))
local macro_rules | `(tactic| walk_at "TestTo") => `(tactic| exact ⟨rfl, ⟨⟨_, _, rfl, by assumption, by assumption⟩⟩⟩)
local macro_rules | `(tactic| walk_at "TwoAt") => `(tactic| exact ⟨rfl, _, _, ⟨⟨_, _, rfl, by assumption, by assumption⟩⟩⟩)
local macro_rules | `(tactic| walk_at "Rest2") => `(tactic| (k_whole; (show ∀ _ _ _ _, _ → _ → _); intro t' t'2 h' tk' F'' N''))
local macro_rules | `(tactic| walk_at "binaryOp Add int int") => `(tactic| (k_here; (with_reducible show wpAny _ _ (binaryOp Operator.Add (Value.int _ _) (Value.int (cond _ _ _) _)) _ _ _); (rename Esc.Inv _ _ _ _ _ => hInv'); k_dflt (refine add_stepD hInv' ?_); intro t' k'))
local macro_rules | `(tactic| walk_at "binaryOp Add str str") => `(tactic| (k_here; (with_reducible show wpAny _ _ (binaryOp Operator.Add (Value.str _ _) (Value.str _ _)) _ _ _); (rename Esc.Inv _ _ _ _ _ => hInv'); k_dflt (refine add_foundD hInv' (by omega) ?_); intro t' k'))
theorem readD_call {w : World} {dp un : Nat} {gd : Option (List Code)} {cn : Str} {cs : Scope} {a : Addr} {ccd : Value} {cl : List (Str × Addr)} {outer : List Env} {A₀ : Around} {base h₀ : Heap} {L : Addr} {m : Str → Option Value} {s : Shared} {Q E : Value → Shared → Prop} {mean : ExcName → Option Value} {mg mb : Str → Option Value} {news : List (Addr × Obj)} {T : Str} {t : Tok} {d : Addr} {o : Obj} {a0 b0 a1 b1 a2 b2 : Tok}
    (k1 : Below A₀ base outer h₀) (k2 : Fr h₀ L s.heap m) (k3 : (hd.heap_39 w.params).In h₀) (k4 : News h₀ L s.heap news) (k5 : Top hd.view_39 (looseW hd.view_39 []) mean mg mb h₀) (kK : cs.kind = .function)
    (hm : (d, o) ∈ news) (lo : (d == sysModules) = false) (hdo : o.IsDictOf (PySem.strKind Challenge.rw_kp0108_01.row.prog w) (strPairs [(Value.str (Str.ofString "&") a0, Value.str (Str.ofString "&amp;") b0), (Value.str (Str.ofString "<") a1, Value.str (Str.ofString "&lt;") b1), (Value.str (Str.ofString ">") a2, Value.str (Str.ofString "&gt;") b2)])) (hfo : PyProof.V.FlatPairs PyData.str (strPairs [(Value.str (Str.ofString "&") a0, Value.str (Str.ofString "&amp;") b0), (Value.str (Str.ofString "<") a1, Value.str (Str.ofString "&lt;") b1), (Value.str (Str.ofString ">") a2, Value.str (Str.ofString "&gt;") b2)]) (strData [(Value.str (Str.ofString "&") a0, Value.str (Str.ofString "&amp;") b0), (Value.str (Str.ofString "<") a1, Value.str (Str.ofString "&lt;") b1), (Value.str (Str.ofString ">") a2, Value.str (Str.ofString "&gt;") b2)]))
    (kp : T.length ≤ 400) (kd : dp + 1 < recursionLimit) (ku : un + 8 < cLine)
    (hret : ∀ (t' : Tok) (h' : Heap) (tk' : Nat), Fr h₀ L h' m → News h₀ L h' news → Q (.str (readD T) t') { s with heap := h', toks := tk' }) :
    wpAny (model Challenge.rw_kp0108_01.row.prog w) (ktrTop dp un gd cn cs L a ccd cl outer) (call (.ref 63) [.str T t, .ref d]) Q E s := by
  revert k3; k_fill; intro k3
  replace k4 := Esc.put1 k4 hm
  refine wpAny_call ?_
  k_dflt cell_enter
  w_top off
  k_with_none
  k_with "state" => first | exact Esc.inv_start (by omega) | exact rd_turnD (by assumption) (by assumption)
  k_with "measure" => exact rd_lessD (by assumption) (by assumption)
  k_steps
  all_goals (
    (rename Esc.Inv _ _ _ _ _ => hI)
    have e := Esc.inv_end hI (by assumption)
    subst e
    refine' hret _ _ _ ?f (Esc.drop1 ?n)
    case f => assumption
    case n => assumption)
end Esc01
end
section
local macro_rules | `(tactic| walk_at "no key at all") => `(tactic| fail)
local macro_rules | `(tactic| walk_at "no key at all") => `(tactic| fail)
local macro_rules | `(tactic| walk_at "no key at all") => `(tactic| fail)
local macro_rules | `(tactic| walk_at "no key at all") => `(tactic| fail)
local macro_rules | `(tactic| walk_at "no key at all") => `(tactic| fail)
local macro_rules | `(tactic| walk_at "no key at all") => `(tactic| fail)
local macro_rules | `(tactic| walk_at "no key at all") => `(tactic| fail)
local macro_rules | `(tactic| walk_at "no key at all") => `(tactic| fail)
local macro_rules | `(tactic| walk_at "no key at all") => `(tactic| fail)
local macro_rules | `(tactic| walk_at "no key at all") => `(tactic| fail)
local macro_rules | `(tactic| walk_at "no key at all") => `(tactic| fail)
local macro_rules | `(tactic| walk_at "no key at all") => `(tactic| fail)
local macro_rules | `(tactic| walk_at "no key at all") => `(tactic| fail)
local macro_rules | `(tactic| walk_at "no key at all") => `(tactic| fail)
open PySem PySem.W PyProof.Rows
namespace Esc01
section
variable {prog : Program} {w : World} {A : Around} {E : Value → Shared → Prop} {s : Shared} {t u : Tok} {Q : Value → Shared → Prop}
theorem add_foundV {U p : Str} {k : Int} (h : Esc.Inv fndLV stpLV U p k) (hk : k < (U.length : Int)) (hq : ∀ t' k', Q (.str (p ++ fndV U k) t') { s with toks := k' }) :
    wpAny (model prog w) A (binaryOp .Add (.str p t) (.str (fndV U k) u)) Q E s := by
  refine KOpn.add ?_ fun t' k' _ => hq t' k'
  have e : (fndV U k).length ≤ 1 := by rw [Esc.length_eq, fndV_cps h.p1 hk]; exact fairV.short _
  have := h.p2
  have := h.p3
  have := h.p4
  omega
theorem add_stepV {U p : Str} {k : Int} (_h : Esc.Inv fndLV stpLV U p k) (hq : ∀ t' k', Q (.int (k + stpV U k) t') { s with toks := k' }) :
    wpAny (model prog w) A (binaryOp .Add (.int k t) (.int (stpV U k) u)) Q E s := by
  first
    | exact add_int (hq _ _)
    | (refine add_int ?_; exact hq _ _)
end
local macro_rules | `(tactic| walk_at "exec While Compare cons nil") => `(tactic| (k_while_given ["text"] (fun (U : Str) (_ : List Int) (plain : Str) (k : Int) => Esc.Inv fndLV stpLV U plain k) (fun (U : Str) (_ : List Int) (_ : Str) (k : Int) => U.length - k.toNat) "plain" "k"; (rename Esc.Inv _ _ _ _ _ => hInv'); (have hInv1 := Esc.Inv.p1 hInv'); (have hInv2 := Esc.Inv.p2 hInv'); (have hInv3 := Esc.Inv.p3 hInv'); (have hInv4 := Esc.Inv.p4 hInv')))
local macro_rules | `(tactic| walk_at "exec If") => `(tactic| (k_here; (rename Fr _ _ _ _ => F'); (rename News _ _ _ _ => N'); (first | (apply Esc.two_if2 F' N'; (case hne => decide +kernel)) | (apply Esc.two_if1 F' N'; (case hne => decide +kernel))); (all_goals (try k_fold))))
local macro_rules | `(tactic| walk_at "Enter") => `(tactic| ((show _ → _); intro F'; (try k_fold)))
local macro_rules | `(tactic| walk_at "Turn2") => `(tactic| ((show _ → ∀ _ _, _ → _ → _); intro hc' h' tk' F'' N''; (try k_fold)))
local macro_rules | `(tactic| walk_at "TestTo") => `(tactic| exact ⟨rfl, ⟨⟨_, _, rfl, by assumption, by assumption⟩⟩⟩)
local macro_rules | `(tactic| walk_at "TwoAt") => `(tactic| exact ⟨rfl, _, _, ⟨⟨_, _, rfl, by assumption, by assumption⟩⟩⟩)
local macro_rules | `(tactic| walk_at "Rest2") => `(tactic| (k_whole; (show ∀ _ _ _ _, _ → _ → _); intro t' t'2 h' tk' F'' N''))
local macro_rules | `(tactic| walk_at "binaryOp Add int int") => `(tactic| (k_here; (with_reducible show wpAny _ _ (binaryOp Operator.Add (Value.int _ _) (Value.int (cond _ _ _) _)) _ _ _); (rename Esc.Inv _ _ _ _ _ => hInv'); k_dflt (refine add_stepV hInv' ?_); intro t' k'))
local macro_rules | `(tactic| walk_at "binaryOp Add str str") => `(tactic| (k_here; (with_reducible show wpAny _ _ (binaryOp Operator.Add (Value.str _ _) (Value.str _ _)) _ _ _); (rename Esc.Inv _ _ _ _ _ => hInv'); k_dflt (refine add_foundV hInv' (by omega) ?_); intro t' k'))
theorem readV_call {w : World} {dp un : Nat} {gd : Option (List Code)} {cn : Str} {cs : Scope} {a : Addr} {ccd : Value} {cl : List (Str × Addr)} {outer : List Env} {A₀ : Around} {base h₀ : Heap} {L : Addr} {m : Str → Option Value} {s : Shared} {Q E : Value → Shared → Prop} {mean : ExcName → Option Value} {mg mb : Str → Option Value} {news : List (Addr × Obj)} {T : Str} {t : Tok} {d : Addr} {o : Obj} {a0 b0 a1 b1 a2 b2 a3 b3 a4 b4 a5 b5 a6 b6 : Tok}
    (k1 : Below A₀ base outer h₀) (k2 : Fr h₀ L s.heap m) (k3 : (hd.heap_39 w.params).In h₀) (k4 : News h₀ L s.heap news) (k5 : Top hd.view_39 (looseW hd.view_39 []) mean mg mb h₀) (kK : cs.kind = .function)
    (hm : (d, o) ∈ news) (lo : (d == sysModules) = false) (hdo : o.IsDictOf (PySem.strKind Challenge.rw_kp0108_01.row.prog w) (strPairs [(Value.str (Str.ofString "&") a0, Value.str (Str.ofString "&amp;") b0), (Value.str (Str.ofString "<") a1, Value.str (Str.ofString "&lt;") b1), (Value.str (Str.ofString ">") a2, Value.str (Str.ofString "&gt;") b2), (Value.str (Str.ofString "\"") a3, Value.str (Str.ofString "&quot;") b3), (Value.str (Str.ofString "\r") a4, Value.str (Str.ofString "&#13;") b4), (Value.str (Str.ofString "\n") a5, Value.str (Str.ofString "&#10;") b5), (Value.str (Str.ofString "\t") a6, Value.str (Str.ofString "&#09;") b6)])) (hfo : PyProof.V.FlatPairs PyData.str (strPairs [(Value.str (Str.ofString "&") a0, Value.str (Str.ofString "&amp;") b0), (Value.str (Str.ofString "<") a1, Value.str (Str.ofString "&lt;") b1), (Value.str (Str.ofString ">") a2, Value.str (Str.ofString "&gt;") b2), (Value.str (Str.ofString "\"") a3, Value.str (Str.ofString "&quot;") b3), (Value.str (Str.ofString "\r") a4, Value.str (Str.ofString "&#13;") b4), (Value.str (Str.ofString "\n") a5, Value.str (Str.ofString "&#10;") b5), (Value.str (Str.ofString "\t") a6, Value.str (Str.ofString "&#09;") b6)]) (strData [(Value.str (Str.ofString "&") a0, Value.str (Str.ofString "&amp;") b0), (Value.str (Str.ofString "<") a1, Value.str (Str.ofString "&lt;") b1), (Value.str (Str.ofString ">") a2, Value.str (Str.ofString "&gt;") b2), (Value.str (Str.ofString "\"") a3, Value.str (Str.ofString "&quot;") b3), (Value.str (Str.ofString "\r") a4, Value.str (Str.ofString "&#13;") b4), (Value.str (Str.ofString "\n") a5, Value.str (Str.ofString "&#10;") b5), (Value.str (Str.ofString "\t") a6, Value.str (Str.ofString "&#09;") b6)]))
    (kp : T.length ≤ 400) (kd : dp + 1 < recursionLimit) (ku : un + 8 < cLine)
    (hret : ∀ (t' : Tok) (h' : Heap) (tk' : Nat), Fr h₀ L h' m → News h₀ L h' news → Q (.str (readV T) t') { s with heap := h', toks := tk' }) :
    wpAny (model Challenge.rw_kp0108_01.row.prog w) (ktrTop dp un gd cn cs L a ccd cl outer) (call (.ref 63) [.str T t, .ref d]) Q E s := by
  revert k3; k_fill; intro k3
  replace k4 := Esc.put1 k4 hm
  refine wpAny_call ?_
  k_dflt cell_enter
  w_top off
  k_with_none
  k_with "state" => first | exact Esc.inv_start (by omega) | exact rd_turnV (by assumption) (by assumption)
  k_with "measure" => exact rd_lessV (by assumption) (by assumption)
  k_steps
  all_goals (
    (rename Esc.Inv _ _ _ _ _ => hI)
    have e := Esc.inv_end hI (by assumption)
    subst e
    refine' hret _ _ _ ?f (Esc.drop1 ?n)
    case f => assumption
    case n => assumption)
end Esc01
end
section
local macro_rules | `(tactic| walk_at "no key at all") => `(tactic| fail)
local macro_rules | `(tactic| walk_at "no key at all") => `(tactic| fail)
local macro_rules | `(tactic| walk_at "no key at all") => `(tactic| fail)
local macro_rules | `(tactic| walk_at "no key at all") => `(tactic| fail)
local macro_rules | `(tactic| walk_at "no key at all") => `(tactic| fail)
local macro_rules | `(tactic| walk_at "no key at all") => `(tactic| fail)
local macro_rules | `(tactic| walk_at "no key at all") => `(tactic| fail)
local macro_rules | `(tactic| walk_at "no key at all") => `(tactic| fail)
local macro_rules | `(tactic| walk_at "no key at all") => `(tactic| fail)
local macro_rules | `(tactic| walk_at "no key at all") => `(tactic| fail)
local macro_rules | `(tactic| walk_at "no key at all") => `(tactic| fail)
local macro_rules | `(tactic| walk_at "no key at all") => `(tactic| fail)
local macro_rules | `(tactic| walk_at "no key at all") => `(tactic| fail)
local macro_rules | `(tactic| walk_at "no key at all") => `(tactic| fail)
local macro_rules | `(tactic| walk_at "no key at all") => `(tactic| fail)
open PySem PySem.W PyProof.Rows
namespace Esc01
section
variable {prog : Program} {w : World} {A : Around} {E : Value → Shared → Prop} {s : Shared} {t u : Tok} {Q : Value → Shared → Prop}
theorem add_foundH {U p : Str} {k : Int} (h : Esc.Inv fndLH stpLH U p k) (hk : k < (U.length : Int)) (hq : ∀ t' k', Q (.str (p ++ fndH U k) t') { s with toks := k' }) :
    wpAny (model prog w) A (binaryOp .Add (.str p t) (.str (fndH U k) u)) Q E s := by
  refine KOpn.add ?_ fun t' k' _ => hq t' k'
  have e : (fndH U k).length ≤ 1 := by rw [Esc.length_eq, fndH_cps h.p1 hk]; exact fairH.short _
  have := h.p2
  have := h.p3
  have := h.p4
  omega
theorem add_stepH {U p : Str} {k : Int} (_h : Esc.Inv fndLH stpLH U p k) (hq : ∀ t' k', Q (.int (k + stpH U k) t') { s with toks := k' }) :
    wpAny (model prog w) A (binaryOp .Add (.int k t) (.int (stpH U k) u)) Q E s := by
  first
    | exact add_int (hq _ _)
    | (refine add_int ?_; exact hq _ _)
end
local macro_rules | `(tactic| walk_at "exec While Compare cons nil") => `(tactic| (k_while_given ["text"] (fun (U : Str) (_ : List Int) (plain : Str) (k : Int) => Esc.Inv fndLH stpLH U plain k) (fun (U : Str) (_ : List Int) (_ : Str) (k : Int) => U.length - k.toNat) "plain" "k"; (rename Esc.Inv _ _ _ _ _ => hInv'); (have hInv1 := Esc.Inv.p1 hInv'); (have hInv2 := Esc.Inv.p2 hInv'); (have hInv3 := Esc.Inv.p3 hInv'); (have hInv4 := Esc.Inv.p4 hInv')))
local macro_rules | `(tactic| walk_at "exec If") => `(tactic| (k_here; (rename Fr _ _ _ _ => F'); (rename News _ _ _ _ => N'); (first | (apply Esc.two_if2 F' N'; (case hne => decide +kernel)) | (apply Esc.two_if1 F' N'; (case hne => decide +kernel))); (all_goals (try k_fold))))
local macro_rules | `(tactic| walk_at "Enter") => `(tactic| ((show _ → _); intro F'; (try k_fold)))
local macro_rules | `(tactic| walk_at "Turn2") => `(tactic| ((show _ → ∀ _ _, _ → _ → _); intro hc' h' tk' F'' N''; (try k_fold)))
local macro_rules | `(tactic| walk_at "TestTo") => `(tactic| exact ⟨rfl, ⟨⟨_, _, rfl, by assumption, by assumption⟩⟩⟩)
local macro_rules | `(tactic| walk_at "TwoAt") => `(tactic| exact ⟨rfl, _, _, ⟨⟨_, _, rfl, by assumption, by assumption⟩⟩⟩)
local macro_rules | `(tactic| walk_at "Rest2") => `(tactic| (k_whole; (show ∀ _ _ _ _, _ → _ → _); intro t' t'2 h' tk' F'' N''))
local macro_rules | `(tactic| walk_at "binaryOp Add int int") => `(tactic| (k_here; (with_reducible show wpAny _ _ (binaryOp Operator.Add (Value.int _ _) (Value.int (cond _ _ _) _)) _ _ _); (rename Esc.Inv _ _ _ _ _ => hInv'); k_dflt (refine add_stepH hInv' ?_); intro t' k'))
local macro_rules | `(tactic| walk_at "binaryOp Add str str") => `(tactic| (k_here; (with_reducible show wpAny _ _ (binaryOp Operator.Add (Value.str _ _) (Value.str _ _)) _ _ _); (rename Esc.Inv _ _ _ _ _ => hInv'); k_dflt (refine add_foundH hInv' (by omega) ?_); intro t' k'))
theorem readH_call {w : World} {dp un : Nat} {gd : Option (List Code)} {cn : Str} {cs : Scope} {a : Addr} {ccd : Value} {cl : List (Str × Addr)} {outer : List Env} {A₀ : Around} {base h₀ : Heap} {L : Addr} {m : Str → Option Value} {s : Shared} {Q E : Value → Shared → Prop} {mean : ExcName → Option Value} {mg mb : Str → Option Value} {news : List (Addr × Obj)} {T : Str} {t : Tok} {d : Addr} {o : Obj} {a0 b0 a1 b1 a2 b2 : Tok}
    (k1 : Below A₀ base outer h₀) (k2 : Fr h₀ L s.heap m) (k3 : (hd.heap_39 w.params).In h₀) (k4 : News h₀ L s.heap news) (k5 : Top hd.view_39 (looseW hd.view_39 []) mean mg mb h₀) (kK : cs.kind = .function)
    (hm : (d, o) ∈ news) (lo : (d == sysModules) = false) (hdo : o.IsDictOf (PySem.strKind Challenge.rw_kp0108_01.row.prog w) (strPairs [(Value.str (Str.ofString "&") a0, Value.str (Str.ofString "&amp;") b0), (Value.str (Str.ofString ">") a1, Value.str (Str.ofString "&gt;") b1), (Value.str (Str.ofString "\"") a2, Value.str (Str.ofString "&quot;") b2)])) (hfo : PyProof.V.FlatPairs PyData.str (strPairs [(Value.str (Str.ofString "&") a0, Value.str (Str.ofString "&amp;") b0), (Value.str (Str.ofString ">") a1, Value.str (Str.ofString "&gt;") b1), (Value.str (Str.ofString "\"") a2, Value.str (Str.ofString "&quot;") b2)]) (strData [(Value.str (Str.ofString "&") a0, Value.str (Str.ofString "&amp;") b0), (Value.str (Str.ofString ">") a1, Value.str (Str.ofString "&gt;") b1), (Value.str (Str.ofString "\"") a2, Value.str (Str.ofString "&quot;") b2)]))
    (kp : T.length ≤ 400) (kd : dp + 1 < recursionLimit) (ku : un + 8 < cLine)
    (hret : ∀ (t' : Tok) (h' : Heap) (tk' : Nat), Fr h₀ L h' m → News h₀ L h' news → Q (.str (readH T) t') { s with heap := h', toks := tk' }) :
    wpAny (model Challenge.rw_kp0108_01.row.prog w) (ktrTop dp un gd cn cs L a ccd cl outer) (call (.ref 63) [.str T t, .ref d]) Q E s := by
  revert k3; k_fill; intro k3
  replace k4 := Esc.put1 k4 hm
  refine wpAny_call ?_
  k_dflt cell_enter
  w_top off
  k_with_none
  k_with "state" => first | exact Esc.inv_start (by omega) | exact rd_turnH (by assumption) (by assumption)
  k_with "measure" => exact rd_lessH (by assumption) (by assumption)
  k_steps
  all_goals (
    (rename Esc.Inv _ _ _ _ _ => hI)
    have e := Esc.inv_end hI (by assumption)
    subst e
    refine' hret _ _ _ ?f (Esc.drop1 ?n)
    case f => assumption
    case n => assumption)
end Esc01
end
section
local macro_rules | `(tactic| walk_at "no key at all") => `(tactic| fail)
local macro_rules | `(tactic| walk_at "no key at all") => `(tactic| fail)
local macro_rules | `(tactic| walk_at "no key at all") => `(tactic| fail)
local macro_rules | `(tactic| walk_at "no key at all") => `(tactic| fail)
local macro_rules | `(tactic| walk_at "no key at all") => `(tactic| fail)
local macro_rules | `(tactic| walk_at "no key at all") => `(tactic| fail)
local macro_rules | `(tactic| walk_at "no key at all") => `(tactic| fail)
local macro_rules | `(tactic| walk_at "no key at all") => `(tactic| fail)
local macro_rules | `(tactic| walk_at "no key at all") => `(tactic| fail)
local macro_rules | `(tactic| walk_at "no key at all") => `(tactic| fail)
local macro_rules | `(tactic| walk_at "no key at all") => `(tactic| fail)
local macro_rules | `(tactic| walk_at "no key at all") => `(tactic| fail)
local macro_rules | `(tactic| walk_at "no key at all") => `(tactic| fail)
local macro_rules | `(tactic| walk_at "no key at all") => `(tactic| fail)
local macro_rules | `(tactic| walk_at "no key at all") => `(tactic| fail)
local macro_rules | `(tactic| walk_at "no key at all") => `(tactic| fail)
local macro_rules | `(tactic| walk_at "no key at all") => `(tactic| fail)
local macro_rules | `(tactic| walk_at "no key at all") => `(tactic| fail)
local macro_rules | `(tactic| walk_at "no key at all") => `(tactic| fail)
local macro_rules | `(tactic| walk_at "no key at all") => `(tactic| fail)
local macro_rules | `(tactic| walk_at "no key at all") => `(tactic| fail)
local macro_rules | `(tactic| walk_at "no key at all") => `(tactic| fail)
local macro_rules | `(tactic| walk_at "no key at all") => `(tactic| fail)
open PySem PySem.W PyProof.Rows
namespace Esc01
def WInvD (pre : List Int) (wr : Str) : Prop := wr.cps.toList = (pre.map Int.toNat).flatMap pieceD
def tabD : List (PyData × PyData) := [(PyData.str ⟨#[38]⟩, PyData.str ⟨#[38, 97, 109, 112, 59]⟩), (PyData.str ⟨#[60]⟩, PyData.str ⟨#[38, 108, 116, 59]⟩), (PyData.str ⟨#[62]⟩, PyData.str ⟨#[38, 103, 116, 59]⟩)]
theorem dataD {a0 b0 a1 b1 a2 b2 : Tok} : strData [(Value.str (Str.ofString "&") a0, Value.str (Str.ofString "&amp;") b0), (Value.str (Str.ofString "<") a1, Value.str (Str.ofString "&lt;") b1), (Value.str (Str.ofString ">") a2, Value.str (Str.ofString "&gt;") b2)] = tabD := by
  have y0 : (Str.ofString "&") = ⟨#[38]⟩ := by decide +kernel
  have z0 : (Str.ofString "&amp;") = ⟨#[38, 97, 109, 112, 59]⟩ := by decide +kernel
  have y1 : (Str.ofString "<") = ⟨#[60]⟩ := by decide +kernel
  have z1 : (Str.ofString "&lt;") = ⟨#[38, 108, 116, 59]⟩ := by decide +kernel
  have y2 : (Str.ofString ">") = ⟨#[62]⟩ := by decide +kernel
  have z2 : (Str.ofString "&gt;") = ⟨#[38, 103, 116, 59]⟩ := by decide +kernel
  rw [y0, z0, y1, z1, y2, z2]
  rfl
theorem lookD (c : Nat) : Spec.lookup (.str ⟨#[c]⟩) tabD = if pieceD c = [c] then none else some (.str ⟨(pieceD c).toArray⟩) := by
  by_cases c0 : c = 38
  · subst c0; rfl
  by_cases c1 : c = 60
  · subst c1; rfl
  by_cases c2 : c = 62
  · subst c2; rfl
  have hp : pieceD c = [c] := by simp only [pieceD, c0, c1, c2, if_false]
  rw [if_pos hp]
  have one : ∀ k : Nat, ¬ c = k → Spec.same (PyData.str ⟨#[k]⟩) (.str ⟨#[c]⟩) = false := by
    intro k hk
    rw [PyProof.V.same_str]
    apply decide_eq_false
    intro e
    have := congrArg (fun s : Str => s.cps.toList) e
    simp at this
    exact hk this.symm
  unfold tabD
  simp only [Spec.lookup, one _ c0, one _ c1, one _ c2, Bool.false_eq_true, if_false]
theorem lookD_some {c : Nat} {a0 b0 a1 b1 a2 b2 : Tok} (h : (Spec.lookup (.str ⟨#[c]⟩) (strData [(Value.str (Str.ofString "&") a0, Value.str (Str.ofString "&amp;") b0), (Value.str (Str.ofString "<") a1, Value.str (Str.ofString "&lt;") b1), (Value.str (Str.ofString ">") a2, Value.str (Str.ofString "&gt;") b2)])).isSome = true) : Spec.lookup (.str ⟨#[c]⟩) (strData [(Value.str (Str.ofString "&") a0, Value.str (Str.ofString "&amp;") b0), (Value.str (Str.ofString "<") a1, Value.str (Str.ofString "&lt;") b1), (Value.str (Str.ofString ">") a2, Value.str (Str.ofString "&gt;") b2)]) = some (.str ⟨(pieceD c).toArray⟩) := by
  rw [dataD] at h ⊢
  rw [lookD] at h ⊢
  split at h
  · cases h
  · rename_i hp; rw [if_neg hp]
theorem lookD_none {c : Nat} {a0 b0 a1 b1 a2 b2 : Tok} (h : (Spec.lookup (.str ⟨#[c]⟩) (strData [(Value.str (Str.ofString "&") a0, Value.str (Str.ofString "&amp;") b0), (Value.str (Str.ofString "<") a1, Value.str (Str.ofString "&lt;") b1), (Value.str (Str.ofString ">") a2, Value.str (Str.ofString "&gt;") b2)])).isSome = false) : pieceD c = [c] := by
  rw [dataD, lookD] at h
  split at h
  · rename_i hp; exact hp
  · cases h
theorem w_turnD {pre : List Int} {wr : Str} {c : Nat} (h : WInvD pre wr) : WInvD (pre ++ [(c : Int)]) (wr ++ ⟨(pieceD c).toArray⟩) := by
  unfold WInvD at h ⊢
  rw [Esc.app_cps, h, List.map_append, List.flatMap_append]
  simp
theorem w_turn1D {pre : List Int} {wr : Str} {c : Nat} (h : WInvD pre wr) (hp : pieceD c = [c]) : WInvD (pre ++ [(c : Int)]) (wr ++ ⟨#[c]⟩) := by
  have := w_turnD (c := c) h
  rw [hp] at this
  exact this
theorem w_lenD {pre : List Int} {wr : Str} (h : WInvD pre wr) : wr.length ≤ 6 * pre.length := by
  rw [Esc.length_eq, h]
  refine Nat.le_trans (map_len pieceD_len _) ?_
  rw [List.length_map]
  exact Nat.le_refl _
theorem w_endD {T wr : Str} (h : WInvD (KStt.codes T) wr) : wr = escD T := by
  apply Esc.str_ext
  rw [h, escD_cps]
  congr 1
  unfold KStt.codes
  rw [List.map_map]
  have e : (Int.toNat ∘ fun (c : Nat) => (c : Int)) = id := by funext c; simp
  rw [e, List.map_id]
section
variable {prog : Program} {w : World} {A : Around} {E : Value → Shared → Prop} {s : Shared} {t u : Tok} {Q : Value → Shared → Prop}
theorem w_addD {pre : List Int} {wr : Str} {c : Nat} (h : WInvD pre wr) (hl : pre.length ≤ 63) (hq : ∀ t' k', Q (.str (wr ++ ⟨(pieceD c).toArray⟩) t') { s with toks := k' }) :
    wpAny (model prog w) A (binaryOp .Add (.str wr t) (.str ⟨(pieceD c).toArray⟩ u)) Q E s := by
  refine KOpn.add ?_ fun t' k' _ => hq t' k'
  have h1 := w_lenD h
  have h2 : (⟨(pieceD c).toArray⟩ : Str).length ≤ 6 := by rw [Esc.length_eq]; exact pieceD_len c
  omega
theorem w_add1D {pre : List Int} {wr : Str} {c : Nat} (h : WInvD pre wr) (hl : pre.length ≤ 63) (hq : ∀ t' k', Q (.str (wr ++ ⟨#[c]⟩) t') { s with toks := k' }) :
    wpAny (model prog w) A (binaryOp .Add (.str wr t) (.str ⟨#[c]⟩ u)) Q E s := by
  refine KOpn.add ?_ fun t' k' _ => hq t' k'
  have h1 := w_lenD h
  have h2 : (⟨#[c]⟩ : Str).length = 1 := rfl
  omega
end
local macro_rules | `(tactic| walk_at "getItem ref str") => `(tactic| (k_here; (have hl' := lookD_some (by assumption)); k_dflt (refine' getItem_tab PyProof.V.same_str (strKind_is _ _ _ _) ?k1 ?k2 ?_; (case k1 => k_tabat); (case k2 => exact hl')); intro v' hv'; obtain ⟨t', e'⟩ := hv'.str_inv; subst e'; clear hv'))
local macro_rules | `(tactic| walk_at "binaryOp Add str str") => `(tactic| (k_here; (rename WInvD _ _ => hW); first | (with_reducible refine w_addD hW (by omega) ?_) | (with_reducible refine w_add1D hW (by omega) ?_); intro t' k'))
theorem writtenD_call {w : World} {dp un : Nat} {gd : Option (List Code)} {cn : Str} {cs : Scope} {a : Addr} {ccd : Value} {cl : List (Str × Addr)} {outer : List Env} {A₀ : Around} {base h₀ : Heap} {L : Addr} {m : Str → Option Value} {s : Shared} {Q E : Value → Shared → Prop} {mean : ExcName → Option Value} {mg mb : Str → Option Value} {news : List (Addr × Obj)} {T : Str} {t : Tok} {d : Addr} {o : Obj} {a0 b0 a1 b1 a2 b2 : Tok}
    (k1 : Below A₀ base outer h₀) (k2 : Fr h₀ L s.heap m) (k3 : (hd.heap_39 w.params).In h₀) (k4 : News h₀ L s.heap news) (k5 : Top hd.view_39 (looseW hd.view_39 []) mean mg mb h₀) (kK : cs.kind = .function)
    (hm : (d, o) ∈ news) (lo : (d == sysModules) = false) (hdo : o.IsDictOf (PySem.strKind Challenge.rw_kp0108_01.row.prog w) (strPairs [(Value.str (Str.ofString "&") a0, Value.str (Str.ofString "&amp;") b0), (Value.str (Str.ofString "<") a1, Value.str (Str.ofString "&lt;") b1), (Value.str (Str.ofString ">") a2, Value.str (Str.ofString "&gt;") b2)])) (hfo : PyProof.V.FlatPairs PyData.str (strPairs [(Value.str (Str.ofString "&") a0, Value.str (Str.ofString "&amp;") b0), (Value.str (Str.ofString "<") a1, Value.str (Str.ofString "&lt;") b1), (Value.str (Str.ofString ">") a2, Value.str (Str.ofString "&gt;") b2)]) (strData [(Value.str (Str.ofString "&") a0, Value.str (Str.ofString "&amp;") b0), (Value.str (Str.ofString "<") a1, Value.str (Str.ofString "&lt;") b1), (Value.str (Str.ofString ">") a2, Value.str (Str.ofString "&gt;") b2)]))
    (kp : T.length ≤ 63) (kd : dp + 1 < recursionLimit) (ku : un + 8 < cLine)
    (hret : ∀ (t' : Tok) (h' : Heap) (tk' : Nat), Fr h₀ L h' m → News h₀ L h' news → Q (.str (escD T) t') { s with heap := h', toks := tk' }) :
    wpAny (model Challenge.rw_kp0108_01.row.prog w) (ktrTop dp un gd cn cs L a ccd cl outer) (call (.ref 56) [.str T t, .ref d]) Q E s := by
  revert k3; k_fill; intro k3
  replace k4 := Esc.put1 k4 hm
  refine wpAny_call ?_
  k_dflt cell_enter
  w_top off
  k_with_none
  k_with "pyIter str" => k_state (fun (pre : List Int) (wr : Str) => WInvD pre wr) "written"
  k_with "state" => first | exact w_turnD (by assumption) | exact w_turn1D (by assumption) (lookD_none (by assumption)) | exact (by decide +kernel : (Str.ofString "").cps.toList = [])
  k_steps
  all_goals (
    (rename WInvD _ _ => hI)
    have e := w_endD hI
    subst e
    refine' hret _ _ _ ?f (Esc.drop1 ?n)
    case f => assumption
    case n => assumption)
end Esc01
end
section
local macro_rules | `(tactic| walk_at "no key at all") => `(tactic| fail)
local macro_rules | `(tactic| walk_at "no key at all") => `(tactic| fail)
local macro_rules | `(tactic| walk_at "no key at all") => `(tactic| fail)
local macro_rules | `(tactic| walk_at "no key at all") => `(tactic| fail)
local macro_rules | `(tactic| walk_at "no key at all") => `(tactic| fail)
local macro_rules | `(tactic| walk_at "no key at all") => `(tactic| fail)
local macro_rules | `(tactic| walk_at "no key at all") => `(tactic| fail)
local macro_rules | `(tactic| walk_at "no key at all") => `(tactic| fail)
local macro_rules | `(tactic| walk_at "no key at all") => `(tactic| fail)
local macro_rules | `(tactic| walk_at "no key at all") => `(tactic| fail)
local macro_rules | `(tactic| walk_at "no key at all") => `(tactic| fail)
local macro_rules | `(tactic| walk_at "no key at all") => `(tactic| fail)
local macro_rules | `(tactic| walk_at "no key at all") => `(tactic| fail)
local macro_rules | `(tactic| walk_at "no key at all") => `(tactic| fail)
local macro_rules | `(tactic| walk_at "no key at all") => `(tactic| fail)
local macro_rules | `(tactic| walk_at "no key at all") => `(tactic| fail)
local macro_rules | `(tactic| walk_at "no key at all") => `(tactic| fail)
local macro_rules | `(tactic| walk_at "no key at all") => `(tactic| fail)
local macro_rules | `(tactic| walk_at "no key at all") => `(tactic| fail)
local macro_rules | `(tactic| walk_at "no key at all") => `(tactic| fail)
local macro_rules | `(tactic| walk_at "no key at all") => `(tactic| fail)
local macro_rules | `(tactic| walk_at "no key at all") => `(tactic| fail)
local macro_rules | `(tactic| walk_at "no key at all") => `(tactic| fail)
local macro_rules | `(tactic| walk_at "no key at all") => `(tactic| fail)
open PySem PySem.W PyProof.Rows
namespace Esc01
def WInvV (pre : List Int) (wr : Str) : Prop := wr.cps.toList = (pre.map Int.toNat).flatMap pieceV
def tabV : List (PyData × PyData) := [(PyData.str ⟨#[38]⟩, PyData.str ⟨#[38, 97, 109, 112, 59]⟩), (PyData.str ⟨#[60]⟩, PyData.str ⟨#[38, 108, 116, 59]⟩), (PyData.str ⟨#[62]⟩, PyData.str ⟨#[38, 103, 116, 59]⟩), (PyData.str ⟨#[34]⟩, PyData.str ⟨#[38, 113, 117, 111, 116, 59]⟩), (PyData.str ⟨#[13]⟩, PyData.str ⟨#[38, 35, 49, 51, 59]⟩), (PyData.str ⟨#[10]⟩, PyData.str ⟨#[38, 35, 49, 48, 59]⟩), (PyData.str ⟨#[9]⟩, PyData.str ⟨#[38, 35, 48, 57, 59]⟩)]
theorem dataV {a0 b0 a1 b1 a2 b2 a3 b3 a4 b4 a5 b5 a6 b6 : Tok} : strData [(Value.str (Str.ofString "&") a0, Value.str (Str.ofString "&amp;") b0), (Value.str (Str.ofString "<") a1, Value.str (Str.ofString "&lt;") b1), (Value.str (Str.ofString ">") a2, Value.str (Str.ofString "&gt;") b2), (Value.str (Str.ofString "\"") a3, Value.str (Str.ofString "&quot;") b3), (Value.str (Str.ofString "\r") a4, Value.str (Str.ofString "&#13;") b4), (Value.str (Str.ofString "\n") a5, Value.str (Str.ofString "&#10;") b5), (Value.str (Str.ofString "\t") a6, Value.str (Str.ofString "&#09;") b6)] = tabV := by
  have y0 : (Str.ofString "&") = ⟨#[38]⟩ := by decide +kernel
  have z0 : (Str.ofString "&amp;") = ⟨#[38, 97, 109, 112, 59]⟩ := by decide +kernel
  have y1 : (Str.ofString "<") = ⟨#[60]⟩ := by decide +kernel
  have z1 : (Str.ofString "&lt;") = ⟨#[38, 108, 116, 59]⟩ := by decide +kernel
  have y2 : (Str.ofString ">") = ⟨#[62]⟩ := by decide +kernel
  have z2 : (Str.ofString "&gt;") = ⟨#[38, 103, 116, 59]⟩ := by decide +kernel
  have y3 : (Str.ofString "\"") = ⟨#[34]⟩ := by decide +kernel
  have z3 : (Str.ofString "&quot;") = ⟨#[38, 113, 117, 111, 116, 59]⟩ := by decide +kernel
  have y4 : (Str.ofString "\r") = ⟨#[13]⟩ := by decide +kernel
  have z4 : (Str.ofString "&#13;") = ⟨#[38, 35, 49, 51, 59]⟩ := by decide +kernel
  have y5 : (Str.ofString "\n") = ⟨#[10]⟩ := by decide +kernel
  have z5 : (Str.ofString "&#10;") = ⟨#[38, 35, 49, 48, 59]⟩ := by decide +kernel
  have y6 : (Str.ofString "\t") = ⟨#[9]⟩ := by decide +kernel
  have z6 : (Str.ofString "&#09;") = ⟨#[38, 35, 48, 57, 59]⟩ := by decide +kernel
  rw [y0, z0, y1, z1, y2, z2, y3, z3, y4, z4, y5, z5, y6, z6]
  rfl
theorem lookV (c : Nat) : Spec.lookup (.str ⟨#[c]⟩) tabV = if pieceV c = [c] then none else some (.str ⟨(pieceV c).toArray⟩) := by
  by_cases c0 : c = 38
  · subst c0; rfl
  by_cases c1 : c = 60
  · subst c1; rfl
  by_cases c2 : c = 62
  · subst c2; rfl
  by_cases c3 : c = 34
  · subst c3; rfl
  by_cases c4 : c = 13
  · subst c4; rfl
  by_cases c5 : c = 10
  · subst c5; rfl
  by_cases c6 : c = 9
  · subst c6; rfl
  have hp : pieceV c = [c] := by simp only [pieceV, c0, c1, c2, c3, c4, c5, c6, if_false]
  rw [if_pos hp]
  have one : ∀ k : Nat, ¬ c = k → Spec.same (PyData.str ⟨#[k]⟩) (.str ⟨#[c]⟩) = false := by
    intro k hk
    rw [PyProof.V.same_str]
    apply decide_eq_false
    intro e
    have := congrArg (fun s : Str => s.cps.toList) e
    simp at this
    exact hk this.symm
  unfold tabV
  simp only [Spec.lookup, one _ c0, one _ c1, one _ c2, one _ c3, one _ c4, one _ c5, one _ c6, Bool.false_eq_true, if_false]
theorem lookV_some {c : Nat} {a0 b0 a1 b1 a2 b2 a3 b3 a4 b4 a5 b5 a6 b6 : Tok} (h : (Spec.lookup (.str ⟨#[c]⟩) (strData [(Value.str (Str.ofString "&") a0, Value.str (Str.ofString "&amp;") b0), (Value.str (Str.ofString "<") a1, Value.str (Str.ofString "&lt;") b1), (Value.str (Str.ofString ">") a2, Value.str (Str.ofString "&gt;") b2), (Value.str (Str.ofString "\"") a3, Value.str (Str.ofString "&quot;") b3), (Value.str (Str.ofString "\r") a4, Value.str (Str.ofString "&#13;") b4), (Value.str (Str.ofString "\n") a5, Value.str (Str.ofString "&#10;") b5), (Value.str (Str.ofString "\t") a6, Value.str (Str.ofString "&#09;") b6)])).isSome = true) : Spec.lookup (.str ⟨#[c]⟩) (strData [(Value.str (Str.ofString "&") a0, Value.str (Str.ofString "&amp;") b0), (Value.str (Str.ofString "<") a1, Value.str (Str.ofString "&lt;") b1), (Value.str (Str.ofString ">") a2, Value.str (Str.ofString "&gt;") b2), (Value.str (Str.ofString "\"") a3, Value.str (Str.ofString "&quot;") b3), (Value.str (Str.ofString "\r") a4, Value.str (Str.ofString "&#13;") b4), (Value.str (Str.ofString "\n") a5, Value.str (Str.ofString "&#10;") b5), (Value.str (Str.ofString "\t") a6, Value.str (Str.ofString "&#09;") b6)]) = some (.str ⟨(pieceV c).toArray⟩) := by
  rw [dataV] at h ⊢
  rw [lookV] at h ⊢
  split at h
  · cases h
  · rename_i hp; rw [if_neg hp]
theorem lookV_none {c : Nat} {a0 b0 a1 b1 a2 b2 a3 b3 a4 b4 a5 b5 a6 b6 : Tok} (h : (Spec.lookup (.str ⟨#[c]⟩) (strData [(Value.str (Str.ofString "&") a0, Value.str (Str.ofString "&amp;") b0), (Value.str (Str.ofString "<") a1, Value.str (Str.ofString "&lt;") b1), (Value.str (Str.ofString ">") a2, Value.str (Str.ofString "&gt;") b2), (Value.str (Str.ofString "\"") a3, Value.str (Str.ofString "&quot;") b3), (Value.str (Str.ofString "\r") a4, Value.str (Str.ofString "&#13;") b4), (Value.str (Str.ofString "\n") a5, Value.str (Str.ofString "&#10;") b5), (Value.str (Str.ofString "\t") a6, Value.str (Str.ofString "&#09;") b6)])).isSome = false) : pieceV c = [c] := by
  rw [dataV, lookV] at h
  split at h
  · rename_i hp; exact hp
  · cases h
theorem w_turnV {pre : List Int} {wr : Str} {c : Nat} (h : WInvV pre wr) : WInvV (pre ++ [(c : Int)]) (wr ++ ⟨(pieceV c).toArray⟩) := by
  unfold WInvV at h ⊢
  rw [Esc.app_cps, h, List.map_append, List.flatMap_append]
  simp
theorem w_turn1V {pre : List Int} {wr : Str} {c : Nat} (h : WInvV pre wr) (hp : pieceV c = [c]) : WInvV (pre ++ [(c : Int)]) (wr ++ ⟨#[c]⟩) := by
  have := w_turnV (c := c) h
  rw [hp] at this
  exact this
theorem w_lenV {pre : List Int} {wr : Str} (h : WInvV pre wr) : wr.length ≤ 6 * pre.length := by
  rw [Esc.length_eq, h]
  refine Nat.le_trans (map_len pieceV_len _) ?_
  rw [List.length_map]
  exact Nat.le_refl _
theorem w_endV {T wr : Str} (h : WInvV (KStt.codes T) wr) : wr = escV T := by
  apply Esc.str_ext
  rw [h, escV_cps]
  congr 1
  unfold KStt.codes
  rw [List.map_map]
  have e : (Int.toNat ∘ fun (c : Nat) => (c : Int)) = id := by funext c; simp
  rw [e, List.map_id]
section
variable {prog : Program} {w : World} {A : Around} {E : Value → Shared → Prop} {s : Shared} {t u : Tok} {Q : Value → Shared → Prop}
theorem w_addV {pre : List Int} {wr : Str} {c : Nat} (h : WInvV pre wr) (hl : pre.length ≤ 63) (hq : ∀ t' k', Q (.str (wr ++ ⟨(pieceV c).toArray⟩) t') { s with toks := k' }) :
    wpAny (model prog w) A (binaryOp .Add (.str wr t) (.str ⟨(pieceV c).toArray⟩ u)) Q E s := by
  refine KOpn.add ?_ fun t' k' _ => hq t' k'
  have h1 := w_lenV h
  have h2 : (⟨(pieceV c).toArray⟩ : Str).length ≤ 6 := by rw [Esc.length_eq]; exact pieceV_len c
  omega
theorem w_add1V {pre : List Int} {wr : Str} {c : Nat} (h : WInvV pre wr) (hl : pre.length ≤ 63) (hq : ∀ t' k', Q (.str (wr ++ ⟨#[c]⟩) t') { s with toks := k' }) :
    wpAny (model prog w) A (binaryOp .Add (.str wr t) (.str ⟨#[c]⟩ u)) Q E s := by
  refine KOpn.add ?_ fun t' k' _ => hq t' k'
  have h1 := w_lenV h
  have h2 : (⟨#[c]⟩ : Str).length = 1 := rfl
  omega
end
local macro_rules | `(tactic| walk_at "getItem ref str") => `(tactic| (k_here; (have hl' := lookV_some (by assumption)); k_dflt (refine' getItem_tab PyProof.V.same_str (strKind_is _ _ _ _) ?k1 ?k2 ?_; (case k1 => k_tabat); (case k2 => exact hl')); intro v' hv'; obtain ⟨t', e'⟩ := hv'.str_inv; subst e'; clear hv'))
local macro_rules | `(tactic| walk_at "binaryOp Add str str") => `(tactic| (k_here; (rename WInvV _ _ => hW); first | (with_reducible refine w_addV hW (by omega) ?_) | (with_reducible refine w_add1V hW (by omega) ?_); intro t' k'))
theorem writtenV_call {w : World} {dp un : Nat} {gd : Option (List Code)} {cn : Str} {cs : Scope} {a : Addr} {ccd : Value} {cl : List (Str × Addr)} {outer : List Env} {A₀ : Around} {base h₀ : Heap} {L : Addr} {m : Str → Option Value} {s : Shared} {Q E : Value → Shared → Prop} {mean : ExcName → Option Value} {mg mb : Str → Option Value} {news : List (Addr × Obj)} {T : Str} {t : Tok} {d : Addr} {o : Obj} {a0 b0 a1 b1 a2 b2 a3 b3 a4 b4 a5 b5 a6 b6 : Tok}
    (k1 : Below A₀ base outer h₀) (k2 : Fr h₀ L s.heap m) (k3 : (hd.heap_39 w.params).In h₀) (k4 : News h₀ L s.heap news) (k5 : Top hd.view_39 (looseW hd.view_39 []) mean mg mb h₀) (kK : cs.kind = .function)
    (hm : (d, o) ∈ news) (lo : (d == sysModules) = false) (hdo : o.IsDictOf (PySem.strKind Challenge.rw_kp0108_01.row.prog w) (strPairs [(Value.str (Str.ofString "&") a0, Value.str (Str.ofString "&amp;") b0), (Value.str (Str.ofString "<") a1, Value.str (Str.ofString "&lt;") b1), (Value.str (Str.ofString ">") a2, Value.str (Str.ofString "&gt;") b2), (Value.str (Str.ofString "\"") a3, Value.str (Str.ofString "&quot;") b3), (Value.str (Str.ofString "\r") a4, Value.str (Str.ofString "&#13;") b4), (Value.str (Str.ofString "\n") a5, Value.str (Str.ofString "&#10;") b5), (Value.str (Str.ofString "\t") a6, Value.str (Str.ofString "&#09;") b6)])) (hfo : PyProof.V.FlatPairs PyData.str (strPairs [(Value.str (Str.ofString "&") a0, Value.str (Str.ofString "&amp;") b0), (Value.str (Str.ofString "<") a1, Value.str (Str.ofString "&lt;") b1), (Value.str (Str.ofString ">") a2, Value.str (Str.ofString "&gt;") b2), (Value.str (Str.ofString "\"") a3, Value.str (Str.ofString "&quot;") b3), (Value.str (Str.ofString "\r") a4, Value.str (Str.ofString "&#13;") b4), (Value.str (Str.ofString "\n") a5, Value.str (Str.ofString "&#10;") b5), (Value.str (Str.ofString "\t") a6, Value.str (Str.ofString "&#09;") b6)]) (strData [(Value.str (Str.ofString "&") a0, Value.str (Str.ofString "&amp;") b0), (Value.str (Str.ofString "<") a1, Value.str (Str.ofString "&lt;") b1), (Value.str (Str.ofString ">") a2, Value.str (Str.ofString "&gt;") b2), (Value.str (Str.ofString "\"") a3, Value.str (Str.ofString "&quot;") b3), (Value.str (Str.ofString "\r") a4, Value.str (Str.ofString "&#13;") b4), (Value.str (Str.ofString "\n") a5, Value.str (Str.ofString "&#10;") b5), (Value.str (Str.ofString "\t") a6, Value.str (Str.ofString "&#09;") b6)]))
    (kp : T.length ≤ 63) (kd : dp + 1 < recursionLimit) (ku : un + 8 < cLine)
    (hret : ∀ (t' : Tok) (h' : Heap) (tk' : Nat), Fr h₀ L h' m → News h₀ L h' news → Q (.str (escV T) t') { s with heap := h', toks := tk' }) :
    wpAny (model Challenge.rw_kp0108_01.row.prog w) (ktrTop dp un gd cn cs L a ccd cl outer) (call (.ref 56) [.str T t, .ref d]) Q E s := by
  revert k3; k_fill; intro k3
  replace k4 := Esc.put1 k4 hm
  refine wpAny_call ?_
  k_dflt cell_enter
  w_top off
  k_with_none
  k_with "pyIter str" => k_state (fun (pre : List Int) (wr : Str) => WInvV pre wr) "written"
  k_with "state" => first | exact w_turnV (by assumption) | exact w_turn1V (by assumption) (lookV_none (by assumption)) | exact (by decide +kernel : (Str.ofString "").cps.toList = [])
  k_steps
  all_goals (
    (rename WInvV _ _ => hI)
    have e := w_endV hI
    subst e
    refine' hret _ _ _ ?f (Esc.drop1 ?n)
    case f => assumption
    case n => assumption)
end Esc01
end
section
local macro_rules | `(tactic| walk_at "no key at all") => `(tactic| fail)
local macro_rules | `(tactic| walk_at "no key at all") => `(tactic| fail)
local macro_rules | `(tactic| walk_at "no key at all") => `(tactic| fail)
local macro_rules | `(tactic| walk_at "no key at all") => `(tactic| fail)
local macro_rules | `(tactic| walk_at "no key at all") => `(tactic| fail)
local macro_rules | `(tactic| walk_at "no key at all") => `(tactic| fail)
local macro_rules | `(tactic| walk_at "no key at all") => `(tactic| fail)
local macro_rules | `(tactic| walk_at "no key at all") => `(tactic| fail)
local macro_rules | `(tactic| walk_at "no key at all") => `(tactic| fail)
local macro_rules | `(tactic| walk_at "no key at all") => `(tactic| fail)
local macro_rules | `(tactic| walk_at "no key at all") => `(tactic| fail)
local macro_rules | `(tactic| walk_at "no key at all") => `(tactic| fail)
local macro_rules | `(tactic| walk_at "no key at all") => `(tactic| fail)
local macro_rules | `(tactic| walk_at "no key at all") => `(tactic| fail)
local macro_rules | `(tactic| walk_at "no key at all") => `(tactic| fail)
local macro_rules | `(tactic| walk_at "no key at all") => `(tactic| fail)
local macro_rules | `(tactic| walk_at "no key at all") => `(tactic| fail)
local macro_rules | `(tactic| walk_at "no key at all") => `(tactic| fail)
local macro_rules | `(tactic| walk_at "no key at all") => `(tactic| fail)
local macro_rules | `(tactic| walk_at "no key at all") => `(tactic| fail)
local macro_rules | `(tactic| walk_at "no key at all") => `(tactic| fail)
local macro_rules | `(tactic| walk_at "no key at all") => `(tactic| fail)
local macro_rules | `(tactic| walk_at "no key at all") => `(tactic| fail)
local macro_rules | `(tactic| walk_at "no key at all") => `(tactic| fail)
local macro_rules | `(tactic| walk_at "no key at all") => `(tactic| fail)
open PySem PySem.W PyProof.Rows
namespace Esc01
def WInvH (pre : List Int) (wr : Str) : Prop := wr.cps.toList = (pre.map Int.toNat).flatMap pieceH
def tabH : List (PyData × PyData) := [(PyData.str ⟨#[38]⟩, PyData.str ⟨#[38, 97, 109, 112, 59]⟩), (PyData.str ⟨#[62]⟩, PyData.str ⟨#[38, 103, 116, 59]⟩), (PyData.str ⟨#[34]⟩, PyData.str ⟨#[38, 113, 117, 111, 116, 59]⟩)]
theorem dataH {a0 b0 a1 b1 a2 b2 : Tok} : strData [(Value.str (Str.ofString "&") a0, Value.str (Str.ofString "&amp;") b0), (Value.str (Str.ofString ">") a1, Value.str (Str.ofString "&gt;") b1), (Value.str (Str.ofString "\"") a2, Value.str (Str.ofString "&quot;") b2)] = tabH := by
  have y0 : (Str.ofString "&") = ⟨#[38]⟩ := by decide +kernel
  have z0 : (Str.ofString "&amp;") = ⟨#[38, 97, 109, 112, 59]⟩ := by decide +kernel
  have y1 : (Str.ofString ">") = ⟨#[62]⟩ := by decide +kernel
  have z1 : (Str.ofString "&gt;") = ⟨#[38, 103, 116, 59]⟩ := by decide +kernel
  have y2 : (Str.ofString "\"") = ⟨#[34]⟩ := by decide +kernel
  have z2 : (Str.ofString "&quot;") = ⟨#[38, 113, 117, 111, 116, 59]⟩ := by decide +kernel
  rw [y0, z0, y1, z1, y2, z2]
  rfl
theorem lookH (c : Nat) : Spec.lookup (.str ⟨#[c]⟩) tabH = if pieceH c = [c] then none else some (.str ⟨(pieceH c).toArray⟩) := by
  by_cases c0 : c = 38
  · subst c0; rfl
  by_cases c1 : c = 62
  · subst c1; rfl
  by_cases c2 : c = 34
  · subst c2; rfl
  have hp : pieceH c = [c] := by simp only [pieceH, c0, c1, c2, if_false]
  rw [if_pos hp]
  have one : ∀ k : Nat, ¬ c = k → Spec.same (PyData.str ⟨#[k]⟩) (.str ⟨#[c]⟩) = false := by
    intro k hk
    rw [PyProof.V.same_str]
    apply decide_eq_false
    intro e
    have := congrArg (fun s : Str => s.cps.toList) e
    simp at this
    exact hk this.symm
  unfold tabH
  simp only [Spec.lookup, one _ c0, one _ c1, one _ c2, Bool.false_eq_true, if_false]
theorem lookH_some {c : Nat} {a0 b0 a1 b1 a2 b2 : Tok} (h : (Spec.lookup (.str ⟨#[c]⟩) (strData [(Value.str (Str.ofString "&") a0, Value.str (Str.ofString "&amp;") b0), (Value.str (Str.ofString ">") a1, Value.str (Str.ofString "&gt;") b1), (Value.str (Str.ofString "\"") a2, Value.str (Str.ofString "&quot;") b2)])).isSome = true) : Spec.lookup (.str ⟨#[c]⟩) (strData [(Value.str (Str.ofString "&") a0, Value.str (Str.ofString "&amp;") b0), (Value.str (Str.ofString ">") a1, Value.str (Str.ofString "&gt;") b1), (Value.str (Str.ofString "\"") a2, Value.str (Str.ofString "&quot;") b2)]) = some (.str ⟨(pieceH c).toArray⟩) := by
  rw [dataH] at h ⊢
  rw [lookH] at h ⊢
  split at h
  · cases h
  · rename_i hp; rw [if_neg hp]
theorem lookH_none {c : Nat} {a0 b0 a1 b1 a2 b2 : Tok} (h : (Spec.lookup (.str ⟨#[c]⟩) (strData [(Value.str (Str.ofString "&") a0, Value.str (Str.ofString "&amp;") b0), (Value.str (Str.ofString ">") a1, Value.str (Str.ofString "&gt;") b1), (Value.str (Str.ofString "\"") a2, Value.str (Str.ofString "&quot;") b2)])).isSome = false) : pieceH c = [c] := by
  rw [dataH, lookH] at h
  split at h
  · rename_i hp; exact hp
  · cases h
theorem w_turnH {pre : List Int} {wr : Str} {c : Nat} (h : WInvH pre wr) : WInvH (pre ++ [(c : Int)]) (wr ++ ⟨(pieceH c).toArray⟩) := by
  unfold WInvH at h ⊢
  rw [Esc.app_cps, h, List.map_append, List.flatMap_append]
  simp
theorem w_turn1H {pre : List Int} {wr : Str} {c : Nat} (h : WInvH pre wr) (hp : pieceH c = [c]) : WInvH (pre ++ [(c : Int)]) (wr ++ ⟨#[c]⟩) := by
  have := w_turnH (c := c) h
  rw [hp] at this
  exact this
theorem w_lenH {pre : List Int} {wr : Str} (h : WInvH pre wr) : wr.length ≤ 6 * pre.length := by
  rw [Esc.length_eq, h]
  refine Nat.le_trans (map_len pieceH_len _) ?_
  rw [List.length_map]
  exact Nat.le_refl _
theorem w_endH {T wr : Str} (h : WInvH (KStt.codes T) wr) : wr = escH T := by
  apply Esc.str_ext
  rw [h, escH_cps]
  congr 1
  unfold KStt.codes
  rw [List.map_map]
  have e : (Int.toNat ∘ fun (c : Nat) => (c : Int)) = id := by funext c; simp
  rw [e, List.map_id]
section
variable {prog : Program} {w : World} {A : Around} {E : Value → Shared → Prop} {s : Shared} {t u : Tok} {Q : Value → Shared → Prop}
theorem w_addH {pre : List Int} {wr : Str} {c : Nat} (h : WInvH pre wr) (hl : pre.length ≤ 63) (hq : ∀ t' k', Q (.str (wr ++ ⟨(pieceH c).toArray⟩) t') { s with toks := k' }) :
    wpAny (model prog w) A (binaryOp .Add (.str wr t) (.str ⟨(pieceH c).toArray⟩ u)) Q E s := by
  refine KOpn.add ?_ fun t' k' _ => hq t' k'
  have h1 := w_lenH h
  have h2 : (⟨(pieceH c).toArray⟩ : Str).length ≤ 6 := by rw [Esc.length_eq]; exact pieceH_len c
  omega
theorem w_add1H {pre : List Int} {wr : Str} {c : Nat} (h : WInvH pre wr) (hl : pre.length ≤ 63) (hq : ∀ t' k', Q (.str (wr ++ ⟨#[c]⟩) t') { s with toks := k' }) :
    wpAny (model prog w) A (binaryOp .Add (.str wr t) (.str ⟨#[c]⟩ u)) Q E s := by
  refine KOpn.add ?_ fun t' k' _ => hq t' k'
  have h1 := w_lenH h
  have h2 : (⟨#[c]⟩ : Str).length = 1 := rfl
  omega
end
local macro_rules | `(tactic| walk_at "getItem ref str") => `(tactic| (k_here; (have hl' := lookH_some (by assumption)); k_dflt (refine' getItem_tab PyProof.V.same_str (strKind_is _ _ _ _) ?k1 ?k2 ?_; (case k1 => k_tabat); (case k2 => exact hl')); intro v' hv'; obtain ⟨t', e'⟩ := hv'.str_inv; subst e'; clear hv'))
local macro_rules | `(tactic| walk_at "binaryOp Add str str") => `(tactic| (k_here; (rename WInvH _ _ => hW); first | (with_reducible refine w_addH hW (by omega) ?_) | (with_reducible refine w_add1H hW (by omega) ?_); intro t' k'))
theorem writtenH_call {w : World} {dp un : Nat} {gd : Option (List Code)} {cn : Str} {cs : Scope} {a : Addr} {ccd : Value} {cl : List (Str × Addr)} {outer : List Env} {A₀ : Around} {base h₀ : Heap} {L : Addr} {m : Str → Option Value} {s : Shared} {Q E : Value → Shared → Prop} {mean : ExcName → Option Value} {mg mb : Str → Option Value} {news : List (Addr × Obj)} {T : Str} {t : Tok} {d : Addr} {o : Obj} {a0 b0 a1 b1 a2 b2 : Tok}
    (k1 : Below A₀ base outer h₀) (k2 : Fr h₀ L s.heap m) (k3 : (hd.heap_39 w.params).In h₀) (k4 : News h₀ L s.heap news) (k5 : Top hd.view_39 (looseW hd.view_39 []) mean mg mb h₀) (kK : cs.kind = .function)
    (hm : (d, o) ∈ news) (lo : (d == sysModules) = false) (hdo : o.IsDictOf (PySem.strKind Challenge.rw_kp0108_01.row.prog w) (strPairs [(Value.str (Str.ofString "&") a0, Value.str (Str.ofString "&amp;") b0), (Value.str (Str.ofString ">") a1, Value.str (Str.ofString "&gt;") b1), (Value.str (Str.ofString "\"") a2, Value.str (Str.ofString "&quot;") b2)])) (hfo : PyProof.V.FlatPairs PyData.str (strPairs [(Value.str (Str.ofString "&") a0, Value.str (Str.ofString "&amp;") b0), (Value.str (Str.ofString ">") a1, Value.str (Str.ofString "&gt;") b1), (Value.str (Str.ofString "\"") a2, Value.str (Str.ofString "&quot;") b2)]) (strData [(Value.str (Str.ofString "&") a0, Value.str (Str.ofString "&amp;") b0), (Value.str (Str.ofString ">") a1, Value.str (Str.ofString "&gt;") b1), (Value.str (Str.ofString "\"") a2, Value.str (Str.ofString "&quot;") b2)]))
    (kp : T.length ≤ 63) (kd : dp + 1 < recursionLimit) (ku : un + 8 < cLine)
    (hret : ∀ (t' : Tok) (h' : Heap) (tk' : Nat), Fr h₀ L h' m → News h₀ L h' news → Q (.str (escH T) t') { s with heap := h', toks := tk' }) :
    wpAny (model Challenge.rw_kp0108_01.row.prog w) (ktrTop dp un gd cn cs L a ccd cl outer) (call (.ref 56) [.str T t, .ref d]) Q E s := by
  revert k3; k_fill; intro k3
  replace k4 := Esc.put1 k4 hm
  refine wpAny_call ?_
  k_dflt cell_enter
  w_top off
  k_with_none
  k_with "pyIter str" => k_state (fun (pre : List Int) (wr : Str) => WInvH pre wr) "written"
  k_with "state" => first | exact w_turnH (by assumption) | exact w_turn1H (by assumption) (lookH_none (by assumption)) | exact (by decide +kernel : (Str.ofString "").cps.toList = [])
  k_steps
  all_goals (
    (rename WInvH _ _ => hI)
    have e := w_endH hI
    subst e
    refine' hret _ _ _ ?f (Esc.drop1 ?n)
    case f => assumption
    case n => assumption)
end Esc01
end
section
open PySem PySem.W PyProof.Rows
namespace Esc
theorem fr_at {h₀ h : Heap} {L : Addr} {m : Str → Option Value} (_F : Fr h₀ L h m) {x : Str} {v : Value} (_hv : m x = some v) : True := trivial
end Esc
namespace Esc01
open Esc
theorem slice_63 {T : Str} {i j : Option Int} (h : T.length ≤ 63) : (Txt.slice T i j).length ≤ 63 := Nat.le_trans (Txt.slice_le T i j) h
theorem no0 (a : Str) : ¬ ((a != a) = true) := no_not rfl
def BInvD (T : Str) (pre : List Int) (b : Int) : Prop := 0 ≤ b ∧ b ≤ (((T.cps.toList.take pre.length).flatMap pieceD).length : Int)
theorem b_startD (T : Str) : BInvD T [] 0 := ⟨Int.le_refl _, Int.natCast_nonneg _⟩
theorem b_turnD {T : Str} {pre : List Int} {k x : Int} (hk : k = (pre.length : Int)) (hT : k ≤ T.length) : BInvD T (pre ++ [x]) (((escD (Txt.slice T none (some k))).length : Nat) : Int) := by
  subst hk
  refine ⟨Int.natCast_nonneg _, ?_⟩
  rw [escD_take (Int.natCast_nonneg _) hT]
  have h := escD_grows (T := T) (i := ((pre.length : Int)).toNat) (j := (pre ++ [x]).length) (by simp)
  omega
theorem no2D {T : Str} {pre : List Int} {b k : Int} (h : BInvD T pre b) (hk : k = (pre.length : Int)) (hT : k ≤ T.length) : ¬ (decide ((((escD (Txt.slice T none (some k))).length : Nat) : Int) < b) = true) := by
  subst hk
  rw [escD_take (Int.natCast_nonneg _) hT]
  have h2 := h.2
  rw [Int.toNat_natCast]
  intro e
  have := of_decide_eq_true e
  omega
def BInvV (T : Str) (pre : List Int) (b : Int) : Prop := 0 ≤ b ∧ b ≤ (((T.cps.toList.take pre.length).flatMap pieceV).length : Int)
theorem b_startV (T : Str) : BInvV T [] 0 := ⟨Int.le_refl _, Int.natCast_nonneg _⟩
theorem b_turnV {T : Str} {pre : List Int} {k x : Int} (hk : k = (pre.length : Int)) (hT : k ≤ T.length) : BInvV T (pre ++ [x]) (((escV (Txt.slice T none (some k))).length : Nat) : Int) := by
  subst hk
  refine ⟨Int.natCast_nonneg _, ?_⟩
  rw [escV_take (Int.natCast_nonneg _) hT]
  have h := escV_grows (T := T) (i := ((pre.length : Int)).toNat) (j := (pre ++ [x]).length) (by simp)
  omega
theorem no2V {T : Str} {pre : List Int} {b k : Int} (h : BInvV T pre b) (hk : k = (pre.length : Int)) (hT : k ≤ T.length) : ¬ (decide ((((escV (Txt.slice T none (some k))).length : Nat) : Int) < b) = true) := by
  subst hk
  rw [escV_take (Int.natCast_nonneg _) hT]
  have h2 := h.2
  rw [Int.toNat_natCast]
  intro e
  have := of_decide_eq_true e
  omega
def BInvH (T : Str) (pre : List Int) (b : Int) : Prop := 0 ≤ b ∧ b ≤ (((T.cps.toList.take pre.length).flatMap pieceH).length : Int)
theorem b_startH (T : Str) : BInvH T [] 0 := ⟨Int.le_refl _, Int.natCast_nonneg _⟩
theorem b_turnH {T : Str} {pre : List Int} {k x : Int} (hk : k = (pre.length : Int)) (hT : k ≤ T.length) : BInvH T (pre ++ [x]) (((escH (Txt.slice T none (some k))).length : Nat) : Int) := by
  subst hk
  refine ⟨Int.natCast_nonneg _, ?_⟩
  rw [escH_take (Int.natCast_nonneg _) hT]
  have h := escH_grows (T := T) (i := ((pre.length : Int)).toNat) (j := (pre ++ [x]).length) (by simp)
  omega
theorem no2H {T : Str} {pre : List Int} {b k : Int} (h : BInvH T pre b) (hk : k = (pre.length : Int)) (hT : k ≤ T.length) : ¬ (decide ((((escH (Txt.slice T none (some k))).length : Nat) : Int) < b) = true) := by
  subst hk
  rw [escH_take (Int.natCast_nonneg _) hT]
  have h2 := h.2
  rw [Int.toNat_natCast]
  intro e
  have := of_decide_eq_true e
  omega
section
variable {prog : Program} {w : World} {A : Around} {E : Value → Shared → Prop} {s : Shared} {t u : Tok} {Q : Value → Shared → Prop}
theorem len_D {T : Str} {i j : Option Int} (hT : T.length ≤ 63) (h : ∀ t' k, Q (.int (((escD (Txt.slice T i j)).length : Nat) : Int) t') { s with toks := k }) : wpAny (model prog w) A (call (.builtin "len") [.str (escD (Txt.slice T i j)) t]) Q E s := by
  have hb := escD_400 (slice_63 (i := i) (j := j) hT)
  generalize escD (Txt.slice T i j) = x at *
  first
    | exact P.len_str (by omega) (h _ _)
    | exact PyProof.Rows.P.len_str (by omega) (h _ _)
theorem len_V {T : Str} {i j : Option Int} (hT : T.length ≤ 63) (h : ∀ t' k, Q (.int (((escV (Txt.slice T i j)).length : Nat) : Int) t') { s with toks := k }) : wpAny (model prog w) A (call (.builtin "len") [.str (escV (Txt.slice T i j)) t]) Q E s := by
  have hb := escV_400 (slice_63 (i := i) (j := j) hT)
  generalize escV (Txt.slice T i j) = x at *
  first
    | exact P.len_str (by omega) (h _ _)
    | exact PyProof.Rows.P.len_str (by omega) (h _ _)
theorem len_H {T : Str} {i j : Option Int} (hT : T.length ≤ 63) (h : ∀ t' k, Q (.int (((escH (Txt.slice T i j)).length : Nat) : Int) t') { s with toks := k }) : wpAny (model prog w) A (call (.builtin "len") [.str (escH (Txt.slice T i j)) t]) Q E s := by
  have hb := escH_400 (slice_63 (i := i) (j := j) hT)
  generalize escH (Txt.slice T i j) = x at *
  first
    | exact P.len_str (by omega) (h _ _)
    | exact PyProof.Rows.P.len_str (by omega) (h _ _)
end
end Esc01
end
local macro_rules | `(tactic| walk_at "no key at all") => `(tactic| fail)
local macro_rules | `(tactic| walk_at "no key at all") => `(tactic| fail)
local macro_rules | `(tactic| walk_at "no key at all") => `(tactic| fail)
local macro_rules | `(tactic| walk_at "no key at all") => `(tactic| fail)
local macro_rules | `(tactic| walk_at "no key at all") => `(tactic| fail)
local macro_rules | `(tactic| walk_at "no key at all") => `(tactic| fail)
local macro_rules | `(tactic| walk_at "no key at all") => `(tactic| fail)
local macro_rules | `(tactic| walk_at "no key at all") => `(tactic| fail)
local macro_rules | `(tactic| walk_at "no key at all") => `(tactic| fail)
local macro_rules | `(tactic| walk_at "no key at all") => `(tactic| fail)
local macro_rules | `(tactic| walk_at "no key at all") => `(tactic| fail)
local macro_rules | `(tactic| walk_at "no key at all") => `(tactic| fail)
local macro_rules | `(tactic| walk_at "no key at all") => `(tactic| fail)
local macro_rules | `(tactic| walk_at "no key at all") => `(tactic| fail)
local macro_rules | `(tactic| walk_at "no key at all") => `(tactic| fail)
local macro_rules | `(tactic| walk_at "no key at all") => `(tactic| fail)
local macro_rules | `(tactic| walk_at "no key at all") => `(tactic| fail)
local macro_rules | `(tactic| walk_at "no key at all") => `(tactic| fail)
local macro_rules | `(tactic| walk_at "no key at all") => `(tactic| fail)
open PySem PySem.W PyProof.Rows
local macro_rules | `(tactic| walk_at "call builtin:str.join") => `(tactic| (k_here; (with_reducible show wpAny _ _ (call (Value.builtin "str.join") [Value.str _ _, Value.ref _]) _ _ _); (with_reducible rename CarriedAll _ (List.map _ _) => ktC); (refine Esc.join_any (by first | assumption | is_list | exact News.isList (by k_asm) (by k_mem)) ktC (by intro ktA ktM; (try dsimp only); (repeat' split) <;> first | omega | exact Nat.le_refl _ | exact Nat.le_of_ble_eq_true rfl) (by omega) ?_; clear ktC; intro T hT t' k')))
local macro_rules | `(tactic| walk_at "eval Dict cons cons") => `(tactic| (k_here; (with_reducible show wpAny _ _ (eval (Expr.Dict (none :: _) _ _) _) _ _ _); k_dflt (refine' Esc01.star_V ?F ?N ?big ?he ?hm ?lo ?hda ?hall ?hl ?h0 ?hlen ?hD ?_; (case F => k_asm); (case N => k_asm); (case big => exact modules_low (Top.nolimit (by k_asm))); (case he => (intro h' Q' F' hq'; exact ld F' (by with_unfolding_all rfl) hq')); (case hm => k_mem); (case lo => assumption); (case hda => assumption); (case hall => rfl); (case hl => rfl); (case h0 => (intro e; cases e)); (case hlen => exact Nat.le_of_ble_eq_true rfl); (case hD => with_unfolding_all rfl)); intro d' h' o' a3 b3 a4 b4 a5 b5 a6 b6 tk' F' N' l1 lo' hd' hf'; (try k_lt l1)))
local macro_rules | `(tactic| walk_at "call ref") => `(tactic| (k_here; (with_reducible show wpAny _ _ (call (Value.ref _) (Value.str _ _ :: _)) _ _ _); k_dflt (first
  | (refine' Esc01.escD_call ?k1 ?k2 ?k3 ?k4 ?k5 ?kK ?kp ?kd ?ku ?_; (case k1 => k_asm); (case k2 => k_asm); (case k3 => k_asm); (case k4 => k_asm); (case k5 => k_asm); (case kK => first | exact rfl | assumption); (case kp => with_reducible first | assumption | exact Esc01.slice_63 (by assumption)); (case kd => ktr_room); (case ku => ktr_units); intro t' h' tk' F' N')
  | (refine' Esc01.escV_call ?k1 ?k2 ?k3 ?k4 ?k5 ?kK ?kp ?kd ?ku ?_; (case k1 => k_asm); (case k2 => k_asm); (case k3 => k_asm); (case k4 => k_asm); (case k5 => k_asm); (case kK => first | exact rfl | assumption); (case kp => with_reducible first | assumption | exact Esc01.slice_63 (by assumption)); (case kd => ktr_room); (case ku => ktr_units); intro t' h' tk' F' N')
  | (refine' Esc01.escH_call ?k1 ?k2 ?k3 ?k4 ?k5 ?kK ?kp ?kd ?ku ?_; (case k1 => k_asm); (case k2 => k_asm); (case k3 => k_asm); (case k4 => k_asm); (case k5 => k_asm); (case kK => first | exact rfl | assumption); (case kp => with_reducible first | assumption | exact Esc01.slice_63 (by assumption)); (case kd => ktr_room); (case ku => ktr_units); intro t' h' tk' F' N')
  | (refine' Esc01.writtenD_call ?k1 ?k2 ?k3 ?k4 ?k5 ?kK ?hm ?lo ?hdo ?hfo ?kp ?kd ?ku ?_; (case k1 => k_asm); (case k2 => k_asm); (case k3 => k_asm); (case k4 => k_asm); (case k5 => k_asm); (case kK => first | exact rfl | assumption); (case hm => k_mem); (case lo => with_reducible assumption); (case hdo => with_reducible assumption); (case hfo => with_reducible assumption); (case kp => with_reducible first | assumption | exact Esc01.slice_63 (by assumption)); (case kd => ktr_room); (case ku => ktr_units); intro t' h' tk' F' N')
  | (refine' Esc01.writtenV_call ?k1 ?k2 ?k3 ?k4 ?k5 ?kK ?hm ?lo ?hdo ?hfo ?kp ?kd ?ku ?_; (case k1 => k_asm); (case k2 => k_asm); (case k3 => k_asm); (case k4 => k_asm); (case k5 => k_asm); (case kK => first | exact rfl | assumption); (case hm => k_mem); (case lo => with_reducible assumption); (case hdo => with_reducible assumption); (case hfo => with_reducible assumption); (case kp => with_reducible first | assumption | exact Esc01.slice_63 (by assumption)); (case kd => ktr_room); (case ku => ktr_units); intro t' h' tk' F' N')
  | (refine' Esc01.writtenH_call ?k1 ?k2 ?k3 ?k4 ?k5 ?kK ?hm ?lo ?hdo ?hfo ?kp ?kd ?ku ?_; (case k1 => k_asm); (case k2 => k_asm); (case k3 => k_asm); (case k4 => k_asm); (case k5 => k_asm); (case kK => first | exact rfl | assumption); (case hm => k_mem); (case lo => with_reducible assumption); (case hdo => with_reducible assumption); (case hfo => with_reducible assumption); (case kp => with_reducible first | assumption | exact Esc01.slice_63 (by assumption)); (case kd => ktr_room); (case ku => ktr_units); intro t' h' tk' F' N')
  | (refine' Esc01.readD_call ?k1 ?k2 ?k3 ?k4 ?k5 ?kK ?hm ?lo ?hdo ?hfo ?kp ?kd ?ku ?_; (case k1 => k_asm); (case k2 => k_asm); (case k3 => k_asm); (case k4 => k_asm); (case k5 => k_asm); (case kK => first | exact rfl | assumption); (case hm => k_mem); (case lo => with_reducible assumption); (case hdo => with_reducible assumption); (case hfo => with_reducible assumption); (case kp => with_reducible exact Esc01.escD_400 (by assumption)); (case kd => ktr_room); (case ku => ktr_units); intro t' h' tk' F' N')
  | (refine' Esc01.readV_call ?k1 ?k2 ?k3 ?k4 ?k5 ?kK ?hm ?lo ?hdo ?hfo ?kp ?kd ?ku ?_; (case k1 => k_asm); (case k2 => k_asm); (case k3 => k_asm); (case k4 => k_asm); (case k5 => k_asm); (case kK => first | exact rfl | assumption); (case hm => k_mem); (case lo => with_reducible assumption); (case hdo => with_reducible assumption); (case hfo => with_reducible assumption); (case kp => with_reducible exact Esc01.escV_400 (by assumption)); (case kd => ktr_room); (case ku => ktr_units); intro t' h' tk' F' N')
  | (refine' Esc01.readH_call ?k1 ?k2 ?k3 ?k4 ?k5 ?kK ?hm ?lo ?hdo ?hfo ?kp ?kd ?ku ?_; (case k1 => k_asm); (case k2 => k_asm); (case k3 => k_asm); (case k4 => k_asm); (case k5 => k_asm); (case kK => first | exact rfl | assumption); (case hm => k_mem); (case lo => with_reducible assumption); (case hdo => with_reducible assumption); (case hfo => with_reducible assumption); (case kp => with_reducible exact Esc01.escH_400 (by assumption)); (case kd => ktr_room); (case ku => ktr_units); intro t' h' tk' F' N'))))
local macro_rules | `(tactic| walk_at "pyIter ref") => `(tactic| ((rename IsRange _ _ _ _ _ _ _ _ => hR); (rename Fr _ _ _ _ => F'); (have hE := Esc.fr_at F' (x := Str.ofString "escape") (v := Value.ref 28) (by with_unfolding_all rfl)); clear hE; k_state_given ["text"] (fun (T : Str) (pre : List Int) (b : Int) => Esc01.BInvD T pre b) "before"))
local macro_rules | `(tactic| walk_at "pyIter ref") => `(tactic| ((rename IsRange _ _ _ _ _ _ _ _ => hR); (rename Fr _ _ _ _ => F'); (have hE := Esc.fr_at F' (x := Str.ofString "escape") (v := Value.ref 35) (by with_unfolding_all rfl)); clear hE; k_state_given ["text"] (fun (T : Str) (pre : List Int) (b : Int) => Esc01.BInvV T pre b) "before"))
local macro_rules | `(tactic| walk_at "pyIter ref") => `(tactic| ((rename IsRange _ _ _ _ _ _ _ _ => hR); (rename Fr _ _ _ _ => F'); (have hE := Esc.fr_at F' (x := Str.ofString "escape") (v := Value.ref 42) (by with_unfolding_all rfl)); clear hE; k_state_given ["text"] (fun (T : Str) (pre : List Int) (b : Int) => Esc01.BInvH T pre b) "before"))
local macro_rules | `(tactic| walk_at "ite") => `(tactic| (k_here; with_reducible first | refine ite_neg (Esc01.no0 _) ?_ | refine ite_neg (Esc01.no1D _) ?_ | refine ite_neg (Esc01.no1V _) ?_ | refine ite_neg (Esc01.no1H _) ?_))
local macro_rules | `(tactic| walk_at "call builtin:len") => `(tactic| (k_here; (with_reducible show wpAny _ _ (call (Value.builtin "len") [Value.str _ _]) _ _ _); with_reducible first | (refine Esc01.len_D (by assumption) ?_; intro t' k') | (refine Esc01.len_V (by assumption) ?_; intro t' k') | (refine Esc01.len_H (by assumption) ?_; intro t' k')))
local macro_rules | `(tactic| walk_at "ite") => `(tactic| (k_here; (with_reducible show (ite (Eq (decide (LT.lt (Nat.cast (Str.length _)) _)) true) _ _)); with_reducible first
  | ((rename Esc01.BInvH _ _ _ => hB); refine ite_neg (Esc01.no2H hB ?k1 ?k2) ?_; (case k1 => omega); (case k2 => omega))
  | ((rename Esc01.BInvV _ _ _ => hB); refine ite_neg (Esc01.no2V hB ?k1 ?k2) ?_; (case k1 => omega); (case k2 => omega))
  | ((rename Esc01.BInvD _ _ _ => hB); refine ite_neg (Esc01.no2D hB ?k1 ?k2) ?_; (case k1 => omega); (case k2 => omega))))
theorem PySem.Challenge.cw_kp0108_01_holds : PySem.Challenge.rw_kp0108_01.Holds := by
  exact Esc01.hd (by
    k_with_none
    k_with "state" => with_reducible first | exact Esc01.b_startD _ | exact Esc01.b_startV _ | exact Esc01.b_startH _ | exact Esc01.b_turnD (by omega) (by omega) | exact Esc01.b_turnV (by omega) (by omega) | exact Esc01.b_turnH (by omega) (by omega)
    k_go0; (all_goals try k_fold); k_steps)
