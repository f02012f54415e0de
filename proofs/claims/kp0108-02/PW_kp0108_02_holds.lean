import PyProof.Rows.All
import Wide.All
import OpenK.AllK
import Wide.FinOn
import PySem.Challenge.RW_kp0108_02
open PySem PySem.W PyProof.Rows
set_option Elab.async false
set_option maxRecDepth 100000
set_option maxHeartbeats 8000000
set_option rowWalk.seconds 0
namespace Esc02
open_top hd for PySem.Challenge.rw_kp0108_02
end Esc02
section
open PySem PySem.W PyProof.Rows
namespace Esc

/-! ## replace of one sign, as a map over the signs -/

def put (c : Nat) (z : List Nat) (l : List Nat) : List Nat := l.flatMap fun a => if a = c then z else [a]

theorem put_nil (c : Nat) (z : List Nat) : put c z [] = [] := rfl
theorem put_cons (c : Nat) (z : List Nat) (a : Nat) (l : List Nat) : put c z (a :: l) = (if a = c then z else [a]) ++ put c z l := by
  unfold put; rw [List.flatMap_cons]
theorem put_append (c : Nat) (z : List Nat) (a b : List Nat) : put c z (a ++ b) = put c z a ++ put c z b := by
  unfold put; rw [List.flatMap_append]
theorem put_free (c : Nat) (z : List Nat) : ∀ l : List Nat, c ∉ l → put c z l = l
  | [], _ => rfl
  | k :: r, h => by
    have h1 : ¬ k = c := fun e => h (e ▸ List.mem_cons_self ..)
    have h2 : c ∉ r := fun m => h (List.mem_cons_of_mem _ m)
    rw [put_cons, if_neg h1, put_free c z r h2]; rfl
theorem put_join (c : Nat) (z : Str) : ∀ parts : List Str, (∀ p ∈ parts, c ∉ p.cps.toList) → put c z.cps.toList (Str.join ⟨#[c]⟩ parts).cps.toList = (Str.join z parts).cps.toList
  | [], _ => rfl
  | [p], h => put_free c _ _ (h p (List.mem_singleton.mpr rfl))
  | p :: q :: r, h => by
    have ih := put_join c z (q :: r) fun a ha => h a (List.mem_cons_of_mem _ ha)
    show put c z.cps.toList (p ++ ⟨#[c]⟩ ++ Str.join ⟨#[c]⟩ (q :: r)).cps.toList = (p ++ z ++ Str.join z (q :: r)).cps.toList
    simp only [Str.cps_append, Array.toList_append]
    rw [put_append, put_append, ih, put_free c _ _ (h p (List.mem_cons_self ..))]
    simp [put]
theorem replace_put (x z : Str) (c : Nat) : (Txt.replace x ⟨#[c]⟩ z).cps.toList = put c z.cps.toList x.cps.toList := by
  rw [StrLaws.replace_one, ← put_join c z _ (StrLaws.split_free x c), StrLaws.join_split]

theorem put_len (c : Nat) (z : List Nat) (hz : 1 ≤ z.length) : ∀ l : List Nat, (put c z l).length ≤ z.length * l.length
  | [] => by simp [put]
  | a :: l => by
    have ih := put_len c z hz l
    rw [put_cons, List.length_append, List.length_cons, Nat.mul_succ]
    split
    · omega
    · simp only [List.length_cons, List.length_nil]; omega

theorem length_eq (x : Str) : x.length = x.cps.toList.length := by simp [Str.length]
theorem replace_len {x y z : Str} {c : Nat} (hy : y = ⟨#[c]⟩) (hz : 1 ≤ z.length) : (Txt.replace x y z).length ≤ z.length * x.length := by
  subst hy
  rw [length_eq (Txt.replace _ _ _), replace_put, length_eq x]
  have : z.length = z.cps.toList.length := length_eq z
  rw [this] at hz ⊢
  exact put_len c _ hz _
/-- any replace: how long it can be -/
theorem replace_len_any (x y z : Str) : (Txt.replace x y z).length ≤ x.length + (x.length + 1) * z.length := by
  unfold Txt.replace
  split
  · exact Nat.le_add_right _ _
  · have h1 := StrLaws.occ_length_le x y 0 x.length (x.length + 1)
    have hy : (PySem.Builtin.Str.glued y (PySem.Builtin.Str.partsBetween x (PySem.Builtin.Str.occurrences x y 0 x.length (x.length + 1)) y.length)).length = x.length := by rw [StrLaws.glued_between_self]
    rw [size_glued, length_partsBetween, Nat.add_sub_cancel] at hy
    rw [size_glued, length_partsBetween, Nat.add_sub_cancel]
    have h2 : (PySem.Builtin.Str.occurrences x y 0 x.length (x.length + 1)).length * z.length ≤ (x.length + 1) * z.length := Nat.mul_le_mul_right _ h1
    omega

/-! ## the join of short texts -/
theorem join_len : ∀ L : List Str, (∀ a ∈ L, a.length ≤ 1) → (Txt.join (Str.ofString "") L).length ≤ L.length := by
  intro L hL
  unfold Txt.join
  rw [StrLaws.glued_eq_join]
  refine Nat.le_trans (StrLaws.join_length_le _ _) ?_
  have e : (Str.ofString "").length = 0 := by decide +kernel
  rw [e, Nat.mul_zero, Nat.add_zero]
  induction L with
  | nil => simp
  | cons a r ih =>
    rw [List.map_cons, List.sum_cons, List.length_cons]
    have := hL a (List.mem_cons_self ..)
    have := ih fun b hb => hL b (List.mem_cons_of_mem _ hb)
    omega

section
variable {prog : Program} {w : World} {A : Around} {E : Value → Shared → Prop} {s : Shared} {t : Tok} {Q : Value → Shared → Prop} {α : Type} {D : Addr} {ys : List Value} {l : List α} {g : α → PySem.Str}
theorem join_any (hl : s.heap.IsList D ys.toArray) (hc : CarriedAll ys (l.map fun a => PyData.str (g a))) (h1 : ∀ a ∈ l, (g a).length ≤ 1) (hn : l.length ≤ 63)
    (h : ∀ (T : Str) t' k, T.length ≤ 63 → Q (.str T t') { s with toks := k }) :
    wpAny (model prog w) A (call (.builtin "str.join") [.str (PySem.Str.ofString "") t, .ref D]) Q E s :=
  KT.join_B 1 hl hc h1 (by omega) (by decide) fun t' k => h _ t' k (Nat.le_trans (join_len _ (fun a ha => by
    obtain ⟨b, hb, eb⟩ := List.mem_map.1 ha; rw [← eb]; exact h1 b hb)) (by rw [List.length_map]; exact hn))
end

/-! ## the counter of tokens never falls -/
theorem runs_toks {M : Model} {Γ : Ctx} {p : Pos} {t : Sem Fin} {fs : List Frame} {s : Shared} {e : End} {s' : Shared} (h : Runs M Γ p t fs s e s') : s.toks ≤ s'.toks := by
  induction h with
  | done => exact Nat.le_refl _
  | raise => exact Nat.le_refl _
  | again _ _ ih => exact ih
  | rule _ ih => exact ih
  | «at» _ ih => exact ih
  | load _ _ ih => exact ih
  | update _ _ ih => exact ih
  | loadIfAlive _ ih => exact ih
  | point _ ih => exact ih
  | alloc _ ih => exact ih
  | fresh _ ih => exact Nat.le_of_succ_le ih
  | ask _ ih => exact ih
  | choose _ _ ih => exact ih
  | os _ ih => exact ih
  | handled _ ih => exact ih
  | genState _ _ ih => exact ih
  | stack _ ih => exact ih
  | thread _ ih => exact ih
  | newGen _ ih => exact ih
  | call _ _ ih1 ih2 => exact Nat.le_trans ih1 ih2
  | callSusp _ ih => exact ih
  | yield => exact Nat.le_refl _
  | resumeFresh _ _ _ _ ih1 ih2 => exact Nat.le_trans ih1 ih2
  | resumeSuspended _ _ _ _ ih1 ih2 => exact Nat.le_trans ih1 ih2
  | resumeJustStarted _ _ _ ih => exact ih
  | resumeThrowFresh _ _ ih => exact ih
  | resumeRunning _ _ ih => exact ih
  | resumeFinished _ _ ih => exact ih
  | segRet _ _ ih1 ih2 => exact Nat.le_trans ih1 ih2
  | segGen _ _ ih1 ih2 => exact Nat.le_trans ih1 ih2
  | segSuspOut _ _ ih => exact ih
  | segSuspGen _ _ _ _ ih1 ih2 => exact Nat.le_trans ih1 ih2

theorem wakes_toks {M : Model} {p : Pos} {Γ : Ctx} {g : Nat} {r : Resume} {s : Shared} {res : GenResult} {s' : Shared} (h : Wakes M Γ p g r s res s') : s.toks ≤ s'.toks := by
  unfold Wakes at h
  split at h
  · exact h.elim
  · split at h
    · obtain ⟨e₁, s₁, hr, _, _, e⟩ := h
      subst e
      exact (runs_toks hr : (s.setGen g .running).toks ≤ s₁.toks)
    · obtain ⟨_, e⟩ := h; subst e; exact Nat.le_refl _
    · obtain ⟨_, e⟩ := h; subst e; exact Nat.le_refl _
  · obtain ⟨e₁, s₁, hr, _, _, e⟩ := h
    subst e
    exact (runs_toks hr : (s.setGen g .running).toks ≤ s₁.toks)
  · obtain ⟨_, e⟩ := h; subst e; exact Nat.le_refl _
  · obtain ⟨_, e⟩ := h; subst e; exact Nat.le_refl _

theorem wp_toks {α : Type} {M : Model} {Γ : Ctx} {n : Nat} (t : Sem α) {Q : α → Pos → Shared → Prop} {E : Value → Pos → Shared → Prop} : ∀ (p : Pos) (s : Shared), n ≤ s.toks →
    Sem.wp M Γ t (fun a p' s' => n ≤ s'.toks → Q a p' s') (fun e p' s' => n ≤ s'.toks → E e p' s') p s → Sem.wp M Γ t Q E p s := by
  induction t with
  | pure a => intro p s hn h; exact h hn
  | raise e => intro p s hn h; exact h hn
  | unsupported w => intro p s hn h; exact h
  | finish e => intro p s hn h; exact h
  | rule t k ih => intro p s hn h; exact ih _ _ _ hn h
  | «at» q k ih => intro p s hn h; exact ih _ _ _ hn h
  | load a part k ih => intro p s hn h; obtain ⟨o, ho, h⟩ := h; exact ⟨o, ho, ih _ _ _ hn h⟩
  | update a part f k ih => intro p s hn h; exact ⟨h.1, ih _ _ { s with heap := s.heap.update a f } hn h.2⟩
  | alloc o k ih => intro p s hn h; exact ih _ _ { s with heap := s.heap.push o } hn h
  | loadIfAlive a k ih => intro p s hn h; exact ih _ _ _ hn h
  | point l k ih => intro p s hn h; exact ih _ _ _ hn h
  | register a k ih => intro p s hn h; exact h
  | fresh k ih => intro p s hn h; exact ih _ _ { s with toks := s.toks + 1 } (Nat.le_succ_of_le hn) h
  | ask k ih => intro p s hn h; exact ih _ _ _ hn h
  | choose src m k ih => intro p s hn h; exact ⟨h.1, ih _ _ { s with drawn := s.drawn.bump src } hn h.2⟩
  | os q l k ih => intro p s hn h; exact ih _ _ { s with os := (Os.step s.os q).1 } hn h
  | call c h₀ g l k ih =>
    intro p s hn h
    obtain ⟨r, s', hr, h⟩ := h
    exact ⟨r, s', hr, ih _ _ _ (Nat.le_trans hn (runs_toks hr)) h⟩
  | handled o k ih => intro p s hn h; exact ih _ _ _ hn h
  | newGen c k ih => intro p s hn h; exact ih _ _ { s with gens := s.gens.push (.fresh c) } hn h
  | genState g k ih => intro p s hn h; obtain ⟨st, hs, h⟩ := h; exact ⟨st, hs, ih _ _ _ hn h⟩
  | resume g r l k ih =>
    intro p s hn h
    obtain ⟨res, s', hw, h⟩ := h
    exact ⟨res, s', hw, ih _ _ _ (Nat.le_trans hn (wakes_toks hw)) h⟩
  | yield v g l k ih => intro p s hn h; exact h
  | stack k ih => intro p s hn h; exact ih _ _ _ hn h
  | fork c k ih => intro p s hn h; exact h
  | thread k ih => intro p s hn h; exact ih _ _ _ hn h
  | await a f d l k ih => intro p s hn h; exact h
/-- what was counted at the start is counted at the end -/
def After {α : Type} (n : Nat) (Q : α → Shared → Prop) (a : α) (s : Shared) : Prop := n ≤ s.toks → Q a s
theorem any_toks {α : Type} {M : Model} {A : Around} {t : Sem α} {Q : α → Shared → Prop} {E : Value → Shared → Prop} {s : Shared} {n : Nat} (hn : n ≤ s.toks)
    (h : wpAny M A t (After n Q) E s) : wpAny M A t Q E s := fun Γ p hΓ =>
  wp_toks (n := n) (Q := fun a _ s' => Q a s') (E := fun e _ s' => E e s') t p s hn (Sem.wp_mono M Γ t (fun _ _ _ h => h) (fun e _ s' (h : E e s') (_ : n ≤ s'.toks) => h) p s (h Γ p hΓ))

section
variable {prog : Program} {w : World} {A : Around} {E : Value → Shared → Prop} {s : Shared} {x y z : Str} {t : Tok} {Q : Value → Shared → Prop}
theorem replace_call {u : Nat} (b : Nat) (hu : 1 ≤ u) (hyz : (y == z) = false) (hx : x.length ≤ 1048576) (hz : z.length ≤ b) (hb : b ≤ 14) (hs : u ≤ s.toks)
    (hq : ∀ t' k, 1 ≤ k → (Txt.replace x y z).length ≤ x.length + (x.length + 1) * b → Q (.str (Txt.replace x y z) t') { s with toks := k }) : wpAny (model prog w) A (call (.builtin "str.replace") [.str x t, .str y u, .str z (u + 1)]) Q E s :=
  any_toks (Nat.le_trans hu hs) (SC.replaceW (by show @Ne Nat u 0; omega) (by show @Ne Nat (u + 1) 0; omega) (by show @Ne Nat u (u + 1); omega) hyz hx (Nat.le_trans hz hb) fun t' k hk =>
    hq t' k hk (Nat.le_trans (replace_len_any x y z) (Nat.add_le_add_left (Nat.mul_le_mul_left _ hz) _)))
theorem replace_hid {u : Nat} (b : Nat) (hu : 1 ≤ u) (hyz : (y == z) = false) (hx : x.length ≤ 1048576) (hz : z.length ≤ b) (hb : b ≤ 14) (hs : u ≤ s.toks)
    (hq : ∀ U t' k, 1 ≤ k → U.length ≤ x.length + (x.length + 1) * b → U = Txt.replace x y z → Q (.str U t') { s with toks := k }) : wpAny (model prog w) A (call (.builtin "str.replace") [.str x t, .str y u, .str z (u + 1)]) Q E s :=
  replace_call b hu hyz hx hz hb hs fun t' k h1 h2 => hq _ t' k h1 h2 rfl
end

section
variable {M : Model} {A : Around} {E : Value → Shared → Prop} {env : Env} {st : Stmt} {rest : List Stmt} {Q : Flow → Shared → Prop} {hp : Heap} {gens : Array GenState} {drawn : _} {t : Nat} {os : _}
theorem cons_toks (P : 1 ≤ t) (h : ∀ tk : Nat, 1 ≤ tk → wpAny M A (exec st env) (After 1 (fun f s' => match f with | .next => wpAny M A (execs rest env) Q E s' | f => Q f s')) E ⟨hp, gens, drawn, tk, os⟩) :
    wpAny M A (execs (st :: rest) env) Q E ⟨hp, gens, drawn, t, os⟩ := wpAny_execs_cons (any_toks P (h t P))
end

/-! ## an if that changes nothing but what replace would change: one path -/
structure TestAt (c : Bool) (h₀ : Heap) (L : Addr) (m : Str → Option Value) (news : List (Addr × Obj)) (s : Shared) (k : Bool) (s' : Shared) : Prop where
  out : k = c
  here : ∃ (h : Heap) (tk : Nat), s' = { s with heap := h, toks := tk } ∧ 1 ≤ tk ∧ Fr h₀ L h m ∧ News h₀ L h news
structure StrAt (x : Str) (v : Str) (h₀ : Heap) (L : Addr) (m : Str → Option Value) (news : List (Addr × Obj)) (s : Shared) (f : Flow) (s' : Shared) : Prop where
  next : f = .next
  here : ∃ t : Tok, KJoinAt h₀ L (fun y => if y = x then some (.str v t) else m y) news s s'
def Same (P : Prop) : Prop := P
def Halt (P : Prop) : Prop := P
theorem Halt.on {P : Prop} (h : Halt P) : P := h
def Turn (P : Prop) : Prop := P
def Rest (P : Prop) : Prop := P
section
variable {M : Model} {A : Around} {E : Value → Shared → Prop} {s : Shared} {env : Env} {h₀ : Heap} {L : Addr} {m : Str → Option Value} {news : List (Addr × Obj)}
theorem rep_if {test : Expr} {x n : Str} {p q pos p1 p2 p3 : Pos} {args : List Expr} {c : Bool} {a v : Str} {b : Nat} {t₀ : Tok} {Q : Flow → Shared → Prop} (_F : Fr h₀ L s.heap m) (_N : News h₀ L s.heap news)
    (hold : m x = some (.str a t₀))
    (hc : wpAny M A (isTrue test env (eval test env)) (fun k s₂ => TestAt c h₀ L m news s k s₂) E s)
    (hv : Turn (c = true → ∀ (h : Heap) (tk : Nat), 1 ≤ tk → Fr h₀ L h m → News h₀ L h news → wpAny M A (exec (.Assign [.Name x p] (.Call (.Attribute (.Name x p1) n p2) args [] p3) q) env) (fun f s₃ => StrAt x v h₀ L m news s f s₃) E { s with heap := h, toks := tk }))
    (hs : Same ((c = false → v = a) ∧ v.length ≤ b * a.length))
    (hk : Rest (∀ (t : Tok) (h : Heap) (tk : Nat), v.length ≤ b * a.length → Fr h₀ L h (fun y => if y = x then some (.str v t) else m y) → News h₀ L h news → Q .next { s with heap := h, toks := tk })) :
    wpAny M A (exec (.If test [.Assign [.Name x p] (.Call (.Attribute (.Name x p1) n p2) args [] p3) q] [] pos) env) Q E s := by
  refine wpAny_If (wpAny_mono hc (fun k s₂ hkc => ?_) fun _ _ h => h)
  obtain ⟨hkc, h, tk, e, h1, F, N⟩ := hkc
  subst hkc
  subst e
  cases k with
  | true =>
    show wpAny M A (execs [_] env) Q E _
    refine wpAny_execs_cons (wpAny_mono (hv rfl h tk h1 F N) (fun f s₃ hf => ?_) fun _ _ h => h)
    obtain ⟨hf, t, h', tk', e', F', N'⟩ := hf
    subst hf
    subst e'
    exact wpAny_execs_nil (hk t h' tk' hs.2 F' N')
  | false =>
    show wpAny M A (execs [] env) Q E _
    refine wpAny_execs_nil (hk t₀ h tk hs.2 ?_ N)
    have e : (fun y => if y = x then some (Value.str v t₀) else m y) = m := by
      funext y
      by_cases hy : y = x
      · rw [if_pos hy, hy, hold, hs.1 rfl]
      · rw [if_neg hy]
    rw [e]
    exact F
end
/-! ## an if that sets two names: one path -/
structure TestTo (c : Bool) (h₀ : Heap) (L : Addr) (m : Str → Option Value) (news : List (Addr × Obj)) (s : Shared) (k : Bool) (s' : Shared) : Prop where
  out : k = c
  here : KJoinAt h₀ L m news s s'
structure TwoAt (x : Str) (v : Str) (y : Str) (u : Int) (h₀ : Heap) (L : Addr) (m : Str → Option Value) (news : List (Addr × Obj)) (s : Shared) (f : Flow) (s' : Shared) : Prop where
  next : f = .next
  here : ∃ t t' : Tok, KJoinAt h₀ L (fun z => if z = y then some (.int u t') else if z = x then some (.str v t) else m z) news s s'
def Turn2 (P : Prop) : Prop := P
def Enter (P : Prop) : Prop := P
def Rest2 (P : Prop) : Prop := P
section
variable {M : Model} {A : Around} {E : Value → Shared → Prop} {s : Shared} {env : Env} {h₀ : Heap} {L : Addr} {m : Str → Option Value} {news : List (Addr × Obj)}
theorem two_if {test e1 e2 : Expr} {x y : Str} {p q p' q' pos : Pos} {c : Bool} {a v : Str} {b u : Int} {t₀ t₁ : Tok} {Q : Flow → Shared → Prop} (_F : Fr h₀ L s.heap m) (_N : News h₀ L s.heap news)
    (hold : m x = some (.str a t₀)) (hold2 : m y = some (.int b t₁))
    (hc : wpAny M A (isTrue test env (eval test env)) (fun k s₂ => TestTo c h₀ L m news s k s₂) E s)
    (hv : Turn2 (c = true → ∀ (h : Heap) (tk : Nat), Fr h₀ L h m → News h₀ L h news → wpAny M A (execs [.Assign [.Name x p] e1 q, .Assign [.Name y p'] e2 q'] env) (fun f s₃ => TwoAt x v y u h₀ L m news s f s₃) E { s with heap := h, toks := tk }))
    (hk : Rest2 (∀ (t t' : Tok) (h : Heap) (tk : Nat), Fr h₀ L h (fun z => if z = y then some (.int (cond c u b) t') else if z = x then some (.str (cond c v a) t) else m z) → News h₀ L h news → Q .next { s with heap := h, toks := tk })) :
    wpAny M A (exec (.If test [.Assign [.Name x p] e1 q, .Assign [.Name y p'] e2 q'] [] pos) env) Q E s := by
  refine wpAny_If (wpAny_mono hc (fun k s₂ hkc => ?_) fun _ _ h => h)
  obtain ⟨hkc, h, tk, e, F, N⟩ := hkc
  subst hkc
  subst e
  cases k with
  | true =>
    show wpAny M A (execs [_, _] env) Q E _
    refine wpAny_mono (hv rfl h tk F N) (fun f s₃ hf => ?_) fun _ _ h => h
    obtain ⟨hf, t, t', h', tk', e', F', N'⟩ := hf
    subst hf
    subst e'
    exact hk t t' h' tk' F' N'
  | false =>
    show wpAny M A (execs [] env) Q E _
    refine wpAny_execs_nil (hk t₀ t₁ h tk ?_ N)
    have e : (fun z => if z = y then some (Value.int b t₁) else if z = x then some (Value.str a t₀) else m z) = m := by
      funext z
      by_cases hz : z = y
      · rw [if_pos hz, hz, hold2]
      · rw [if_neg hz]
        by_cases hz' : z = x
        · rw [if_pos hz', hz', hold]
        · rw [if_neg hz']
    show Fr h₀ L h (fun z => if z = y then some (Value.int b t₁) else if z = x then some (Value.str a t₀) else m z)
    rw [e]
    exact F
end
section
variable {M : Model} {A : Around} {E : Value → Shared → Prop} {s : Shared} {env : Env} {h₀ : Heap} {L : Addr} {m0 : Str → Option Value} {news : List (Addr × Obj)}
/-- the same, and the frame stays small: the loop's name, the two names, and what stood there -/
theorem two_if1 {test e1 e2 : Expr} {x y r : Str} {p q p' q' pos : Pos} {c : Bool} {a v : Str} {b u : Int} {t₀ t₁ : Tok} {vr : Option Value} {Q : Flow → Shared → Prop}
    (F : Fr h₀ L s.heap (fun z => if z = r then vr else if z = y then some (.int b t₁) else if z = x then some (.str a t₀) else m0 z)) (N : News h₀ L s.heap news)
    (hne : r ≠ x ∧ r ≠ y ∧ y ≠ x)
    (hc : wpAny M A (isTrue test env (eval test env)) (fun k s₂ => TestTo c h₀ L (fun z => if z = r then vr else if z = y then some (.int b t₁) else if z = x then some (.str a t₀) else m0 z) news s k s₂) E s)
    (hv : Turn2 (c = true → ∀ (h : Heap) (tk : Nat), Fr h₀ L h (fun z => if z = r then vr else if z = y then some (.int b t₁) else if z = x then some (.str a t₀) else m0 z) → News h₀ L h news → wpAny M A (execs [.Assign [.Name x p] e1 q, .Assign [.Name y p'] e2 q'] env) (fun f s₃ => TwoAt x v y u h₀ L (fun z => if z = r then vr else if z = y then some (.int b t₁) else if z = x then some (.str a t₀) else m0 z) news s f s₃) E { s with heap := h, toks := tk }))
    (hk : Rest2 (∀ (t t' : Tok) (h : Heap) (tk : Nat), Fr h₀ L h (fun z => if z = r then vr else if z = y then some (.int (cond c u b) t') else if z = x then some (.str (cond c v a) t) else m0 z) → News h₀ L h news → Q .next { s with heap := h, toks := tk })) :
    wpAny M A (exec (.If test [.Assign [.Name x p] e1 q, .Assign [.Name y p'] e2 q'] [] pos) env) Q E s := by
  obtain ⟨n1, n2, n3⟩ := hne
  refine two_if (a := a) (b := b) (t₀ := t₀) (t₁ := t₁) F N ?_ ?_ hc hv ?_
  · show (if x = r then vr else if x = y then some (.int b t₁) else if x = x then some (.str a t₀) else m0 x) = _
    rw [if_neg (Ne.symm n1), if_neg (Ne.symm n3), if_pos rfl]
  · show (if y = r then vr else if y = y then some (.int b t₁) else if y = x then some (.str a t₀) else m0 y) = _
    rw [if_neg (Ne.symm n2), if_pos rfl]
  · intro t t' h tk F' N'
    refine hk t t' h tk ?_ N'
    have e : (fun z => if z = y then some (Value.int (cond c u b) t') else if z = x then some (Value.str (cond c v a) t) else if z = r then vr else if z = y then some (.int b t₁) else if z = x then some (.str a t₀) else m0 z)
        = (fun z => if z = r then vr else if z = y then some (.int (cond c u b) t') else if z = x then some (.str (cond c v a) t) else m0 z) := by
      funext z
      by_cases hy : z = y
      · subst hy; rw [if_pos rfl, if_neg (Ne.symm n2), if_pos rfl]
      · rw [if_neg hy, if_neg hy, if_neg hy]
        by_cases hx : z = x
        · subst hx; rw [if_pos rfl, if_neg (Ne.symm n1), if_pos rfl]
        · rw [if_neg hx, if_neg hx, if_neg hx]
    rw [← e]
    exact F'
theorem two_if2 {test e1 e2 : Expr} {x y r : Str} {p q p' q' pos : Pos} {c : Bool} {a v : Str} {b u : Int} {t₀ t₁ : Tok} {vr vr' : Option Value} {Q : Flow → Shared → Prop}
    (F : Fr h₀ L s.heap (fun z => if z = r then vr else if z = r then vr' else if z = y then some (.int b t₁) else if z = x then some (.str a t₀) else m0 z)) (N : News h₀ L s.heap news)
    (hne : r ≠ x ∧ r ≠ y ∧ y ≠ x)
    (hc : Enter (Fr h₀ L s.heap (fun z => if z = r then vr else if z = y then some (.int b t₁) else if z = x then some (.str a t₀) else m0 z) → wpAny M A (isTrue test env (eval test env)) (fun k s₂ => TestTo c h₀ L (fun z => if z = r then vr else if z = y then some (.int b t₁) else if z = x then some (.str a t₀) else m0 z) news s k s₂) E s))
    (hv : Turn2 (c = true → ∀ (h : Heap) (tk : Nat), Fr h₀ L h (fun z => if z = r then vr else if z = y then some (.int b t₁) else if z = x then some (.str a t₀) else m0 z) → News h₀ L h news → wpAny M A (execs [.Assign [.Name x p] e1 q, .Assign [.Name y p'] e2 q'] env) (fun f s₃ => TwoAt x v y u h₀ L (fun z => if z = r then vr else if z = y then some (.int b t₁) else if z = x then some (.str a t₀) else m0 z) news s f s₃) E { s with heap := h, toks := tk }))
    (hk : Rest2 (∀ (t t' : Tok) (h : Heap) (tk : Nat), Fr h₀ L h (fun z => if z = r then vr else if z = y then some (.int (cond c u b) t') else if z = x then some (.str (cond c v a) t) else m0 z) → News h₀ L h news → Q .next { s with heap := h, toks := tk })) :
    wpAny M A (exec (.If test [.Assign [.Name x p] e1 q, .Assign [.Name y p'] e2 q'] [] pos) env) Q E s := by
  have e : (fun z => if z = r then vr else if z = r then vr' else if z = y then some (Value.int b t₁) else if z = x then some (Value.str a t₀) else m0 z)
      = (fun z => if z = r then vr else if z = y then some (Value.int b t₁) else if z = x then some (Value.str a t₀) else m0 z) := by
    funext z
    by_cases hr : z = r
    · rw [if_pos hr, if_pos hr]
    · rw [if_neg hr, if_neg hr, if_neg hr]
  rw [e] at F
  exact two_if1 F N hne (hc F) hv hk
end
theorem drop1 {h₀ h : Heap} {L : Addr} {p : Addr × Obj} {news : List (Addr × Obj)} (N : News h₀ L h (p :: news)) : News h₀ L h news := fun q hq => N q (List.mem_cons_of_mem _ hq)
theorem same_of {x y z : Str} {c : Nat} (hy : y = ⟨#[c]⟩) (h : (!(PySem.Builtin.Str.occurrences x y 0 x.length 1).isEmpty) = false) : Txt.replace x y z = x := by
  subst hy
  rw [StrLaws.found_one] at h
  have hn : c ∉ x.cps.toList := of_decide_eq_false h
  have e := replace_put x z c
  rw [put_free c _ _ hn] at e
  generalize Txt.replace x ⟨#[c]⟩ z = r at e
  obtain ⟨⟨l⟩⟩ := r
  obtain ⟨⟨l'⟩⟩ := x
  simp only at e
  rw [e]
theorem same_two {x y z : Str} (c b : Nat) (hy : y = ⟨#[c]⟩) (h1 : 1 ≤ b) (hb : z.length = b) :
    ((!(PySem.Builtin.Str.occurrences x y 0 x.length 1).isEmpty) = false → Txt.replace x y z = x) ∧ (Txt.replace x y z).length ≤ b * x.length :=
  ⟨same_of hy, by subst hb; exact replace_len hy h1⟩
end Esc
end
section
open PySem PySem.W PyProof.Rows PySem.Builtin PySem.Builtin.Str
namespace Esc
/-! ## texts as lists -/
theorem str_ext {a b : Str} (h : a.cps.toList = b.cps.toList) : a = b := by
  obtain ⟨⟨l⟩⟩ := a; obtain ⟨⟨l'⟩⟩ := b; simp only at h; rw [h]
theorem beq_list (a b : Str) : (a == b) = (a.cps.toList == b.cps.toList) := by
  by_cases h : a = b
  · subst h; simp
  · have h' : ¬ a.cps.toList = b.cps.toList := fun e => h (str_ext e)
    rw [beq_eq_false_iff_ne.mpr h, beq_eq_false_iff_ne.mpr h']
theorem sliceIdx_beyond (len : Nat) {i j : Int} (h0 : 0 ≤ i) (h : (len : Int) ≤ j) : strSliceIndices (some i) (some j) 1 len = strSliceIndices (some i) (some (len : Int)) 1 len := by
  have a1 : ¬ j < 0 := by omega
  have a2 : ¬ ((len : Int) < 0) := by omega
  have a3 : ¬ i < 0 := by omega
  have e1 : max (0 : Int) (min j (len : Int)) = len := by omega
  simp [strSliceIndices, a1, a2, a3, e1]
theorem slice_cps {x : Str} {i : Int} {n : Nat} (h0 : 0 ≤ i) (hi : i ≤ x.length) : (Txt.slice x (some i) (some (i + (n : Int)))).cps.toList = (x.cps.toList.drop i.toNat).take n := by
  have hl : (x.length : Int) = (x.cps.toList.length : Int) := by simp [Str.length]
  by_cases h : i + (n : Int) ≤ x.length
  · rw [eq_of_beq (slice_closesL h0 (by omega) h)]
    have e : (i + (n : Int) - i).toNat = n := by omega
    rw [e]
  · have e : Txt.slice x (some i) (some (i + (n : Int))) = Txt.slice x (some i) (some (x.length : Int)) := by
      show StrLaws.sliceText x (some i) (some (i + (n : Int))) = StrLaws.sliceText x (some i) (some (x.length : Int))
      unfold StrLaws.sliceText
      rw [sliceIdx_beyond x.length h0 (by omega)]
    rw [e, eq_of_beq (slice_closesL h0 hi (Int.le_refl _))]
    show List.take ((x.length : Int) - i).toNat (List.drop i.toNat x.cps.toList) = _
    have hd : (List.drop i.toNat x.cps.toList).length = x.cps.toList.length - i.toNat := List.length_drop ..
    rw [List.take_of_length_le (by omega), List.take_of_length_le (by omega)]
theorem slice_to_cps {x : Str} {j : Int} (h0 : 0 ≤ j) (hj : j ≤ x.length) : (Txt.slice x none (some j)).cps.toList = x.cps.toList.take j.toNat := by
  rw [eq_of_beq (slice_closes_toL h0 hj)]
  simp
theorem slice_from_cps {x : Str} {i : Int} (h0 : 0 ≤ i) (hi : i ≤ x.length) : (Txt.slice x (some i) none).cps.toList = x.cps.toList.drop i.toNat := by
  have hl : (x.length : Int) = (x.cps.toList.length : Int) := by simp [Str.length]
  rw [eq_of_beq (slice_closes_fromL h0 hi rfl)]
  show List.take ((x.length : Int) - i).toNat (List.drop i.toNat x.cps.toList) = _
  have hd : (List.drop i.toNat x.cps.toList).length = x.cps.toList.length - i.toNat := List.length_drop ..
  rw [List.take_of_length_le (by omega)]
theorem item_cps {x : Str} {i : Int} (h0 : 0 ≤ i) (hi : i < x.length) : (Txt.item x i).cps.toList = (x.cps.toList.drop i.toNat).take 1 := by
  have h1 := eq_of_beq (slice_one_closes h0 hi)
  have h2 := slice_cps (x := x) (n := 1) h0 (Int.le_of_lt hi)
  have h3 : (Txt.slice x (some i) (some (i + ((1 : Nat) : Int)))) = Txt.slice x (some i) (some (i + 1)) := rfl
  rw [h3, h1] at h2
  rw [← h2]
  have hk : i.toNat < x.cps.size := by have : x.length = x.cps.size := rfl; omega
  unfold Txt.item Txt.charAt seqIndex?
  have a1 : ¬ i < 0 := by omega
  simp [a1, h0, hi, hk]

def has (r l : List Nat) : Bool := l.take r.length == r
theorem slice_has {x y : Str} {i : Int} (h0 : 0 ≤ i) (hi : i ≤ x.length) (r : List Nat) (hr : y = ⟨r.toArray⟩) :
    (Txt.slice x (some i) (some (i + (r.length : Int))) == y) = has r (x.cps.toList.drop i.toNat) := by
  rw [beq_list, slice_cps h0 hi, hr]
  rfl
theorem has_len {r l : List Nat} (h : has r l = true) : r.length ≤ l.length := by
  have e := eq_of_beq h
  have := congrArg List.length e
  rw [List.length_take] at this
  omega
theorem cond_cps (b : Bool) (x y : Str) : (cond b x y).cps.toList = cond b x.cps.toList y.cps.toList := by cases b <;> rfl
theorem cond_cast (b : Bool) (x y : Nat) : (cond b (x : Int) (y : Int)) = ((cond b x y : Nat) : Int) := by cases b <;> rfl
theorem app_cps (a b : Str) : (a ++ b).cps.toList = a.cps.toList ++ b.cps.toList := by simp [Str.cps_append]

theorem replace_absent {x y z : Str} {c : Nat} {r : List Nat} (hy : y = ⟨(c :: r).toArray⟩) (h : c ∉ x.cps.toList) : Txt.replace x y z = x := by
  unfold Txt.replace
  have he : (PySem.Builtin.Str.occurrences x y 0 x.length (x.length + 1)).isEmpty = true := by
    obtain ⟨f, hc⟩ := StrLaws.occ_chain x y (x.length + 1)
    cases ho : PySem.Builtin.Str.occurrences x y 0 x.length (x.length + 1) with
    | nil => rfl
    | cons i l =>
      rw [ho] at hc
      exfalso
      obtain ⟨hlen, hs⟩ := hc.2.1
      unfold PySem.Builtin.Str.subAt at hs
      have e := eq_of_beq hs
      have e2 := congrArg Array.toList e
      rw [hy] at e2
      simp only [Array.toList_extract, List.extract_eq_take_drop] at e2
      have hm : c ∈ List.take (i + y.length - i) (List.drop i x.cps.toList) := by
        rw [hy, e2]; exact List.mem_cons_self ..
      exact h (List.mem_of_mem_drop (List.mem_of_mem_take hm))
  rw [he]
  simp

/-! ## a reader from the left: at each place a piece and a step -/
def rdG (f : List Nat → List Nat) (st : List Nat → Nat) : Nat → List Nat → List Nat
  | 0, _ => []
  | n + 1, l => if l = [] then [] else f l ++ rdG f st n (l.drop (st l))
structure Fair (f : List Nat → List Nat) (st : List Nat → Nat) : Prop where
  one : ∀ l, l ≠ [] → 1 ≤ st l
  most : ∀ l, l ≠ [] → st l ≤ l.length
  short : ∀ l, (f l).length ≤ 1
theorem rd_fuel {f : List Nat → List Nat} {st : List Nat → Nat} (G : Fair f st) : ∀ (n : Nat) (l : List Nat), l.length ≤ n → rdG f st n l = rdG f st l.length l := by
  intro n
  induction n using Nat.strongRecOn with
  | ind n ih =>
    intro l hl
    cases l with
    | nil => cases n <;> rfl
    | cons a r =>
      cases n with
      | zero => simp at hl
      | succ m =>
        have h1 := G.one (a :: r) (List.cons_ne_nil _ _)
        have hd : ((a :: r).drop (st (a :: r))).length ≤ r.length := by rw [List.length_drop, List.length_cons]; omega
        have hm : r.length ≤ m := by simp at hl; omega
        show (if (a :: r) = [] then [] else f (a :: r) ++ rdG f st m ((a :: r).drop (st (a :: r)))) = (if (a :: r) = [] then [] else f (a :: r) ++ rdG f st r.length ((a :: r).drop (st (a :: r))))
        rw [if_neg (List.cons_ne_nil _ _), if_neg (List.cons_ne_nil _ _), ih m (by omega) _ (by omega), ih r.length (by omega) _ hd]
def readG (f : List Nat → List Nat) (st : List Nat → Nat) (U : Str) : Str := ⟨(rdG f st U.length U.cps.toList).toArray⟩
structure Inv (f : List Nat → List Nat) (st : List Nat → Nat) (U p : Str) (k : Int) : Prop where
  p1 : 0 ≤ k
  p2 : k ≤ (U.length : Int)
  p3 : (p.length : Int) ≤ k
  p4 : U.length ≤ 7000
  p5 : p.cps.toList ++ rdG f st (U.length - k.toNat) (U.cps.toList.drop k.toNat) = rdG f st U.length U.cps.toList
theorem inv_start {f : List Nat → List Nat} {st : List Nat → Nat} {U : Str} (h : U.length ≤ 7000) : Inv f st U (Str.ofString "") 0 :=
  ⟨Int.le_refl _, by omega, by decide +kernel, h, by
    have e : (Str.ofString "").cps.toList = [] := by decide +kernel
    rw [e]; rfl⟩
theorem inv_turn {f : List Nat → List Nat} {st : List Nat → Nat} {U p fv : Str} {k sv : Int} (G : Fair f st) (h : Inv f st U p k) (hk : k < (U.length : Int))
    (hf : fv.cps.toList = f (U.cps.toList.drop k.toNat)) (hs : sv = ((st (U.cps.toList.drop k.toNat) : Nat) : Int)) : Inv f st U (p ++ fv) (k + sv) := by
  obtain ⟨h1, h2, h3, h4, h5⟩ := h
  have hl : (U.length : Int) = (U.cps.toList.length : Int) := by simp [Str.length]
  have hdl : (U.cps.toList.drop k.toNat).length = U.length - k.toNat := by rw [List.length_drop]; omega
  generalize hD : U.cps.toList.drop k.toNat = D at *
  have hne : D ≠ [] := by
    intro e; rw [e] at hdl; simp at hdl; omega
  have s1 := G.one D hne
  have s2 := G.most D hne
  subst hs
  have e1 : (k + ((st D : Nat) : Int)).toNat = k.toNat + st D := by omega
  refine ⟨by omega, by omega, ?_, h4, ?_⟩
  · have hfl : fv.length ≤ 1 := by rw [length_eq, hf]; exact G.short _
    have : (p ++ fv).length = p.length + fv.length := by rw [length_eq, app_cps, List.length_append, ← length_eq, ← length_eq]
    omega
  · rw [app_cps, hf, List.append_assoc, ← h5]
    apply congrArg
    rw [e1, ← List.drop_drop, hD]
    have e2 : U.length - k.toNat = (U.length - k.toNat - 1) + 1 := by omega
    rw [e2]
    show _ = (if D = [] then [] else f D ++ rdG f st (U.length - k.toNat - 1) (D.drop (st D)))
    rw [if_neg hne]
    apply congrArg
    have hdd : (D.drop (st D)).length = U.length - (k.toNat + st D) := by rw [List.length_drop, hdl]; omega
    rw [rd_fuel G (U.length - k.toNat - 1) _ (by omega), hdd]
theorem inv_less {f : List Nat → List Nat} {st : List Nat → Nat} {U p : Str} {k sv : Int} (G : Fair f st) (h : Inv f st U p k) (hk : k < (U.length : Int)) (hs : sv = ((st (U.cps.toList.drop k.toNat) : Nat) : Int)) :
    U.length - (k + sv).toNat < U.length - k.toNat := by
  have hdl : (U.cps.toList.drop k.toNat).length = U.length - k.toNat := by
    have hl : (U.length : Int) = (U.cps.toList.length : Int) := by simp [Str.length]
    rw [List.length_drop]; omega
  have h1 := h.p1
  have hne : U.cps.toList.drop k.toNat ≠ [] := by
    intro e; rw [e] at hdl; simp at hdl; omega
  have s1 := G.one _ hne
  omega
theorem inv_end {f : List Nat → List Nat} {st : List Nat → Nat} {U p : Str} {k : Int} (h : Inv f st U p k) (hk : ¬ k < (U.length : Int)) : p = readG f st U := by
  obtain ⟨h1, h2, h3, h4, h5⟩ := h
  apply str_ext
  have e : U.length - k.toNat = 0 := by omega
  rw [e] at h5
  show _ = rdG f st U.length U.cps.toList
  rw [← h5]
  show _ = p.cps.toList ++ []
  rw [List.append_nil]

/-! ## what is written piece by piece is read back -/
structure Wrote (f : List Nat → List Nat) (st : List Nat → Nat) (piece : Nat → List Nat) : Prop where
  some : ∀ a, piece a ≠ []
  found : ∀ a r, f (piece a ++ r) = [a]
  step : ∀ a r, st (piece a ++ r) = (piece a).length
theorem rd_wrote {f : List Nat → List Nat} {st : List Nat → Nat} {piece : Nat → List Nat} (W : Wrote f st piece) : ∀ (l : List Nat) (n : Nat), (l.flatMap piece).length ≤ n → rdG f st n (l.flatMap piece) = l
  | [], n, _ => by cases n <;> simp [rdG]
  | a :: r, n, h => by
    rw [List.flatMap_cons] at h ⊢
    have hp := W.some a
    have hne : piece a ++ r.flatMap piece ≠ [] := fun e => hp (List.append_eq_nil_iff.mp e).1
    have hl : 1 ≤ (piece a).length := by
      cases hq : piece a with
      | nil => exact absurd hq hp
      | cons _ _ => simp
    cases n with
    | zero => rw [List.length_append] at h; omega
    | succ m =>
      show (if piece a ++ r.flatMap piece = [] then [] else f (piece a ++ r.flatMap piece) ++ rdG f st m ((piece a ++ r.flatMap piece).drop (st (piece a ++ r.flatMap piece)))) = _
      rw [if_neg hne, W.found, W.step, List.drop_left, rd_wrote W r m (by rw [List.length_append] at h; omega)]
      rfl
theorem read_wrote {f : List Nat → List Nat} {st : List Nat → Nat} {piece : Nat → List Nat} (W : Wrote f st piece) {U T : Str} (h : U.cps.toList = T.cps.toList.flatMap piece) : readG f st U = T := by
  apply str_ext
  show rdG f st U.length U.cps.toList = _
  rw [h]
  exact rd_wrote W _ _ (by rw [length_eq, h]; exact Nat.le_refl _)
end Esc
end
section
open PySem PySem.W PyProof.Rows
namespace Esc02
open Esc
def fnd (U : Str) (k : Int) : Str := (bif Txt.slice U (some k) (some (k + ((5 : Nat) : Int))) == (Str.ofString "&#xD;") then (Str.ofString "\r") else (bif Txt.slice U (some k) (some (k + ((5 : Nat) : Int))) == (Str.ofString "&#xA;") then (Str.ofString "\n") else (bif Txt.slice U (some k) (some (k + ((5 : Nat) : Int))) == (Str.ofString "&#x9;") then (Str.ofString "\t") else (bif Txt.slice U (some k) (some (k + ((6 : Nat) : Int))) == (Str.ofString "&quot;") then (Str.ofString "\"") else (bif Txt.slice U (some k) (some (k + ((4 : Nat) : Int))) == (Str.ofString "&gt;") then (Str.ofString ">") else (bif Txt.slice U (some k) (some (k + ((4 : Nat) : Int))) == (Str.ofString "&lt;") then (Str.ofString "<") else (bif Txt.slice U (some k) (some (k + ((5 : Nat) : Int))) == (Str.ofString "&amp;") then (Str.ofString "&") else Txt.item U k)))))))
def stp (U : Str) (k : Int) : Int := (bif Txt.slice U (some k) (some (k + ((5 : Nat) : Int))) == (Str.ofString "&#xD;") then ((5 : Nat) : Int) else (bif Txt.slice U (some k) (some (k + ((5 : Nat) : Int))) == (Str.ofString "&#xA;") then ((5 : Nat) : Int) else (bif Txt.slice U (some k) (some (k + ((5 : Nat) : Int))) == (Str.ofString "&#x9;") then ((5 : Nat) : Int) else (bif Txt.slice U (some k) (some (k + ((6 : Nat) : Int))) == (Str.ofString "&quot;") then ((6 : Nat) : Int) else (bif Txt.slice U (some k) (some (k + ((4 : Nat) : Int))) == (Str.ofString "&gt;") then ((4 : Nat) : Int) else (bif Txt.slice U (some k) (some (k + ((4 : Nat) : Int))) == (Str.ofString "&lt;") then ((4 : Nat) : Int) else (bif Txt.slice U (some k) (some (k + ((5 : Nat) : Int))) == (Str.ofString "&amp;") then ((5 : Nat) : Int) else 1)))))))
def fndL (l : List Nat) : List Nat := (bif has [38, 35, 120, 68, 59] l then [13] else (bif has [38, 35, 120, 65, 59] l then [10] else (bif has [38, 35, 120, 57, 59] l then [9] else (bif has [38, 113, 117, 111, 116, 59] l then [34] else (bif has [38, 103, 116, 59] l then [62] else (bif has [38, 108, 116, 59] l then [60] else (bif has [38, 97, 109, 112, 59] l then [38] else l.take 1)))))))
def stpL (l : List Nat) : Nat := (bif has [38, 35, 120, 68, 59] l then 5 else (bif has [38, 35, 120, 65, 59] l then 5 else (bif has [38, 35, 120, 57, 59] l then 5 else (bif has [38, 113, 117, 111, 116, 59] l then 6 else (bif has [38, 103, 116, 59] l then 4 else (bif has [38, 108, 116, 59] l then 4 else (bif has [38, 97, 109, 112, 59] l then 5 else 1)))))))
theorem fnd_cps {U : Str} {k : Int} (h0 : 0 ≤ k) (hk : k < U.length) : (fnd U k).cps.toList = fndL (U.cps.toList.drop k.toNat) := by
  have h1 : k ≤ U.length := Int.le_of_lt hk
  have g0 := slice_has (x := U) (y := (Str.ofString "&amp;")) h0 h1 [38, 97, 109, 112, 59] (by decide +kernel)
  have g1 := slice_has (x := U) (y := (Str.ofString "&lt;")) h0 h1 [38, 108, 116, 59] (by decide +kernel)
  have g2 := slice_has (x := U) (y := (Str.ofString "&gt;")) h0 h1 [38, 103, 116, 59] (by decide +kernel)
  have g3 := slice_has (x := U) (y := (Str.ofString "&quot;")) h0 h1 [38, 113, 117, 111, 116, 59] (by decide +kernel)
  have g4 := slice_has (x := U) (y := (Str.ofString "&#x9;")) h0 h1 [38, 35, 120, 57, 59] (by decide +kernel)
  have g5 := slice_has (x := U) (y := (Str.ofString "&#xA;")) h0 h1 [38, 35, 120, 65, 59] (by decide +kernel)
  have g6 := slice_has (x := U) (y := (Str.ofString "&#xD;")) h0 h1 [38, 35, 120, 68, 59] (by decide +kernel)
  have e0 : (Str.ofString "&").cps.toList = [38] := by decide +kernel
  have e1 : (Str.ofString "<").cps.toList = [60] := by decide +kernel
  have e2 : (Str.ofString ">").cps.toList = [62] := by decide +kernel
  have e3 : (Str.ofString "\"").cps.toList = [34] := by decide +kernel
  have e4 : (Str.ofString "\t").cps.toList = [9] := by decide +kernel
  have e5 : (Str.ofString "\n").cps.toList = [10] := by decide +kernel
  have e6 : (Str.ofString "\r").cps.toList = [13] := by decide +kernel
  simp only [List.length_cons, List.length_nil, Nat.zero_add, Nat.reduceAdd] at g0 g1 g2 g3 g4 g5 g6
  unfold fnd fndL
  rw [g0, g1, g2, g3, g4, g5, g6]
  simp only [cond_cps, e0, e1, e2, e3, e4, e5, e6, item_cps h0 hk]
theorem stp_eq {U : Str} {k : Int} (h0 : 0 ≤ k) (hk : k < U.length) : stp U k = ((stpL (U.cps.toList.drop k.toNat) : Nat) : Int) := by
  have h1 : k ≤ U.length := Int.le_of_lt hk
  have g0 := slice_has (x := U) (y := (Str.ofString "&amp;")) h0 h1 [38, 97, 109, 112, 59] (by decide +kernel)
  have g1 := slice_has (x := U) (y := (Str.ofString "&lt;")) h0 h1 [38, 108, 116, 59] (by decide +kernel)
  have g2 := slice_has (x := U) (y := (Str.ofString "&gt;")) h0 h1 [38, 103, 116, 59] (by decide +kernel)
  have g3 := slice_has (x := U) (y := (Str.ofString "&quot;")) h0 h1 [38, 113, 117, 111, 116, 59] (by decide +kernel)
  have g4 := slice_has (x := U) (y := (Str.ofString "&#x9;")) h0 h1 [38, 35, 120, 57, 59] (by decide +kernel)
  have g5 := slice_has (x := U) (y := (Str.ofString "&#xA;")) h0 h1 [38, 35, 120, 65, 59] (by decide +kernel)
  have g6 := slice_has (x := U) (y := (Str.ofString "&#xD;")) h0 h1 [38, 35, 120, 68, 59] (by decide +kernel)
  simp only [List.length_cons, List.length_nil, Nat.zero_add, Nat.reduceAdd] at g0 g1 g2 g3 g4 g5 g6
  unfold stp stpL
  rw [g0, g1, g2, g3, g4, g5, g6]
  have e1 : (1 : Int) = ((1 : Nat) : Int) := rfl
  rw [e1]
  simp only [cond_cast]
theorem cond_one {b : Bool} {x y : Nat} (hx : 1 ≤ x) (hy : 1 ≤ y) : 1 ≤ cond b x y := by cases b <;> assumption
theorem cond_most {b : Bool} {x y n : Nat} (hx : b = true → x ≤ n) (hy : y ≤ n) : cond b x y ≤ n := by
  cases b with
  | true => exact hx rfl
  | false => exact hy
theorem cond_short {b : Bool} {x y : List Nat} (hx : x.length ≤ 1) (hy : y.length ≤ 1) : (cond b x y).length ≤ 1 := by cases b <;> assumption

theorem fair : Fair fndL stpL where
  one := by
    intro l hl
    unfold stpL
    repeat' (first | exact Nat.le_refl _ | exact Nat.le_of_ble_eq_true rfl | refine cond_one ?_ ?_)
  most := by
    intro l hl
    have hlen : 1 ≤ l.length := by cases l with | nil => exact absurd rfl hl | cons _ _ => simp
    unfold stpL
    repeat' (first | exact hlen | (refine cond_most (fun h => ?_) ?_; exact has_len h))
  short := by
    intro l
    unfold fndL
    repeat' (first | exact Nat.le_refl _ | (refine cond_short ?_ ?_; exact Nat.le_refl _) | (rw [List.length_take]; exact Nat.min_le_left _ _))
theorem has_other {a c : Nat} {r s : List Nat} (h : ¬ a = c) : has (c :: s) (a :: r) = false := by
  unfold has
  rw [List.length_cons, List.take_succ_cons]
  apply beq_eq_false_iff_ne.mpr
  intro e
  exact h (List.cons.inj e).1
theorem fndL_plain {a : Nat} (h : ¬ a = 38) (r : List Nat) : fndL ([a] ++ r) = [a] := by
  have n0 : has [38, 97, 109, 112, 59] (a :: r) = false := has_other h
  have n1 : has [38, 108, 116, 59] (a :: r) = false := has_other h
  have n2 : has [38, 103, 116, 59] (a :: r) = false := has_other h
  have n3 : has [38, 113, 117, 111, 116, 59] (a :: r) = false := has_other h
  have n4 : has [38, 35, 120, 57, 59] (a :: r) = false := has_other h
  have n5 : has [38, 35, 120, 65, 59] (a :: r) = false := has_other h
  have n6 : has [38, 35, 120, 68, 59] (a :: r) = false := has_other h
  show fndL (a :: r) = [a]
  unfold fndL
  rw [n0, n1, n2, n3, n4, n5, n6]
  rfl
theorem stpL_plain {a : Nat} (h : ¬ a = 38) (r : List Nat) : stpL ([a] ++ r) = 1 := by
  have n0 : has [38, 97, 109, 112, 59] (a :: r) = false := has_other h
  have n1 : has [38, 108, 116, 59] (a :: r) = false := has_other h
  have n2 : has [38, 103, 116, 59] (a :: r) = false := has_other h
  have n3 : has [38, 113, 117, 111, 116, 59] (a :: r) = false := has_other h
  have n4 : has [38, 35, 120, 57, 59] (a :: r) = false := has_other h
  have n5 : has [38, 35, 120, 65, 59] (a :: r) = false := has_other h
  have n6 : has [38, 35, 120, 68, 59] (a :: r) = false := has_other h
  show stpL (a :: r) = 1
  unfold stpL
  rw [n0, n1, n2, n3, n4, n5, n6]
  rfl
theorem map_len {p : Nat → List Nat} {b : Nat} (h : ∀ a, (p a).length ≤ b) : ∀ l : List Nat, (l.flatMap p).length ≤ b * l.length
  | [] => by simp
  | a :: l => by
    rw [List.flatMap_cons, List.length_append, List.length_cons, Nat.mul_succ]
    have := map_len h l
    have := h a
    omega
def escC (t : Str) : Str := (Txt.replace (Txt.replace (Txt.replace (Txt.replace t (Str.ofString "&") (Str.ofString "&amp;")) (Str.ofString "<") (Str.ofString "&lt;")) (Str.ofString ">") (Str.ofString "&gt;")) (Str.ofString "\r") (Str.ofString "&#xD;"))
def allC (l : List Nat) : List Nat := (put 13 [38, 35, 120, 68, 59] (put 62 [38, 103, 116, 59] (put 60 [38, 108, 116, 59] (put 38 [38, 97, 109, 112, 59] l))))
def pieceC (a : Nat) : List Nat := (if a = 38 then [38, 97, 109, 112, 59] else (if a = 60 then [38, 108, 116, 59] else (if a = 62 then [38, 103, 116, 59] else (if a = 13 then [38, 35, 120, 68, 59] else [a]))))
theorem allC_cons (a : Nat) (l : List Nat) : allC (a :: l) = pieceC a ++ allC l := by
  unfold allC
  rw [put_cons, put_append, put_append, put_append]
  apply congrArg (· ++ _)
  unfold pieceC
  by_cases c0 : a = 38
  · subst c0; rfl
  by_cases c1 : a = 60
  · subst c1; rfl
  by_cases c2 : a = 62
  · subst c2; rfl
  by_cases c3 : a = 13
  · subst c3; rfl
  simp only [put, List.flatMap_cons, List.flatMap_nil, List.append_nil, c0, c1, c2, c3, if_false]
theorem allC_map : ∀ l : List Nat, allC l = l.flatMap pieceC
  | [] => rfl
  | a :: l => by rw [allC_cons, List.flatMap_cons, allC_map l]
theorem escC_cps (T : Str) : (escC T).cps.toList = T.cps.toList.flatMap pieceC := by
  have y0 : (Str.ofString "&") = ⟨#[38]⟩ := by decide +kernel
  have z0 : (Str.ofString "&amp;").cps.toList = [38, 97, 109, 112, 59] := by decide +kernel
  have y1 : (Str.ofString "<") = ⟨#[60]⟩ := by decide +kernel
  have z1 : (Str.ofString "&lt;").cps.toList = [38, 108, 116, 59] := by decide +kernel
  have y2 : (Str.ofString ">") = ⟨#[62]⟩ := by decide +kernel
  have z2 : (Str.ofString "&gt;").cps.toList = [38, 103, 116, 59] := by decide +kernel
  have y3 : (Str.ofString "\r") = ⟨#[13]⟩ := by decide +kernel
  have z3 : (Str.ofString "&#xD;").cps.toList = [38, 35, 120, 68, 59] := by decide +kernel
  rw [← allC_map]
  unfold escC allC
  rw [y0, y1, y2, y3, replace_put, replace_put, replace_put, replace_put, z0, z1, z2, z3]
theorem wroteC : Wrote fndL stpL pieceC where
  some := by
    intro a
    by_cases c0 : a = 38
    · subst c0; exact List.cons_ne_nil _ _
    by_cases c1 : a = 60
    · subst c1; exact List.cons_ne_nil _ _
    by_cases c2 : a = 62
    · subst c2; exact List.cons_ne_nil _ _
    by_cases c3 : a = 13
    · subst c3; exact List.cons_ne_nil _ _
    simp only [pieceC, c0, c1, c2, c3, if_false]; exact List.cons_ne_nil _ _
  found := by
    intro a r
    by_cases c0 : a = 38
    · subst c0; rfl
    by_cases c1 : a = 60
    · subst c1; rfl
    by_cases c2 : a = 62
    · subst c2; rfl
    by_cases c3 : a = 13
    · subst c3; rfl
    simp only [pieceC, c0, c1, c2, c3, if_false]; exact fndL_plain c0 r
  step := by
    intro a r
    by_cases c0 : a = 38
    · subst c0; rfl
    by_cases c1 : a = 60
    · subst c1; rfl
    by_cases c2 : a = 62
    · subst c2; rfl
    by_cases c3 : a = 13
    · subst c3; rfl
    simp only [pieceC, c0, c1, c2, c3, if_false]; exact stpL_plain c0 r
theorem pieceC_len (a : Nat) : (pieceC a).length ≤ 6 := by
  unfold pieceC
  repeat' (first | exact Nat.le_of_ble_eq_true rfl | split)
theorem escC_len (T : Str) : (escC T).length ≤ 6 * T.length := by
  rw [length_eq, escC_cps, length_eq T]
  exact map_len pieceC_len _
def escA (t : Str) : Str := (Txt.replace (Txt.replace (Txt.replace (Txt.replace (Txt.replace (Txt.replace t (Str.ofString "&") (Str.ofString "&amp;")) (Str.ofString "<") (Str.ofString "&lt;")) (Str.ofString "\"") (Str.ofString "&quot;")) (Str.ofString "\t") (Str.ofString "&#x9;")) (Str.ofString "\n") (Str.ofString "&#xA;")) (Str.ofString "\r") (Str.ofString "&#xD;"))
def allA (l : List Nat) : List Nat := (put 13 [38, 35, 120, 68, 59] (put 10 [38, 35, 120, 65, 59] (put 9 [38, 35, 120, 57, 59] (put 34 [38, 113, 117, 111, 116, 59] (put 60 [38, 108, 116, 59] (put 38 [38, 97, 109, 112, 59] l))))))
def pieceA (a : Nat) : List Nat := (if a = 38 then [38, 97, 109, 112, 59] else (if a = 60 then [38, 108, 116, 59] else (if a = 34 then [38, 113, 117, 111, 116, 59] else (if a = 9 then [38, 35, 120, 57, 59] else (if a = 10 then [38, 35, 120, 65, 59] else (if a = 13 then [38, 35, 120, 68, 59] else [a]))))))
theorem allA_cons (a : Nat) (l : List Nat) : allA (a :: l) = pieceA a ++ allA l := by
  unfold allA
  rw [put_cons, put_append, put_append, put_append, put_append, put_append]
  apply congrArg (· ++ _)
  unfold pieceA
  by_cases c0 : a = 38
  · subst c0; rfl
  by_cases c1 : a = 60
  · subst c1; rfl
  by_cases c2 : a = 34
  · subst c2; rfl
  by_cases c3 : a = 9
  · subst c3; rfl
  by_cases c4 : a = 10
  · subst c4; rfl
  by_cases c5 : a = 13
  · subst c5; rfl
  simp only [put, List.flatMap_cons, List.flatMap_nil, List.append_nil, c0, c1, c2, c3, c4, c5, if_false]
theorem allA_map : ∀ l : List Nat, allA l = l.flatMap pieceA
  | [] => rfl
  | a :: l => by rw [allA_cons, List.flatMap_cons, allA_map l]
theorem escA_cps (T : Str) : (escA T).cps.toList = T.cps.toList.flatMap pieceA := by
  have y0 : (Str.ofString "&") = ⟨#[38]⟩ := by decide +kernel
  have z0 : (Str.ofString "&amp;").cps.toList = [38, 97, 109, 112, 59] := by decide +kernel
  have y1 : (Str.ofString "<") = ⟨#[60]⟩ := by decide +kernel
  have z1 : (Str.ofString "&lt;").cps.toList = [38, 108, 116, 59] := by decide +kernel
  have y2 : (Str.ofString "\"") = ⟨#[34]⟩ := by decide +kernel
  have z2 : (Str.ofString "&quot;").cps.toList = [38, 113, 117, 111, 116, 59] := by decide +kernel
  have y3 : (Str.ofString "\t") = ⟨#[9]⟩ := by decide +kernel
  have z3 : (Str.ofString "&#x9;").cps.toList = [38, 35, 120, 57, 59] := by decide +kernel
  have y4 : (Str.ofString "\n") = ⟨#[10]⟩ := by decide +kernel
  have z4 : (Str.ofString "&#xA;").cps.toList = [38, 35, 120, 65, 59] := by decide +kernel
  have y5 : (Str.ofString "\r") = ⟨#[13]⟩ := by decide +kernel
  have z5 : (Str.ofString "&#xD;").cps.toList = [38, 35, 120, 68, 59] := by decide +kernel
  rw [← allA_map]
  unfold escA allA
  rw [y0, y1, y2, y3, y4, y5, replace_put, replace_put, replace_put, replace_put, replace_put, replace_put, z0, z1, z2, z3, z4, z5]
theorem wroteA : Wrote fndL stpL pieceA where
  some := by
    intro a
    by_cases c0 : a = 38
    · subst c0; exact List.cons_ne_nil _ _
    by_cases c1 : a = 60
    · subst c1; exact List.cons_ne_nil _ _
    by_cases c2 : a = 34
    · subst c2; exact List.cons_ne_nil _ _
    by_cases c3 : a = 9
    · subst c3; exact List.cons_ne_nil _ _
    by_cases c4 : a = 10
    · subst c4; exact List.cons_ne_nil _ _
    by_cases c5 : a = 13
    · subst c5; exact List.cons_ne_nil _ _
    simp only [pieceA, c0, c1, c2, c3, c4, c5, if_false]; exact List.cons_ne_nil _ _
  found := by
    intro a r
    by_cases c0 : a = 38
    · subst c0; rfl
    by_cases c1 : a = 60
    · subst c1; rfl
    by_cases c2 : a = 34
    · subst c2; rfl
    by_cases c3 : a = 9
    · subst c3; rfl
    by_cases c4 : a = 10
    · subst c4; rfl
    by_cases c5 : a = 13
    · subst c5; rfl
    simp only [pieceA, c0, c1, c2, c3, c4, c5, if_false]; exact fndL_plain c0 r
  step := by
    intro a r
    by_cases c0 : a = 38
    · subst c0; rfl
    by_cases c1 : a = 60
    · subst c1; rfl
    by_cases c2 : a = 34
    · subst c2; rfl
    by_cases c3 : a = 9
    · subst c3; rfl
    by_cases c4 : a = 10
    · subst c4; rfl
    by_cases c5 : a = 13
    · subst c5; rfl
    simp only [pieceA, c0, c1, c2, c3, c4, c5, if_false]; exact stpL_plain c0 r
theorem pieceA_len (a : Nat) : (pieceA a).length ≤ 6 := by
  unfold pieceA
  repeat' (first | exact Nat.le_of_ble_eq_true rfl | split)
theorem escA_len (T : Str) : (escA T).length ≤ 6 * T.length := by
  rw [length_eq, escA_cps, length_eq T]
  exact map_len pieceA_len _
def norm (a : Bool) (t : Str) : Str :=
  if a = true then Txt.replace (Txt.replace (Txt.replace (Txt.replace t (Str.ofString "\r\n") (Str.ofString "\n")) (Str.ofString "\r") (Str.ofString "\n")) (Str.ofString "\n") (Str.ofString " ")) (Str.ofString "\t") (Str.ofString " ")
  else Txt.replace (Txt.replace t (Str.ofString "\r\n") (Str.ofString "\n")) (Str.ofString "\r") (Str.ofString "\n")
def readL (t : Str) (a : Bool) : Str := Esc.readG fndL stpL (norm a t)
theorem mem_pieces {p : Nat → List Nat} {c : Nat} {l : List Nat} : c ∈ l.flatMap p ↔ ∃ a ∈ l, c ∈ p a := List.mem_flatMap
theorem gone {p : Nat → List Nat} {c : Nat} (h : ∀ a, c ∉ p a) (l : List Nat) : c ∉ l.flatMap p := fun m => by
  obtain ⟨a, _, ha⟩ := List.mem_flatMap.mp m
  exact h a ha
theorem pieceC_no60 (a : Nat) : 60 ∉ pieceC a := by
  by_cases c0 : a = 38
  · subst c0; decide
  by_cases c1 : a = 60
  · subst c1; decide
  by_cases c2 : a = 62
  · subst c2; decide
  by_cases c3 : a = 13
  · subst c3; decide
  simp only [pieceC, c0, c1, c2, c3, if_false, List.mem_singleton]
  omega
theorem pieceC_no62 (a : Nat) : 62 ∉ pieceC a := by
  by_cases c0 : a = 38
  · subst c0; decide
  by_cases c1 : a = 60
  · subst c1; decide
  by_cases c2 : a = 62
  · subst c2; decide
  by_cases c3 : a = 13
  · subst c3; decide
  simp only [pieceC, c0, c1, c2, c3, if_false, List.mem_singleton]
  omega
theorem pieceC_no13 (a : Nat) : 13 ∉ pieceC a := by
  by_cases c0 : a = 38
  · subst c0; decide
  by_cases c1 : a = 60
  · subst c1; decide
  by_cases c2 : a = 62
  · subst c2; decide
  by_cases c3 : a = 13
  · subst c3; decide
  simp only [pieceC, c0, c1, c2, c3, if_false, List.mem_singleton]
  omega
theorem pieceA_no60 (a : Nat) : 60 ∉ pieceA a := by
  by_cases c0 : a = 38
  · subst c0; decide
  by_cases c1 : a = 60
  · subst c1; decide
  by_cases c2 : a = 34
  · subst c2; decide
  by_cases c3 : a = 9
  · subst c3; decide
  by_cases c4 : a = 10
  · subst c4; decide
  by_cases c5 : a = 13
  · subst c5; decide
  simp only [pieceA, c0, c1, c2, c3, c4, c5, if_false, List.mem_singleton]
  omega
theorem pieceA_no34 (a : Nat) : 34 ∉ pieceA a := by
  by_cases c0 : a = 38
  · subst c0; decide
  by_cases c1 : a = 60
  · subst c1; decide
  by_cases c2 : a = 34
  · subst c2; decide
  by_cases c3 : a = 9
  · subst c3; decide
  by_cases c4 : a = 10
  · subst c4; decide
  by_cases c5 : a = 13
  · subst c5; decide
  simp only [pieceA, c0, c1, c2, c3, c4, c5, if_false, List.mem_singleton]
  omega
theorem pieceA_no10 (a : Nat) : 10 ∉ pieceA a := by
  by_cases c0 : a = 38
  · subst c0; decide
  by_cases c1 : a = 60
  · subst c1; decide
  by_cases c2 : a = 34
  · subst c2; decide
  by_cases c3 : a = 9
  · subst c3; decide
  by_cases c4 : a = 10
  · subst c4; decide
  by_cases c5 : a = 13
  · subst c5; decide
  simp only [pieceA, c0, c1, c2, c3, c4, c5, if_false, List.mem_singleton]
  omega
theorem pieceA_no9 (a : Nat) : 9 ∉ pieceA a := by
  by_cases c0 : a = 38
  · subst c0; decide
  by_cases c1 : a = 60
  · subst c1; decide
  by_cases c2 : a = 34
  · subst c2; decide
  by_cases c3 : a = 9
  · subst c3; decide
  by_cases c4 : a = 10
  · subst c4; decide
  by_cases c5 : a = 13
  · subst c5; decide
  simp only [pieceA, c0, c1, c2, c3, c4, c5, if_false, List.mem_singleton]
  omega
theorem pieceA_no13 (a : Nat) : 13 ∉ pieceA a := by
  by_cases c0 : a = 38
  · subst c0; decide
  by_cases c1 : a = 60
  · subst c1; decide
  by_cases c2 : a = 34
  · subst c2; decide
  by_cases c3 : a = 9
  · subst c3; decide
  by_cases c4 : a = 10
  · subst c4; decide
  by_cases c5 : a = 13
  · subst c5; decide
  simp only [pieceA, c0, c1, c2, c3, c4, c5, if_false, List.mem_singleton]
  omega
theorem pieceA_62 (a : Nat) : 62 ∈ pieceA a ↔ a = 62 := by
  by_cases c0 : a = 38
  · subst c0; decide
  by_cases c1 : a = 60
  · subst c1; decide
  by_cases c2 : a = 34
  · subst c2; decide
  by_cases c3 : a = 9
  · subst c3; decide
  by_cases c4 : a = 10
  · subst c4; decide
  by_cases c5 : a = 13
  · subst c5; decide
  simp only [pieceA, c0, c1, c2, c3, c4, c5, if_false, List.mem_singleton]
  omega
theorem absentC {c : Nat} (h : ∀ a, c ∉ pieceC a) (T : Str) : c ∉ (escC T).cps.toList := by rw [escC_cps]; exact gone h _
theorem absentA {c : Nat} (h : ∀ a, c ∉ pieceA a) (T : Str) : c ∉ (escA T).cps.toList := by rw [escA_cps]; exact gone h _
theorem norm_C (T : Str) : norm false (escC T) = escC T := by
  have h := absentC pieceC_no13 T
  generalize escC T = x at *
  show Txt.replace (Txt.replace x _ _) _ _ = x
  rw [replace_absent (c := 13) (r := [10]) (by decide +kernel) h, replace_absent (c := 13) (r := []) (by decide +kernel) h]
theorem norm_A (T : Str) : norm true (escA T) = escA T := by
  have h := absentA pieceA_no13 T
  have h' := absentA pieceA_no10 T
  have h'' := absentA pieceA_no9 T
  generalize escA T = x at *
  show Txt.replace (Txt.replace (Txt.replace (Txt.replace x _ _) _ _) _ _) _ _ = x
  rw [replace_absent (c := 13) (r := [10]) (by decide +kernel) h, replace_absent (c := 13) (r := []) (by decide +kernel) h,
    replace_absent (c := 10) (r := []) (by decide +kernel) h', replace_absent (c := 9) (r := []) (by decide +kernel) h'']
theorem read_C (T : Str) : readL (escC T) false = T := by
  unfold readL; rw [norm_C]; exact read_wrote wroteC (escC_cps T)
theorem read_A (T : Str) : readL (escA T) true = T := by
  unfold readL; rw [norm_A]; exact read_wrote wroteA (escA_cps T)
theorem cut_C {T : Str} {j : Int} (h0 : 0 ≤ j) (hj : j ≤ T.length) : escC (Txt.slice T none (some j)) ++ escC (Txt.slice T (some j) none) = escC T := by
  apply str_ext
  rw [app_cps, escC_cps, escC_cps, escC_cps, slice_to_cps h0 hj, slice_from_cps h0 hj, ← List.flatMap_append, List.take_append_drop]
theorem cut_A {T : Str} {j : Int} (h0 : 0 ≤ j) (hj : j ≤ T.length) : escA (Txt.slice T none (some j)) ++ escA (Txt.slice T (some j) none) = escA T := by
  apply str_ext
  rw [app_cps, escA_cps, escA_cps, escA_cps, slice_to_cps h0 hj, slice_from_cps h0 hj, ← List.flatMap_append, List.take_append_drop]
theorem in_one (x y : Str) (c : Nat) (hy : y = ⟨#[c]⟩) : (!(PySem.Builtin.Str.occurrences x y 0 x.length 1).isEmpty) = decide (c ∈ x.cps.toList) := by
  subst hy; exact StrLaws.found_one x c
theorem in_A62 (T : Str) : decide (62 ∈ (escA T).cps.toList) = decide (62 ∈ T.cps.toList) := by
  apply decide_eq_decide.mpr
  rw [escA_cps]
  constructor
  · intro h
    obtain ⟨a, ha, h62⟩ := List.mem_flatMap.mp h
    rw [pieceA_62] at h62
    exact h62 ▸ ha
  · intro h
    exact List.mem_flatMap.mpr ⟨62, h, (pieceA_62 62).mpr rfl⟩
end Esc02
end
section
open PySem PySem.W PyProof.Rows
namespace Esc02
local macro_rules | `(tactic| walk_at "exec If") => `(tactic| (k_here; (rename Fr _ _ _ _ => F'); (rename News _ _ _ _ => N'); apply Esc.rep_if F' N'; (case hold => with_unfolding_all rfl)))
local macro_rules | `(tactic| walk_at "Turn") => `(tactic| ((show _ → ∀ _ _, _ → _ → _ → _); intro hc' h' tk' htk' F'' N''))
local macro_rules | `(tactic| walk_at "TestAt") => `(tactic| exact ⟨rfl, _, _, rfl, by omega, by assumption, by assumption⟩)
local macro_rules | `(tactic| walk_at "StrAt") => `(tactic| exact ⟨rfl, _, ⟨⟨_, _, rfl, by assumption, by assumption⟩⟩⟩)
local macro_rules | `(tactic| walk_at "Same") => `(tactic| first | exact Esc.same_two 38 5 (by decide +kernel) (by decide) (by decide +kernel) | exact Esc.same_two 60 4 (by decide +kernel) (by decide) (by decide +kernel) | exact Esc.same_two 62 4 (by decide +kernel) (by decide) (by decide +kernel) | exact Esc.same_two 34 6 (by decide +kernel) (by decide) (by decide +kernel) | exact Esc.same_two 13 5 (by decide +kernel) (by decide) (by decide +kernel) | exact Esc.same_two 10 5 (by decide +kernel) (by decide) (by decide +kernel) | exact Esc.same_two 9 5 (by decide +kernel) (by decide) (by decide +kernel))
local macro_rules | `(tactic| walk_at "Rest") => `(tactic| (k_whole; (show ∀ _ _ _, _ → _ → _ → _); intro t' h' tk' hl' F'' N''))
local macro_rules | `(tactic| walk_at "call builtin:str.replace") => `(tactic| (k_here; (with_reducible show wpAny _ _ (call (Value.builtin "str.replace") [Value.str _ _, Value.str _ _, Value.str _ _]) _ _ _); first
  | (refine Esc.replace_call 1 (by omega) (by decide +kernel) (by omega) (by decide +kernel) (by decide) (by first | omega | (dsimp only; omega)) ?_; intro t' k' hk' hl')
  | (refine Esc.replace_call 6 (by omega) (by decide +kernel) (by omega) (by decide +kernel) (by decide) (by first | omega | (dsimp only; omega)) ?_; intro t' k' hk' hl'9; clear hl'9)))

theorem escC_call {w : World} {dp un : Nat} {gd : Option (List Code)} {cn : Str} {cs : Scope} {a : Addr} {ccd : Value} {cl : List (Str × Addr)} {outer : List Env} {A₀ : Around} {base h₀ : Heap} {L : Addr} {m : Str → Option Value} {s : Shared} {Q E : Value → Shared → Prop} {mean : ExcName → Option Value} {mg mb : Str → Option Value} {news : List (Addr × Obj)} {T : Str} {t : Tok}
    (k1 : Below A₀ base outer h₀) (k2 : Fr h₀ L s.heap m) (k3 : (hd.heap_39 w.params).In h₀) (k4 : News h₀ L s.heap news) (k5 : Top hd.view_39 (looseW hd.view_39 []) mean mg mb h₀) (kK : cs.kind = .function)
    (kp : T.length ≤ 63) (kd : dp + 1 < recursionLimit) (ku : un + 8 < cLine)
    (hret : ∀ (t' : Tok) (h' : Heap) (tk' : Nat), Fr h₀ L h' m → News h₀ L h' news → Q (.str (escC T) t') { s with heap := h', toks := tk' }) :
    wpAny (model Challenge.rw_kp0108_02.row.prog w) (ktrTop dp un gd cn cs L a ccd cl outer) (call (.ref 28) [.str T t]) Q E s := by
  revert k3; k_fill; intro k3
  refine wpAny_call ?_
  k_dflt cell_enter
  w_top off
  k_steps
  all_goals exact hret _ _ _ (by assumption) (by assumption)
theorem escA_call {w : World} {dp un : Nat} {gd : Option (List Code)} {cn : Str} {cs : Scope} {a : Addr} {ccd : Value} {cl : List (Str × Addr)} {outer : List Env} {A₀ : Around} {base h₀ : Heap} {L : Addr} {m : Str → Option Value} {s : Shared} {Q E : Value → Shared → Prop} {mean : ExcName → Option Value} {mg mb : Str → Option Value} {news : List (Addr × Obj)} {T : Str} {t : Tok}
    (k1 : Below A₀ base outer h₀) (k2 : Fr h₀ L s.heap m) (k3 : (hd.heap_39 w.params).In h₀) (k4 : News h₀ L s.heap news) (k5 : Top hd.view_39 (looseW hd.view_39 []) mean mg mb h₀) (kK : cs.kind = .function)
    (kp : T.length ≤ 63) (kd : dp + 1 < recursionLimit) (ku : un + 8 < cLine)
    (hret : ∀ (t' : Tok) (h' : Heap) (tk' : Nat), Fr h₀ L h' m → News h₀ L h' news → Q (.str (escA T) t') { s with heap := h', toks := tk' }) :
    wpAny (model Challenge.rw_kp0108_02.row.prog w) (ktrTop dp un gd cn cs L a ccd cl outer) (call (.ref 35) [.str T t]) Q E s := by
  revert k3; k_fill; intro k3
  refine wpAny_call ?_
  k_dflt cell_enter
  w_top off
  k_steps
  all_goals exact hret _ _ _ (by assumption) (by assumption)
end Esc02
end
section
open PySem PySem.W PyProof.Rows
namespace Esc02
theorem rd_turn {U p : Str} {k : Int} (h : Esc.Inv fndL stpL U p k) (hk : k < (U.length : Int)) : Esc.Inv fndL stpL U (p ++ fnd U k) (k + stp U k) :=
  Esc.inv_turn fair h hk (fnd_cps h.p1 hk) (stp_eq h.p1 hk)
theorem rd_less {U p : Str} {k : Int} (h : Esc.Inv fndL stpL U p k) (hk : k < (U.length : Int)) : U.length - (k + stp U k).toNat < U.length - k.toNat :=
  Esc.inv_less fair h hk (stp_eq h.p1 hk)
section
variable {prog : Program} {w : World} {A : Around} {E : Value → Shared → Prop} {s : Shared} {t u : Tok} {Q : Value → Shared → Prop}
theorem add_found {U p : Str} {k : Int} (h : Esc.Inv fndL stpL U p k) (hk : k < (U.length : Int)) (hq : ∀ t' k', Q (.str (p ++ fnd U k) t') { s with toks := k' }) :
    wpAny (model prog w) A (binaryOp .Add (.str p t) (.str (fnd U k) u)) Q E s := by
  refine KOpn.add ?_ fun t' k' _ => hq t' k'
  have e : (fnd U k).length ≤ 1 := by rw [Esc.length_eq, fnd_cps h.p1 hk]; exact fair.short _
  have := h.p2
  have := h.p3
  have := h.p4
  omega
theorem add_step {U p : Str} {k : Int} (_h : Esc.Inv fndL stpL U p k) (hq : ∀ t' k', Q (.int (k + stp U k) t') { s with toks := k' }) :
    wpAny (model prog w) A (binaryOp .Add (.int k t) (.int (stp U k) u)) Q E s := by
  first
    | exact add_int (hq _ _)
    | (refine add_int ?_; exact hq _ _)
end
local macro_rules | `(tactic| walk_at "exec If") => `(tactic| (k_here; (rename Fr _ _ _ _ => F'); (rename News _ _ _ _ => N'); apply Esc.rep_if F' N'; (case hold => with_unfolding_all rfl)))
local macro_rules | `(tactic| walk_at "Turn") => `(tactic| ((show _ → ∀ _ _, _ → _ → _ → _); intro hc' h' tk' htk' F'' N''))
local macro_rules | `(tactic| walk_at "TestAt") => `(tactic| exact ⟨rfl, _, _, rfl, by omega, by assumption, by assumption⟩)
local macro_rules | `(tactic| walk_at "StrAt") => `(tactic| exact ⟨rfl, _, ⟨⟨_, _, rfl, by assumption, by assumption⟩⟩⟩)
local macro_rules | `(tactic| walk_at "Same") => `(tactic| first | exact Esc.same_two 38 5 (by decide +kernel) (by decide) (by decide +kernel) | exact Esc.same_two 60 4 (by decide +kernel) (by decide) (by decide +kernel) | exact Esc.same_two 62 4 (by decide +kernel) (by decide) (by decide +kernel) | exact Esc.same_two 34 6 (by decide +kernel) (by decide) (by decide +kernel) | exact Esc.same_two 13 5 (by decide +kernel) (by decide) (by decide +kernel) | exact Esc.same_two 10 5 (by decide +kernel) (by decide) (by decide +kernel) | exact Esc.same_two 9 5 (by decide +kernel) (by decide) (by decide +kernel))
local macro_rules | `(tactic| walk_at "Rest") => `(tactic| (k_whole; (show ∀ _ _ _, _ → _ → _ → _); intro t' h' tk' hl' F'' N''))
local macro_rules | `(tactic| walk_at "call builtin:str.replace") => `(tactic| (k_here; (with_reducible show wpAny _ _ (call (Value.builtin "str.replace") [Value.str _ _, Value.str _ _, Value.str _ _]) _ _ _); refine Esc.replace_hid 1 (by omega) (by decide +kernel) (by omega) (by decide +kernel) (by decide) (by first | omega | (dsimp only; omega)) ?_; intro U t' k' hk' hl' hU'))
local macro_rules | `(tactic| walk_at "execs cons") => `(tactic| (k_here; (refine Esc.cons_toks (by (try dsimp only); omega) ?_); intro tk htk; (try dsimp only)))
local macro_rules | `(tactic| walk_at "After") => `(tactic| (unfold Esc.After; intro htk'; dsimp only at htk' ⊢))
local macro_rules | `(tactic| walk_at "exec While Compare cons nil") => `(tactic| (k_while_given ["text"] (fun (U : Str) (_ : List Int) (plain : Str) (k : Int) => Esc.Inv fndL stpL U plain k) (fun (U : Str) (_ : List Int) (_ : Str) (k : Int) => U.length - k.toNat) "plain" "k"; (rename Esc.Inv _ _ _ _ _ => hInv'); (have hInv1 := Esc.Inv.p1 hInv'); (have hInv2 := Esc.Inv.p2 hInv'); (have hInv3 := Esc.Inv.p3 hInv'); (have hInv4 := Esc.Inv.p4 hInv')))
local macro_rules | `(tactic| walk_at "exec If") => `(tactic| (k_here; (rename Fr _ _ _ _ => F'); (rename News _ _ _ _ => N'); (first | (apply Esc.two_if2 F' N'; (case hne => decide +kernel)) | (apply Esc.two_if1 F' N'; (case hne => decide +kernel))); (all_goals (try k_fold))))
local macro_rules | `(tactic| walk_at "Enter") => `(tactic| ((show _ → _); intro F'; (try k_fold)))
local macro_rules | `(tactic| walk_at "Turn2") => `(tactic| ((show _ → ∀ _ _, _ → _ → _); intro hc' h' tk' F'' N''; (try k_fold)))
local macro_rules | `(tactic| walk_at "TestTo") => `(tactic| exact ⟨rfl, ⟨⟨_, _, rfl, by assumption, by assumption⟩⟩⟩)
local macro_rules | `(tactic| walk_at "TwoAt") => `(tactic| exact ⟨rfl, _, _, ⟨⟨_, _, rfl, by assumption, by assumption⟩⟩⟩)
local macro_rules | `(tactic| walk_at "Rest2") => `(tactic| (k_whole; (show ∀ _ _ _ _, _ → _ → _); intro t' t'2 h' tk' F'' N''))
local macro_rules | `(tactic| walk_at "binaryOp Add int int") => `(tactic| (k_here; (with_reducible show wpAny _ _ (binaryOp Operator.Add (Value.int _ _) (Value.int (cond _ _ _) _)) _ _ _); (rename Esc.Inv _ _ _ _ _ => hInv'); k_dflt (refine add_step hInv' ?_); intro t' k'))
local macro_rules | `(tactic| walk_at "binaryOp Add str str") => `(tactic| (k_here; (with_reducible show wpAny _ _ (binaryOp Operator.Add (Value.str _ _) (Value.str _ _)) _ _ _); (rename Esc.Inv _ _ _ _ _ => hInv'); k_dflt (refine add_found hInv' (by omega) ?_); intro t' k'))
theorem read_call {w : World} {dp un : Nat} {gd : Option (List Code)} {cn : Str} {cs : Scope} {a : Addr} {ccd : Value} {cl : List (Str × Addr)} {outer : List Env} {A₀ : Around} {base h₀ : Heap} {L : Addr} {m : Str → Option Value} {s : Shared} {Q E : Value → Shared → Prop} {mean : ExcName → Option Value} {mg mb : Str → Option Value} {news : List (Addr × Obj)} {T : Str} {t : Tok} {att : Bool}
    (k1 : Below A₀ base outer h₀) (k2 : Fr h₀ L s.heap m) (k3 : (hd.heap_39 w.params).In h₀) (k4 : News h₀ L s.heap news) (k5 : Top hd.view_39 (looseW hd.view_39 []) mean mg mb h₀) (kK : cs.kind = .function)
    (kp : T.length ≤ 400) (kd : dp + 1 < recursionLimit) (ku : un + 8 < cLine)
    (hret : ∀ (t' : Tok) (h' : Heap) (tk' : Nat), Fr h₀ L h' m → News h₀ L h' news → Q (.str (readL T att) t') { s with heap := h', toks := tk' }) :
    wpAny (model Challenge.rw_kp0108_02.row.prog w) (ktrTop dp un gd cn cs L a ccd cl outer) (call (.ref 49) [.str T t, .bool att]) Q E s := by
  revert k3; k_fill; intro k3
  refine wpAny_call ?_
  k_dflt cell_enter
  w_top off
  k_with "state" => first | exact Esc.inv_start (by omega) | exact rd_turn (by assumption) (by assumption)
  k_with "measure" => exact rd_less (by assumption) (by assumption)
  k_steps
  all_goals (
    (rename Esc.Inv _ _ _ _ _ => hI)
    have e := Esc.inv_end hI (by assumption)
    subst_vars
    refine' hret _ _ _ ?f (Esc.drop1 ?n)
    case f => assumption
    case n => assumption)
end Esc02
end
section
open PySem PySem.W PyProof.Rows
namespace Esc02
open Esc
theorem no_not {a b : Str} (h : a = b) : ¬ ((a != b) = true) := by subst h; simp
theorem no1C (T : Str) : ¬ ((readL (escC T) false != T) = true) := no_not (read_C T)
theorem no1A (T : Str) : ¬ ((readL (escA T) true != T) = true) := no_not (read_A T)
theorem half {T : Str} : 0 ≤ Int.fdiv (T.length : Int) 2 ∧ Int.fdiv (T.length : Int) 2 ≤ T.length := by
  have e : Int.fdiv (T.length : Int) 2 = (T.length : Int) / 2 := by
    first
      | exact Int.fdiv_eq_ediv_of_nonneg _ (by decide)
      | exact Int.fdiv_eq_ediv _ (by decide)
  rw [e]
  omega
theorem no2C (T : Str) : ¬ ((escC (Txt.slice T none (some (Int.fdiv (T.length : Int) 2))) ++ escC (Txt.slice T (some (Int.fdiv (T.length : Int) 2)) none) != escC T) = true) := no_not (cut_C half.1 half.2)
theorem no2A (T : Str) : ¬ ((escA (Txt.slice T none (some (Int.fdiv (T.length : Int) 2))) ++ escA (Txt.slice T (some (Int.fdiv (T.length : Int) 2)) none) != escA T) = true) := no_not (cut_A half.1 half.2)
theorem no3C {T y : Str} (c : Nat) (hy : y = ⟨#[c]⟩) (h : ∀ a, c ∉ pieceC a) : ¬ ((!(PySem.Builtin.Str.occurrences (escC T) y 0 (escC T).length 1).isEmpty) = true) := by
  rw [in_one _ _ c hy]; exact fun e => absentC h T (of_decide_eq_true e)
theorem no3A {T y : Str} (c : Nat) (hy : y = ⟨#[c]⟩) (h : ∀ a, c ∉ pieceA a) : ¬ ((!(PySem.Builtin.Str.occurrences (escA T) y 0 (escA T).length 1).isEmpty) = true) := by
  rw [in_one _ _ c hy]; exact fun e => absentA h T (of_decide_eq_true e)
theorem escC_400 {T : Str} (h : T.length ≤ 63) : (escC T).length ≤ 400 := Nat.le_trans (escC_len T) (by omega)
theorem escA_400 {T : Str} (h : T.length ≤ 63) : (escA T).length ≤ 400 := Nat.le_trans (escA_len T) (by omega)
theorem slice_63 {T : Str} {i j : Option Int} (h : T.length ≤ 63) : (Txt.slice T i j).length ≤ 63 := Nat.le_trans (Txt.slice_le T i j) h
theorem no4C {T y : Str} (hy : y = ⟨#[62]⟩) : ¬ (((!(PySem.Builtin.Str.occurrences (escC T) y 0 (escC T).length 1).isEmpty) != false) = true) := by
  rw [in_one _ _ 62 hy, decide_eq_false (absentC pieceC_no62 T)]; decide
theorem no4A {T y : Str} (hy : y = ⟨#[62]⟩) : ¬ (((!(PySem.Builtin.Str.occurrences (escA T) y 0 (escA T).length 1).isEmpty) != (!(PySem.Builtin.Str.occurrences T y 0 T.length 1).isEmpty)) = true) := by
  rw [in_one _ _ 62 hy, in_one _ _ 62 hy, in_A62]; simp
section
variable {prog : Program} {w : World} {A : Around} {E : Value → Shared → Prop} {s : Shared} {t u : Tok} {Q : Value → Shared → Prop}
theorem add_C {T : Str} {i j i' j' : Option Int} (hT : T.length ≤ 63) (hq : ∀ t' k', Q (.str (escC (Txt.slice T i j) ++ escC (Txt.slice T i' j')) t') { s with toks := k' }) :
    wpAny (model prog w) A (binaryOp .Add (.str (escC (Txt.slice T i j)) t) (.str (escC (Txt.slice T i' j')) u)) Q E s := by
  refine KOpn.add ?_ fun t' k' _ => hq t' k'
  have := escC_len (Txt.slice T i j)
  have := escC_len (Txt.slice T i' j')
  have := Txt.slice_le T i j
  have := Txt.slice_le T i' j'
  omega
theorem add_A {T : Str} {i j i' j' : Option Int} (hT : T.length ≤ 63) (hq : ∀ t' k', Q (.str (escA (Txt.slice T i j) ++ escA (Txt.slice T i' j')) t') { s with toks := k' }) :
    wpAny (model prog w) A (binaryOp .Add (.str (escA (Txt.slice T i j)) t) (.str (escA (Txt.slice T i' j')) u)) Q E s := by
  refine KOpn.add ?_ fun t' k' _ => hq t' k'
  have := escA_len (Txt.slice T i j)
  have := escA_len (Txt.slice T i' j')
  have := Txt.slice_le T i j
  have := Txt.slice_le T i' j'
  omega
end
end Esc02
end
open PySem PySem.W PyProof.Rows
local macro_rules | `(tactic| walk_at "call builtin:str.join") => `(tactic| (k_here; (with_reducible show wpAny _ _ (call (Value.builtin "str.join") [Value.str _ _, Value.ref _]) _ _ _); (with_reducible rename CarriedAll _ (List.map _ _) => ktC); (refine Esc.join_any (by first | assumption | is_list | exact News.isList (by k_asm) (by k_mem)) ktC (by intro ktA ktM; (try dsimp only); (repeat' split) <;> first | omega | exact Nat.le_refl _ | exact Nat.le_of_ble_eq_true rfl) (by omega) ?_; clear ktC; intro T hT t' k')))
local macro_rules | `(tactic| walk_at "call ref") => `(tactic| (k_here; (with_reducible show wpAny _ _ (call (Value.ref _) (Value.str _ _ :: _)) _ _ _); k_dflt (first
  | (refine' Esc02.escC_call ?k1 ?k2 ?k3 ?k4 ?k5 ?kK ?kp ?kd ?ku ?_; (case k1 => k_asm); (case k2 => k_asm); (case k3 => k_asm); (case k4 => k_asm); (case k5 => k_asm); (case kK => first | exact rfl | assumption); (case kp => with_reducible first | assumption | exact Esc02.slice_63 (by assumption)); (case kd => ktr_room); (case ku => ktr_units); intro t' h' tk' F' N')
  | (refine' Esc02.escA_call ?k1 ?k2 ?k3 ?k4 ?k5 ?kK ?kp ?kd ?ku ?_; (case k1 => k_asm); (case k2 => k_asm); (case k3 => k_asm); (case k4 => k_asm); (case k5 => k_asm); (case kK => first | exact rfl | assumption); (case kp => with_reducible first | assumption | exact Esc02.slice_63 (by assumption)); (case kd => ktr_room); (case ku => ktr_units); intro t' h' tk' F' N')
  | (refine' Esc02.read_call ?k1 ?k2 ?k3 ?k4 ?k5 ?kK ?kp ?kd ?ku ?_; (case k1 => k_asm); (case k2 => k_asm); (case k3 => k_asm); (case k4 => k_asm); (case k5 => k_asm); (case kK => first | exact rfl | assumption); (case kp => with_reducible first | exact Esc02.escC_400 (by assumption) | exact Esc02.escA_400 (by assumption)); (case kd => ktr_room); (case ku => ktr_units); intro t' h' tk' F' N'))))
local macro_rules | `(tactic| walk_at "ite") => `(tactic| (k_here; with_reducible first
  | refine ite_neg (Esc02.no1C _) ?_ | refine ite_neg (Esc02.no1A _) ?_ | refine ite_neg (Esc02.no2C _) ?_ | refine ite_neg (Esc02.no2A _) ?_
  | refine ite_neg (Esc02.no3C 60 (by decide +kernel) Esc02.pieceC_no60) ?_ | refine ite_neg (Esc02.no3C 13 (by decide +kernel) Esc02.pieceC_no13) ?_
  | refine ite_neg (Esc02.no3A 60 (by decide +kernel) Esc02.pieceA_no60) ?_ | refine ite_neg (Esc02.no3A 13 (by decide +kernel) Esc02.pieceA_no13) ?_
  | refine ite_neg (Esc02.no3A 34 (by decide +kernel) Esc02.pieceA_no34) ?_ | refine ite_neg (Esc02.no3A 10 (by decide +kernel) Esc02.pieceA_no10) ?_ | refine ite_neg (Esc02.no3A 9 (by decide +kernel) Esc02.pieceA_no9) ?_ | refine ite_neg (Esc02.no4C (by decide +kernel)) ?_ | refine ite_neg (Esc02.no4A (by decide +kernel)) ?_))
local macro_rules | `(tactic| walk_at "binaryOp Add str str") => `(tactic| (k_here; first | (refine Esc02.add_C (by assumption) ?_; intro t' k') | (refine Esc02.add_A (by assumption) ?_; intro t' k')))
theorem PySem.Challenge.cw_kp0108_02_holds : PySem.Challenge.rw_kp0108_02.Holds := by
  exact Esc02.hd (by
    k_go0; (all_goals try k_fold); k_steps)
