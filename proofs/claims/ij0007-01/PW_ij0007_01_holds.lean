import PyProof.Rows.All
import Wide.All
import OpenK.AllK
import Wide.FinOn
import PySem.Challenge.RW_ij0007_01
set_option Elab.async false

/-! ### part HD -/
section
open PySem PySem.W PyProof.Rows
set_option maxRecDepth 100000
set_option maxHeartbeats 8000000
namespace Mine
open_top hd for PySem.Challenge.rw_ij0007_01
end Mine

end

/-! ### part F1 -/
section
open PySem PySem.W PyProof.Rows
set_option maxRecDepth 100000
namespace Mine

def Sub (g h : Heap) : Prop := ∀ b o, g.get? b = some o → h.get? b = some o
theorem Sub.refl (g : Heap) : Sub g g := fun _ _ e => e
theorem Sub.trans {a b c : Heap} (x : Sub a b) (y : Sub b c) : Sub a c := fun i o e => y i o (x i o e)

/-- the heap h with only the addresses p seen -/
def vis (h : Heap) (p : Nat → Bool) : Heap := ⟨h.objs.mapIdx fun i o => if p i then o else { cls := .none, data := .freed }, h.life⟩
theorem vis_get (h : Heap) (p : Nat → Bool) (b : Nat) : (vis h p).get? b = if p b then h.get? b else none := by
  unfold vis Heap.get?
  simp only [Array.getElem?_mapIdx]
  cases hb : h.objs[b]? with
  | none => simp
  | some o =>
    by_cases hp : p b = true
    · simp [hp]
    · simp [hp]
theorem vis_sub (h : Heap) (p : Nat → Bool) : Sub (vis h p) h := fun b o e => by
  rw [vis_get] at e
  by_cases hp : p b = true
  · rwa [if_pos hp] at e
  · rw [if_neg hp] at e; cases e

abbrev NsL := List (Nat × (Str → Option Value))
abbrev MuL := List (Nat × Obj)

structure St (s₀ : Shared) (ns : NsL) (mu : MuL) (gn : Heap) (s : Shared) : Prop where
  same : ∃ h tk, s = { s₀ with heap := h, toks := tk }
  tpos : 0 < s.toks
  keep : Sub s₀.heap s.heap
  nsOk : ∀ p ∈ ns, s.heap.Ns p.1 p.2
  sub : Sub gn s.heap
  gnew : ∀ (b : Nat) o, gn.get? b = some o → s₀.heap.objs.size ≤ b
  gns : ∀ p ∈ ns, gn.get? p.1 = none
  muOk : ∀ p ∈ mu, s.heap.get? p.1 = some p.2
  gmu : ∀ p ∈ mu, gn.get? p.1 = none
  anew : ∀ a ∈ ns.map (·.1) ++ mu.map (·.1), s₀.heap.objs.size ≤ a
  nd : (ns.map (·.1) ++ mu.map (·.1)).Nodup

theorem get_lt {h : Heap} {b : Nat} {o : Obj} (e : h.get? b = some o) : @LT.lt Nat _ b h.objs.size := Heap.lt_size e
theorem get_ge {h : Heap} {b : Nat} (e : h.objs.size ≤ b) : h.get? b = none := by
  cases q : h.get? b with
  | none => rfl
  | some o => have := get_lt q; omega

section
variable {s₀ s s' : Shared} {ns : NsL} {mu : MuL} {gn : Heap} {q : Nat × (Str → Option Value)}

theorem St.tok (S : St s₀ ns mu gn s) (tk : Nat) (hp : 0 < tk) : St s₀ ns mu gn { s with toks := tk } :=
  { S with same := let ⟨h, _, e⟩ := S.same; ⟨h, tk, by rw [e]⟩, tpos := hp }

theorem St.lt (S : St s₀ ns mu gn s) : ∀ a ∈ ns.map (·.1) ++ mu.map (·.1), @LT.lt Nat _ a s.heap.objs.size := fun a ha => by
  rcases List.mem_append.mp ha with h | h
  · obtain ⟨p, hp, rfl⟩ := List.mem_map.mp h; exact (S.nsOk p hp).lt
  · obtain ⟨p, hp, rfl⟩ := List.mem_map.mp h; exact get_lt (S.muOk p hp)

theorem St.le (S : St s₀ (q :: ns) mu gn s) : s₀.heap.objs.size ≤ s.heap.objs.size := by
  have h1 := S.anew q.1 (by simp)
  have h2 := S.lt q.1 (by simp)
  omega

theorem St.keeps (S : St s₀ ns mu gn s) (k : Keeps s s') (hp : 0 < s'.toks) : St s₀ ns mu gn s' := by
  obtain ⟨h', tk, rfl, hk⟩ := k
  refine { same := let ⟨_, _, e⟩ := S.same; ⟨h', tk, by rw [e]⟩, tpos := hp, keep := fun b o e => hk b o (S.keep b o e), nsOk := fun p hp => (S.nsOk p hp).keeps hk, sub := fun b o e => hk b o (S.sub b o e), gnew := S.gnew, gns := S.gns, muOk := fun p hp => hk _ _ (S.muOk p hp), gmu := S.gmu, anew := S.anew, nd := S.nd }

/-- a new object, still ours to change -/
theorem St.push (S : St s₀ (q :: ns) mu gn s) (o : Obj) (hf : o.isFreed = false := by rfl) : St s₀ (q :: ns) ((s.heap.objs.size, o) :: mu) gn { s with heap := s.heap.push o } where
  same := let ⟨_, tk, e⟩ := S.same; ⟨_, tk, by rw [e]⟩
  tpos := S.tpos
  keep := fun b o' e => Heap.get?_push_of_some _ (S.keep b o' e)
  nsOk := fun p hp => (S.nsOk p hp).push o
  sub := fun b o' e => Heap.get?_push_of_some _ (S.sub b o' e)
  gnew := S.gnew
  gns := S.gns
  muOk := fun p hp => by
    rcases List.mem_cons.mp hp with rfl | hp
    · exact Heap.get?_push_size _ hf
    · exact Heap.get?_push_of_some _ (S.muOk p hp)
  gmu := fun p hp => by
    rcases List.mem_cons.mp hp with rfl | hp
    · cases h : gn.get? s.heap.objs.size with
      | none => rfl
      | some o' => have := get_lt (S.sub _ _ h); omega
    · exact S.gmu p hp
  anew := fun a ha => by
    rcases List.mem_append.mp ha with h | h
    · exact S.anew a (List.mem_append_left _ h)
    · rcases List.mem_cons.mp h with rfl | h
      · exact S.le
      · exact S.anew a (List.mem_append_right _ h)
  nd := by
    have hl := S.lt
    have hn := S.nd
    rw [List.map_cons]
    rw [List.nodup_append] at hn ⊢
    refine ⟨hn.1, List.nodup_cons.mpr ⟨fun hm => ?_, hn.2.1⟩, fun a ha b hb => ?_⟩
    · have := hl _ (List.mem_append_right _ hm); simp only at this; omega
    · rcases List.mem_cons.mp hb with rfl | hb
      · have := hl _ (List.mem_append_left _ ha); simp only; omega
      · exact hn.2.2 a ha b hb

/-- the frame's names change -/
theorem St.store {L : Nat} {m m' : Str → Option Value} {h' : Heap} {tk : Nat} (S : St s₀ ((L, m) :: ns) mu gn s) (hs : Heap.SameBut L s.heap h') (hn : h'.Ns L m') (hp : 0 < tk) : St s₀ ((L, m') :: ns) mu gn { s with heap := h', toks := tk } := by
  have hnd := S.nd
  have hnd' := hnd
  simp only [List.map_cons, List.cons_append, List.nodup_cons] at hnd
  have off : ∀ b o, b ≠ L → s.heap.get? b = some o → h'.get? b = some o := fun b o hb e => (hs.2 b hb).trans e
  refine { same := let ⟨_, _, e⟩ := S.same; ⟨h', tk, by rw [e]⟩, tpos := hp, keep := fun b o e => off b o ?_ (S.keep b o e), nsOk := fun p hp => ?_, sub := fun b o e => off b o ?_ (S.sub b o e), gnew := S.gnew, gns := fun p hp => ?_, muOk := fun p hp => off _ _ ?_ (S.muOk p hp), gmu := S.gmu, anew := fun a ha => ?_, nd := ?_ }
  · have h1 := S.anew L (by simp)
    have h2 := get_lt e
    rintro rfl; omega
  · rcases List.mem_cons.mp hp with rfl | hp'
    · exact hn
    · refine (S.nsOk p (.tail _ hp')).at' fun o e => off _ _ ?_ e
      rintro rfl
      exact hnd.1 (List.mem_append_left _ (List.mem_map_of_mem hp'))
  · rintro rfl
    have := S.gns (b, m) (.head _)
    simp only at this
    rw [this] at e; cases e
  · rcases List.mem_cons.mp hp with rfl | hp'
    · exact S.gns (L, m) (.head _)
    · exact S.gns p (.tail _ hp')
  · rintro rfl
    exact hnd.1 (List.mem_append_right _ (List.mem_map_of_mem hp))
  · exact S.anew a (by simpa using ha)
  · simpa using hnd'

theorem St.changed {a : Nat} {o o' : Obj} {h' : Heap} {tk : Nat} (S : St s₀ ns ((a, o) :: mu) gn s) (hs : ∀ b x, b ≠ a → s.heap.get? b = some x → h'.get? b = some x) (hn : h'.get? a = some o') (hp : 0 < tk) : St s₀ ns ((a, o') :: mu) gn { s with heap := h', toks := tk } := by
  have hnd := S.nd
  rw [List.nodup_append] at hnd
  obtain ⟨n1, n2, n3⟩ := hnd
  rw [List.map_cons, List.nodup_cons] at n2
  refine { same := let ⟨_, _, e⟩ := S.same; ⟨h', tk, by rw [e]⟩, tpos := hp, keep := fun b x e => hs b x ?_ (S.keep b x e), nsOk := fun p hp => (S.nsOk p hp).at' fun x e => hs _ x ?_ e, sub := fun b x e => hs b x ?_ (S.sub b x e), gnew := S.gnew, gns := S.gns, muOk := fun p hp => ?_, gmu := fun p hp => ?_, anew := fun b hb => S.anew b (by simpa using hb), nd := by simpa using S.nd }
  · have h1 := S.anew a (by simp)
    have h2 := get_lt e
    rintro rfl; omega
  · intro e2
    exact n3 p.1 (List.mem_map_of_mem hp) a (by simp) e2
  · rintro rfl
    have := S.gmu (b, o) (.head _)
    simp only at this
    rw [this] at e; cases e
  · rcases List.mem_cons.mp hp with rfl | hp'
    · exact hn
    · refine hs _ _ ?_ (S.muOk p (.tail _ hp'))
      intro e2
      exact n2.1 (List.mem_map.mpr ⟨p, hp', e2⟩)
  · rcases List.mem_cons.mp hp with rfl | hp'
    · exact S.gmu (a, o) (.head _)
    · exact S.gmu p (.tail _ hp')

theorem St.perm {mu' : MuL} (S : St s₀ ns mu gn s) (h : mu.Perm mu') : St s₀ ns mu' gn s where
  same := S.same
  tpos := S.tpos
  keep := S.keep
  nsOk := S.nsOk
  sub := S.sub
  gnew := S.gnew
  gns := S.gns
  muOk := fun p hp => S.muOk p (h.mem_iff.mpr hp)
  gmu := fun p hp => S.gmu p (h.mem_iff.mpr hp)
  anew := fun a ha => S.anew a (by
    rcases List.mem_append.mp ha with h1 | h1
    · exact List.mem_append_left _ h1
    · exact List.mem_append_right _ ((h.map (·.1)).mem_iff.mpr h1))
  nd := ((h.map (·.1)).append_left _).nodup_iff.mp S.nd

theorem St.swap {p r : Nat × Obj} (S : St s₀ ns (p :: r :: mu) gn s) : St s₀ ns (r :: p :: mu) gn s := S.perm (List.Perm.swap ..)
theorem St.rot3 {p r t : Nat × Obj} (S : St s₀ ns (p :: r :: t :: mu) gn s) : St s₀ ns (t :: p :: r :: mu) gn s :=
  S.perm ((List.Perm.cons p (List.Perm.swap t r mu)).trans (List.Perm.swap t p (r :: mu)))

theorem St.drop {p : Nat × Obj} (S : St s₀ ns (p :: mu) gn s) : St s₀ ns mu gn s where
  same := S.same
  tpos := S.tpos
  keep := S.keep
  nsOk := S.nsOk
  sub := S.sub
  gnew := S.gnew
  gns := S.gns
  muOk := fun p hp => S.muOk p (.tail _ hp)
  gmu := fun p hp => S.gmu p (.tail _ hp)
  anew := fun a ha => S.anew a (by
    rcases List.mem_append.mp ha with h1 | h1
    · exact List.mem_append_left _ h1
    · exact List.mem_append_right _ (.tail _ h1))
  nd := by
    have h := S.nd
    rw [List.nodup_append] at h ⊢
    obtain ⟨n1, n2, n3⟩ := h
    rw [List.map_cons, List.nodup_cons] at n2
    exact ⟨n1, n2.2, fun a ha b hb => n3 a ha b (.tail _ hb)⟩

theorem St.dropNs (S : St s₀ (q :: ns) mu gn s) : St s₀ ns mu gn s where
  same := S.same
  tpos := S.tpos
  keep := S.keep
  nsOk := fun p hp => S.nsOk p (.tail _ hp)
  sub := S.sub
  gnew := S.gnew
  gns := fun p hp => S.gns p (.tail _ hp)
  muOk := S.muOk
  gmu := S.gmu
  anew := fun a ha => S.anew a (.tail _ ha)
  nd := (List.nodup_cons.mp S.nd).2

/-- all that is new and not ours to change is seen henceforth -/
theorem St.freeze (S : St s₀ ns mu gn s) : ∃ gn', Sub gn gn' ∧ (∀ (b : Nat) o, s.heap.get? b = some o → s₀.heap.objs.size ≤ b → b ∉ ns.map (·.1) ++ mu.map (·.1) → gn'.get? b = some o) ∧ St s₀ ns mu gn' s := by
  let p : Nat → Bool := fun b => decide (s₀.heap.objs.size ≤ b) && !(decide (b ∈ ns.map (·.1) ++ mu.map (·.1)))
  have hin : ∀ (b : Nat) o, s.heap.get? b = some o → s₀.heap.objs.size ≤ b → b ∉ ns.map (·.1) ++ mu.map (·.1) → (vis s.heap p).get? b = some o := fun b o e h1 h2 => by
    rw [vis_get, if_pos (by simp only [p, Bool.and_eq_true, decide_eq_true_eq, Bool.not_eq_true', decide_eq_false_iff_not]; exact ⟨h1, h2⟩)]
    exact e
  have hout : ∀ a ∈ ns.map (·.1) ++ mu.map (·.1), (vis s.heap p).get? a = none := fun a ha => by
    rw [vis_get, if_neg]
    simp only [p, Bool.and_eq_true, decide_eq_true_eq, Bool.not_eq_true', decide_eq_false_iff_not]
    exact fun h => h.2 ha
  refine ⟨vis s.heap p, fun b o e => hin b o (S.sub b o e) (S.gnew b o e) fun hm => ?_, hin, { S with sub := vis_sub _ _, gnew := fun b o e => ?_, gns := fun q hq => hout _ (List.mem_append_left _ (List.mem_map_of_mem hq)), gmu := fun q hq => hout _ (List.mem_append_right _ (List.mem_map_of_mem hq)) }⟩
  · rcases List.mem_append.mp hm with h | h
    · obtain ⟨q, hq, rfl⟩ := List.mem_map.mp h; rw [S.gns q hq] at e; cases e
    · obtain ⟨q, hq, rfl⟩ := List.mem_map.mp h; rw [S.gmu q hq] at e; cases e
  · rw [vis_get] at e
    by_cases hp : p b = true
    · simp only [p, Bool.and_eq_true, decide_eq_true_eq] at hp; exact hp.1
    · rw [if_neg hp] at e; cases e

theorem St.freeze1 {a : Nat} {o : Obj} (S : St s₀ ns ((a, o) :: mu) gn s) : ∃ gn', Sub gn gn' ∧ gn'.get? a = some o ∧ St s₀ ns mu gn' s := by
  obtain ⟨gn', h1, h2, h3⟩ := S.drop.freeze
  refine ⟨gn', h1, h2 a o (S.muOk (a, o) (.head _)) (S.anew a (by simp)) fun hm => ?_, h3⟩
  have hn := S.nd
  rw [List.nodup_append] at hn
  obtain ⟨_, n2, n3⟩ := hn
  rw [List.map_cons, List.nodup_cons] at n2
  rcases List.mem_append.mp hm with h | h
  · exact n3 a h a (by simp) rfl
  · exact n2.1 h

/-- what a call made, seen -/
theorem St.absorb {gr : Heap} (S : St s₀ (q :: ns) mu gn s) (k : Keeps s s') (hr : Sub gr s'.heap) (hn : ∀ (b : Nat) o, gr.get? b = some o → s.heap.objs.size ≤ b) (hp : 0 < s'.toks) :
    ∃ gn', Sub gn gn' ∧ Sub gr gn' ∧ St s₀ (q :: ns) mu gn' s' := by
  obtain ⟨gn', h1, h2, h3⟩ := (S.keeps k hp).freeze
  refine ⟨gn', h1, fun b o e => h2 b o (hr b o e) (Nat.le_trans S.le (hn b o e)) fun hm => ?_, h3⟩
  have := S.lt b hm
  have := hn b o e
  omega

theorem St.start {L : Nat} {m : Str → Option Value} {h : Heap} {tk : Nat} (hn : h.Ns L m) (hk : Sub s₀.heap h) (hL : s₀.heap.objs.size ≤ L) (hp : 0 < tk) : St s₀ [(L, m)] [] { objs := #[] } { s₀ with heap := h, toks := tk } where
  same := ⟨h, tk, rfl⟩
  tpos := hp
  keep := hk
  nsOk := fun p hp => by rw [List.mem_singleton.mp hp]; exact hn
  sub := fun b o e => by simp [Heap.get?] at e
  gnew := fun b o e => by simp [Heap.get?] at e
  gns := fun p hp => by simp [Heap.get?]
  muOk := fun _ hp => nomatch hp
  gmu := fun _ hp => nomatch hp
  anew := fun a ha => by simp at ha; subst ha; exact hL
  nd := by simp

theorem wp_pos {α : Type} {M : Model} {A : Around} {t : Sem α} {Q : α → Shared → Prop} {E : Value → Shared → Prop} (S : St s₀ ns mu gn s) (h : wpAny M A t (fun a s' => 0 < s'.toks → Q a s') E s) : wpAny M A t Q E s := wpAny_with_toks (n := 1) S.tpos (wpAny_mono h (fun _ _ x => x) fun _ _ e _ => e)

theorem St.keepsAll (S : St s₀ ns mu gn s) : Keeps s₀ s := by
  obtain ⟨h, tk, e⟩ := S.same
  refine ⟨h, tk, e, ?_⟩
  have := S.keep
  rw [e] at this
  exact this
end
end Mine

end

/-! ### part F2 -/
section
open PySem PySem.W PyProof.Rows
set_option maxRecDepth 100000
namespace Mine

abbrev NoE : Value → Shared → Prop := fun _ _ => False
theorem noE {α : Type} {M : Model} {A : Around} {t : Sem α} {Q : α → Shared → Prop} {E : Value → Shared → Prop} {s : Shared} (h : wpAny M A t Q NoE s) : wpAny M A t Q E s := wpAny_mono h (fun _ _ x => x) fun _ _ x => x.elim

section
variable {s₀ s s' : Shared} {ns : NsL} {mu : MuL} {gn : Heap} {q : Nat × (Str → Option Value)}

/-- an object of ours that is let go -/
theorem St.lost {a : Nat} {o : Obj} {h' : Heap} {tk : Nat} (S : St s₀ ns ((a, o) :: mu) gn s) (hs : ∀ b x, b ≠ a → s.heap.get? b = some x → h'.get? b = some x) (hp : 0 < tk) : St s₀ ns mu gn { s with heap := h', toks := tk } := by
  have hnd := S.nd
  rw [List.nodup_append] at hnd
  obtain ⟨n1, n2, n3⟩ := hnd
  rw [List.map_cons, List.nodup_cons] at n2
  have D := S.drop
  refine { same := let ⟨_, _, e⟩ := S.same; ⟨h', tk, by rw [e]⟩, tpos := hp, keep := fun b x e => hs b x ?_ (S.keep b x e), nsOk := fun p hp => (S.nsOk p hp).at' fun x e => hs _ x ?_ e, sub := fun b x e => hs b x ?_ (S.sub b x e), gnew := S.gnew, gns := S.gns, muOk := fun p hp => hs _ _ ?_ (D.muOk p hp), gmu := D.gmu, anew := D.anew, nd := D.nd }
  · have h1 := S.anew a (by simp)
    have h2 := get_lt e
    rintro rfl; omega
  · intro e2
    exact n3 p.1 (List.mem_map_of_mem hp) a (by simp) e2
  · rintro rfl
    have := S.gmu (b, o) (.head _)
    simp only at this
    rw [this] at e; cases e
  · intro e2
    exact n2.1 (List.mem_map.mpr ⟨p, hp, e2⟩)
end

section
variable {prog : Program} {w : World} {A : Around} {s₀ s : Shared} {gn : Heap}

/-- an iterator at I: n items, P of each -/
structure Itr (prog : Program) (w : World) (A : Around) (s₀ : Shared) (gn : Heap) (I : Nat) (n : Nat) (P : Nat → Value → Prop) (T : Nat → Heap → Prop) : Prop where
  walks : ∃ fp wr, Walks prog w A I fp wr n P T ∧ (∀ b ∈ wr, b = I) ∧ ∀ b ∈ fp, b = I ∨ ∃ o, s₀.heap.get? b = some o ∨ gn.get? b = some o
  there : ∀ i h, T i h → ∃ o, h.get? I = some o

def goOk (prog : Program) (w : World) (A : Around) (target : Expr) (I : Nat) (P : Nat → Value → Prop) (T : Nat → Heap → Prop) : Prop :=
  ∀ i v s Q, T (i + 1) s.heap → P i v → Q () s → wpAny (model prog w) A (letOwnedTupleGo target (.ref I) v) Q NoE s
theorem goOk_name {x : Str} {pos : Pos} {I : Nat} {P : Nat → Value → Prop} {T : Nat → Heap → Prop} : goOk prog w A (.Name x pos) I P T := fun _ _ _ _ _ _ q => wpAny_pure q

def forGo (target : Expr) (body : List Stmt) (env : Env) (J : Nat → NsL → MuL → Heap → Prop) (prog : Program) (w : World) (A : Around) (s₀ : Shared) (I : Nat) (oI : Obj) (i : Nat) (gn : Heap) (v : Value) (Q : Flow → Shared → Prop) (s : Shared) : Prop :=
  wpAny (model prog w) A (assign target env v) (fun _ s₂ => wpAny (model prog w) A (execs body env) (fun f s₃ => match f with
    | .next | .cont => ∃ ns' mu' gn', Sub gn gn' ∧ J (i + 1) ns' mu' gn' ∧ St s₀ ns' ((I, oI) :: mu') gn' s₃
    | .brk => Q .next s₃
    | .ret v => Q (.ret v) s₃) NoE s₂) NoE s

theorem for_st {target : Expr} {body : List Stmt} {env : Env} {ns : NsL} {mu : MuL} {I : Nat} {oI : Obj} {n : Nat} {P : Nat → Value → Prop} {T : Nat → Heap → Prop} {Q : Flow → Shared → Prop}
    (W : Itr prog w A s₀ gn I n P T) (hgo : goOk prog w A target I P T) (J : Nat → NsL → MuL → Heap → Prop)
    (S : St s₀ ns ((I, oI) :: mu) gn s) (hst : T 0 s.heap) (hJ : J 0 ns mu gn)
    (turn : ∀ i v ns' mu' gn' oI' s', i < n → P i v → Sub gn gn' → J i ns' mu' gn' → St s₀ ns' ((I, oI') :: mu') gn' s' → forGo target body env J prog w A s₀ I oI' i gn' v Q s')
    (done : ∀ ns' mu' gn' s', Sub gn gn' → J n ns' mu' gn' → St s₀ ns' mu' gn' s' → Q .next s') :
    codeAny (model prog w) A (.forLoop target (.ref I) body [] env) (fun r s' => ∃ f, r = .ok f ∧ Q f s') s := by
  obtain ⟨⟨fp, wr, W, hwr, hfp⟩, hI⟩ := W
  refine codeAny_forLoop_any (fun k s' => ∃ i ns' mu' gn' oI', k = n + 1 - i ∧ i ≤ n ∧ St s₀ ns' ((I, oI') :: mu') gn' s' ∧ Sub gn gn' ∧ T i s'.heap ∧ J i ns' mu' gn') ?_ (n + 1)
    ⟨0, ns, mu, gn, oI, rfl, Nat.zero_le _, S, Sub.refl _, hst, hJ⟩
  rintro k s' ⟨i, ns', mu', gn', oI', rfl, hi, S', hg, ht, hJ'⟩
  by_cases hlt : i < n
  · refine wp_pos S' (W.item i _ _ _ hlt ht fun v h₁ tk₁ hP ht₁ hk₁ => ?_)
    intro hp₁
    obtain ⟨o₁, ho₁⟩ := hI _ _ ht₁
    have S₁ : St s₀ ns' ((I, o₁) :: mu') gn' { s' with heap := h₁, toks := tk₁ } := S'.changed (fun b x hb e => hk₁ b x (fun hm => hb (hwr b hm)) e) ho₁ hp₁
    dsimp only
    refine noE (hgo i v _ _ ht₁ hP ?_)
    refine noE (wpAny_mono (turn i v ns' mu' gn' o₁ _ hlt hP hg hJ' S₁) (fun _ s₂ h₂ => noE (wpAny_mono h₂ (fun f s₃ h₃ => ?_) fun _ _ x => x)) fun _ _ x => x)
    have fin : (∃ ns'' mu'' gn'', Sub gn' gn'' ∧ J (i + 1) ns'' mu'' gn'' ∧ St s₀ ns'' ((I, o₁) :: mu'') gn'' s₃) →
        ∃ m, m < n + 1 - i ∧ ∃ i ns' mu' gn' oI', m = n + 1 - i ∧ i ≤ n ∧ St s₀ ns' ((I, oI') :: mu') gn' s₃ ∧ Sub gn gn' ∧ T i s₃.heap ∧ J i ns' mu' gn' := by
      rintro ⟨ns'', mu'', gn'', hg₂, hJ₂, S₂⟩
      refine ⟨n + 1 - (i + 1), by omega, i + 1, ns'', mu'', gn'', o₁, rfl, hlt, S₂, hg.trans hg₂, ?_, hJ₂⟩
      refine W.frame _ _ _ ht₁ fun b hb o e => ?_
      rcases hfp b hb with rfl | ⟨o', h | h⟩
      · rw [ho₁] at e; cases e
        exact S₂.muOk (b, o₁) (.head _)
      · have e1 := S₁.keep b o' h
        have e2 := S₂.keep b o' h
        rw [e] at e1; rw [e2, ← e1]
      · have e1 := S₁.sub b o' (hg b o' h)
        have e2 := S₂.sub b o' (hg₂ b o' (hg b o' h))
        rw [e] at e1; rw [e2, ← e1]
    cases f with
    | next => exact fin h₃
    | cont => exact fin h₃
    | brk => exact ⟨_, rfl, h₃⟩
    | ret v => exact ⟨_, rfl, h₃⟩
  · have : i = n := by omega
    subst this
    refine wp_pos S' (W.done _ _ _ ht fun h₁ tk₁ hk₁ => ?_)
    intro hp₁
    dsimp only
    refine wpAny_execs_nil ⟨_, rfl, done ns' mu' gn' _ hg hJ' (S'.lost (fun b x hb e => hk₁ b x (fun hm => hb (hwr b hm)) e) hp₁)⟩

theorem codeAny_compLoop_any {R : Result → Shared → Prop} {elt target iter : Expr} {scope : Scope} {pos : Pos} {it acc : Value} {env : Env} (I : Nat → Shared → Prop)
    (turn : ∀ n s, I n s → wpAny (model prog w) A (pyNext it) (fun r s₁ => match r with
      | none => R (.ok .next) s₁
      | some v => wpAny (model prog w) A (letOwnedTupleGo target it v) (fun _ s₂ => wpAny (model prog w) A (assign target env v) (fun _ s₃ => wpAny (model prog w) A (eval elt env) (fun x s₄ =>
          wpAny (model prog w) A (call (.builtin "list.append") [acc, x]) (fun _ s₅ => ∃ m, m < n ∧ I m s₅) NoE s₄) NoE s₃) NoE s₂) NoE s₁) NoE s)
    (n : Nat) (h : I n s) : codeAny (model prog w) A (.compLoop (.ListComp elt [⟨target, iter, [], 0⟩] scope pos) 0 it acc env) R s := by
  refine codeAny_loop rfl I (fun n s hI => ?_) n h
  show wpAny _ A ((compTurn (.ListComp elt [⟨target, iter, [], 0⟩] scope pos) 0 it acc env).onRaise (fun x => do noteFrame x env; theTreesLotGoes x)) _ _ s
  refine wpAny_noted ?_
  rw [compTurn_list1]
  refine wpAny_bind (wpAny_standAt (wpAny_bind (noE (wpAny_mono (turn n s hI) (fun r s₁ h₁ => ?_) fun _ _ h' => h'))))
  cases r with
  | none => exact wpAny_pure h₁
  | some v =>
    refine wpAny_bind (noE (wpAny_mono h₁ (fun _ s₂ h₂ => noE (wpAny_bind (noE (wpAny_mono h₂ (fun _ s₃ h₃ => ?_) fun _ _ x => x)))) fun _ _ x => x))
    refine wpAny_bind (wpAny_bind (noE (wpAny_mono h₃ (fun x s₄ h₄ => wpAny_bind (noE (wpAny_mono h₄ (fun _ s₅ h₅ => wpAny_pure (wpAny_pure ⟨rfl, h₅⟩)) fun _ _ x => x))) fun _ _ x => x)))

/-- the block of a list comprehension, one for, no if -/
theorem comp_st {elt target iter : Expr} {scope : Scope} {cl : List (Str × Addr)} {pos : Pos} {env : Env} {ns : NsL} {mu : MuL} {I : Nat} {oI : Obj} {n : Nat} {P : Nat → Value → Prop} {T : Nat → Heap → Prop} {q : Nat × (Str → Option Value)}
    (W : Itr prog w A s₀ gn I n P T) (hgo : goOk prog w A target I P T) (J : Nat → List Value → Heap → Prop)
    (S : St s₀ (q :: ns) ((I, oI) :: mu) gn s) (hst : T 0 s.heap) (hJ : J 0 [] gn) (hsz : n ≤ sizeLine)
    (hcell : ∀ y ∈ scope.names, y.2 ≠ .cell) (hkind : scope.kind = .function)
    {Q : Nat → Nat → Shared → Prop}
    (turn : ∀ i v ys gn' oI' s' C mC D oD, i < n → P i v → Sub gn gn' → J i ys gn' → St s₀ ((C, mC) :: q :: ns) ((I, oI') :: (D, oD) :: mu) gn' s' →
      wpAny (model prog w) A (assign target (compEnvC scope cl C env) v) (fun _ s₂ => wpAny (model prog w) A (eval elt (compEnvC scope cl C env)) (fun y s₃ => ∃ mC' gn'', Sub gn' gn'' ∧ J (i + 1) (ys ++ [y]) gn'' ∧
        St s₀ ((C, mC') :: q :: ns) ((I, oI') :: (D, oD) :: mu) gn'' s₃) NoE s₂) NoE s')
    (done : ∀ ys gn' s' C mC D k, Sub gn gn' → J n ys gn' → ys.length = n → St s₀ ((C, mC) :: q :: ns) ((D, listOf ys.toArray k) :: mu) gn' s' → Q D C s') :
    wpAny (model prog w) A (newList []) (fun acc s₃ => wpAny (model prog w) A (newFunctionEnv scope env.globals cl [] env.qual none .none (some env)) (fun cenv s₄ =>
      codeAny (model prog w) A (.compStart (.ListComp elt [⟨target, iter, [], 0⟩] scope pos) 0 (.ref I) acc { cenv with scope := relabel scope env }) (fun r s' => ∃ D, r = .ok .next ∧ acc = .ref D ∧ Q D cenv.locals s') s₄) NoE s₃) NoE s := by
  obtain ⟨⟨fp, wr, W, hwr, hfp⟩, hI⟩ := W
  refine wpAny_newObj_type (wpAny_newFunctionEnv hcell (by intro y hy; simp at hy) (fun h₁ hns₁ hsb₁ => ?_) hkind)
  dsimp only at hns₁ hsb₁ ⊢
  have SD := S.push (listOf #[] 0)
  -- the block's names: a new dict
  have SC := (SD.push { cls := .type "dict", data := .dict #[] })
  have hC : (s.heap.push (listOf #[] 0)).objs.size = s.heap.objs.size + 1 := Heap.size_push ..
  have S₁ : St s₀ ((s.heap.objs.size + 1, fun _ => none) :: q :: ns) ((I, oI) :: (s.heap.objs.size, listOf #[] 0) :: mu) gn { s with heap := h₁, toks := s.toks + 0 } := by
    have SC' := SC.lost (h' := h₁) (tk := s.toks) (fun b x hb e => hsb₁.extBut b x (by rw [Heap.size_push]; rw [← hC]; exact hb) e) S.tpos
    have hn := hns₁
    rw [Heap.size_push] at hn
    refine { same := SC'.same, tpos := SC'.tpos, keep := SC'.keep, nsOk := ?_, sub := SC'.sub, gnew := S.gnew, gns := ?_, muOk := fun p hp => SC'.muOk p ?_, gmu := fun p hp => SC'.gmu p ?_, anew := ?_, nd := ?_ }
    · intro p hp
      rcases List.mem_cons.mp hp with rfl | hp
      · exact hn
      · exact SC'.nsOk p hp
    · intro p hp
      rcases List.mem_cons.mp hp with rfl | hp
      · cases h : gn.get? (s.heap.objs.size + 1) with
        | none => rfl
        | some o' => have := get_lt (S.sub _ _ h); omega
      · exact S.gns p hp
    · rcases List.mem_cons.mp hp with rfl | hp
      · exact .tail _ (.head _)
      · rcases List.mem_cons.mp hp with rfl | hp
        · exact .head _
        · exact .tail _ (.tail _ hp)
    · rcases List.mem_cons.mp hp with rfl | hp
      · exact .tail _ (.head _)
      · rcases List.mem_cons.mp hp with rfl | hp
        · exact .head _
        · exact .tail _ (.tail _ hp)
    · intro a ha
      have h1 := SD.anew a
      have h2 := S.le
      simp only [List.map_cons, List.cons_append, List.mem_cons, List.mem_append] at ha h1
      rcases ha with rfl | rfl | ha | rfl | rfl | ha
      · omega
      · exact h1 (.inl rfl)
      · exact h1 (.inr (.inl ha))
      · exact h1 (.inr (.inr (.inr (.inl rfl))))
      · exact h1 (.inr (.inr (.inl rfl)))
      · exact h1 (.inr (.inr (.inr (.inr ha))))
    · have h1 := (SD.swap).nd
      have h2 := (SD.swap).lt
      rw [List.map_cons, List.cons_append, List.nodup_cons]
      refine ⟨fun hm => ?_, h1⟩
      have := h2 _ hm
      simp only [Heap.size_push] at this
      omega
  have old : ∀ b o, s.heap.get? b = some o → h₁.get? b = some o := fun b o e => by
    have hb := get_lt e
    refine hsb₁.extBut b o ?_ (Heap.get?_push_of_some _ (Heap.get?_push_of_some _ e))
    rw [Heap.size_push]
    exact fun h => by subst h; omega
  have hst₁ : T 0 h₁ := W.frame _ _ _ hst fun b _ o e => old b o e
  have loop : codeAny (model prog w) A (.compLoop (.ListComp elt [⟨target, iter, [], 0⟩] scope pos) 0 (.ref I) (.ref s.heap.objs.size) (compEnvC scope cl (s.heap.objs.size + 1) env))
      (fun r s' => ∃ D, r = .ok .next ∧ Value.ref s.heap.objs.size = .ref D ∧ Q D (s.heap.objs.size + 1) s') { s with heap := h₁, toks := s.toks + 0 } := by
    refine codeAny_compLoop_any (fun k s' => ∃ i ys gn' oI' mC kk, k = n + 1 - i ∧ i ≤ n ∧ ys.length = i ∧ St s₀ ((s.heap.objs.size + 1, mC) :: q :: ns) ((I, oI') :: (s.heap.objs.size, listOf ys.toArray kk) :: mu) gn' s' ∧ Sub gn gn' ∧ T i s'.heap ∧ J i ys gn') ?_ (n + 1)
      ⟨0, [], gn, oI, _, 0, rfl, Nat.zero_le _, rfl, S₁, Sub.refl _, hst₁, hJ⟩
    rintro k s' ⟨i, ys, gn', oI', mC, kk, rfl, hi, hys, S', hg, ht, hJ'⟩
    by_cases hlt : i < n
    · refine wp_pos S' (W.item i _ _ _ hlt ht fun v h₁ tk₁ hP ht₁ hk₁ => ?_)
      intro hp₁
      obtain ⟨o₁, ho₁⟩ := hI _ _ ht₁
      have S₁ := S'.changed (h' := h₁) (tk := tk₁) (o' := o₁) (fun b x hb e => hk₁ b x (fun hm => hb (hwr b hm)) e) ho₁ hp₁
      dsimp only
      refine noE (hgo i v _ _ ht₁ hP ?_)
      refine noE (wpAny_mono (turn i v ys gn' o₁ _ _ _ _ _ hlt hP hg hJ' S₁) (fun _ s₂ h₂ => noE (wpAny_mono h₂ (fun y s₃ h₃ => ?_) fun _ _ x => x)) fun _ _ x => x)
      obtain ⟨mC', gn'', hg₂, hJ₂, S₂⟩ := h₃
      have hpl : s₃.heap.PlainList s.heap.objs.size ys.toArray := ⟨kk, S₂.muOk (s.heap.objs.size, listOf ys.toArray kk) (.tail _ (.head _))⟩
      refine wpAny_list_append_plain hpl (fun h₄ hp₄ hs₄ => ?_) (by simp only [List.size_toArray]; omega)
      obtain ⟨k₄, ho₄⟩ := hp₄
      have S₄ := (S₂.swap.changed (h' := h₄) (tk := s₃.toks) (fun b x hb e => hs₄.extBut b x hb e) ho₄ S₂.tpos).swap
      refine ⟨n + 1 - (i + 1), by omega, i + 1, ys ++ [y], gn'', o₁, mC', k₄, rfl, hlt, by simp [hys], ?_, hg.trans hg₂, ?_, hJ₂⟩
      · have e1 : (ys ++ [y]).toArray = ys.toArray.push y := by simp
        rw [e1]
        exact S₄
      · refine W.frame _ _ _ ht₁ fun b hb o e => ?_
        rcases hfp b hb with rfl | ⟨o', h | h⟩
        · rw [ho₁] at e; cases e
          exact S₄.muOk (b, o₁) (.head _)
        · have e1 := S₁.keep b o' h
          have e2 := S₄.keep b o' h
          rw [e] at e1; rw [e2, ← e1]
        · have e1 := S₁.sub b o' (hg b o' h)
          have e2 := S₄.sub b o' (hg₂ b o' (hg b o' h))
          rw [e] at e1; rw [e2, ← e1]
    · have : i = n := by omega
      subst this
      refine wp_pos S' (W.done _ _ _ ht fun h₁ tk₁ hk₁ => ?_)
      intro hp₁
      exact ⟨_, rfl, rfl, done ys gn' _ _ _ _ _ hg hJ' hys (S'.lost (fun b x hb e => hk₁ b x (fun hm => hb (hwr b hm)) e) hp₁)⟩
  have e0 : (⟨scope, (s.heap.push { cls := .type "list", data := .seq ([] : List Value).toArray }).objs.size, env.globals, cl, env.qual, none, env.code, env.frame, env.builtins⟩ : Env) = ⟨scope, s.heap.objs.size + 1, env.globals, cl, env.qual, none, env.code, env.frame, env.builtins⟩ := by rw [Heap.size_push]
  simp only [newEnv, Heap.size_push] at *
  exact codeAny_compStart_list loop (W.self 0 _ _ _ hst₁ loop)
end
end Mine

end

/-! ### part F3 -/
section
open PySem PySem.W PyProof.Rows
set_option maxRecDepth 100000
namespace Mine

/-- what stands at every state: the text's written heap K, the globals, the built-ins -/
structure Gd (K : Frag) (h : Heap) : Prop where
  X : K.In h
  g : ∃ mg, h.Ns mainGlobals mg
  b : ∃ mb, h.Ns builtinsNs mb ∧ ∀ x : Str, x ≠ "__name__" → mb x = bootBuiltins x
  lim : h.NoLimit
theorem Gd.keeps {K : Frag} {h h' : Heap} (D : Gd K h) (k : Sub h h') : Gd K h' :=
  ⟨D.X.keeps k, let ⟨mg, x⟩ := D.g; ⟨mg, x.keeps k⟩, let ⟨mb, x, y⟩ := D.b; ⟨mb, x.keeps k, y⟩, D.lim.keeps k⟩

section
variable {s₀ s s' : Shared} {ns : NsL} {mu : MuL} {gn : Heap} {q r : Nat × (Str → Option Value)}

theorem St.lostNs {h' : Heap} {tk : Nat} (S : St s₀ (q :: ns) mu gn s) (hs : ∀ b x, b ≠ q.1 → s.heap.get? b = some x → h'.get? b = some x) (hp : 0 < tk) : St s₀ ns mu gn { s with heap := h', toks := tk } := by
  have hnd := S.nd
  rw [List.map_cons, List.cons_append, List.nodup_cons] at hnd
  have D := S.dropNs
  refine { same := let ⟨_, _, e⟩ := S.same; ⟨h', tk, by rw [e]⟩, tpos := hp, keep := fun b x e => hs b x ?_ (S.keep b x e), nsOk := fun p hp => (D.nsOk p hp).at' fun x e => hs _ x ?_ e, sub := fun b x e => hs b x ?_ (S.sub b x e), gnew := S.gnew, gns := D.gns, muOk := fun p hp => hs _ _ ?_ (S.muOk p hp), gmu := S.gmu, anew := D.anew, nd := D.nd }
  · have h1 := S.anew q.1 (by simp)
    have h2 := get_lt e
    intro h; subst h; omega
  · intro e2
    exact hnd.1 (List.mem_append_left _ (List.mem_map.mpr ⟨p, hp, e2⟩))
  · intro h; subst h
    rw [S.gns q (.head _)] at e; cases e
  · intro e2
    exact hnd.1 (List.mem_append_right _ (List.mem_map.mpr ⟨p, hp, e2⟩))

theorem St.swapNs (S : St s₀ (q :: r :: ns) mu gn s) : St s₀ (r :: q :: ns) mu gn s where
  same := S.same
  tpos := S.tpos
  keep := S.keep
  nsOk := fun p hp => S.nsOk p (by simp only [List.mem_cons] at hp ⊢; rcases hp with h | h | h <;> simp [h])
  sub := S.sub
  gnew := S.gnew
  gns := fun p hp => S.gns p (by simp only [List.mem_cons] at hp ⊢; rcases hp with h | h | h <;> simp [h])
  muOk := S.muOk
  gmu := S.gmu
  anew := fun a ha => S.anew a (by
    simp only [List.map_cons, List.cons_append, List.mem_cons] at ha ⊢
    rcases ha with h | h | h <;> simp [h])
  nd := by
    have h := S.nd
    simp only [List.map_cons, List.cons_append, List.nodup_cons, List.mem_cons, not_or] at h ⊢
    exact ⟨⟨fun e => h.1.1 e.symm, h.2.1⟩, h.1.2, h.2.2⟩

theorem St.fr {L : Nat} {m : Str → Option Value} (S : St s₀ ((L, m) :: ns) mu gn s) : Fr s₀.heap L s.heap m := ⟨S.nsOk (L, m) (.head _), S.keep, S.anew L (by simp)⟩
theorem St.gd {K : Frag} (S : St s₀ ns mu gn s) (D : Gd K s₀.heap) : Gd K s.heap := D.keeps S.keep
theorem St.mu0 {a : Nat} {o : Obj} (S : St s₀ ns ((a, o) :: mu) gn s) : s.heap.get? a = some o := S.muOk (a, o) (.head _)
end

section
variable {prog : Program} {w : World} {A : Around} {E : Value → Shared → Prop} {s₀ s : Shared} {ns : NsL} {mu : MuL} {gn : Heap} {env : Env} {L : Nat} {m : Str → Option Value}

/-- a comprehension's list as a value -/
theorem comp_eval {elt target iter : Expr} {scope : Scope} {cl : List (Str × Addr)} {pos : Pos} {Q : Value → Shared → Prop}
    (hclos : closureFor scope env = pure cl) (hkind : scope.kind = .function) (hnames : ∀ y ∈ scope.names, y.2 = .local → scope.names.lookup y.1 = some .local) (hcell : ∀ y ∈ scope.names, y.2 ≠ .cell)
    (h : wpAny (model prog w) A (eval iter env) (fun xv s₁ => wpAny (model prog w) A (pyIter xv) (fun it s₂ => ∃ (I n : Nat) (oI : Obj) (P : Nat → Value → Prop) (T : Nat → Heap → Prop) (q : Nat × (Str → Option Value)) (ns : NsL) (mu : MuL) (gn : Heap) (J : Nat → List Value → Heap → Prop),
      it = .ref I ∧ Itr prog w A s₀ gn I n P T ∧ goOk prog w A target I P T ∧ St s₀ (q :: ns) ((I, oI) :: mu) gn s₂ ∧ T 0 s₂.heap ∧ J 0 [] gn ∧ n ≤ sizeLine ∧
      (∀ i v ys gn' oI' s' C mC D oD, i < n → P i v → Sub gn gn' → J i ys gn' → St s₀ ((C, mC) :: q :: ns) ((I, oI') :: (D, oD) :: mu) gn' s' →
        wpAny (model prog w) A (assign target (compEnvC scope cl C env) v) (fun _ s₂ => wpAny (model prog w) A (eval elt (compEnvC scope cl C env)) (fun y s₃ => ∃ mC' gn'', Sub gn' gn'' ∧ J (i + 1) (ys ++ [y]) gn'' ∧
          St s₀ ((C, mC') :: q :: ns) ((I, oI') :: (D, oD) :: mu) gn'' s₃) NoE s₂) NoE s') ∧
      (∀ ys gn' s' D k, Sub gn gn' → J n ys gn' → ys.length = n → St s₀ (q :: ns) ((D, listOf ys.toArray k) :: mu) gn' s' → Q (.ref D) s')) NoE s₁) NoE s)
    (hs : ∀ x, foldedSetIterable iter env x = pure x := by intro _; rfl) :
    wpAny (model prog w) A (eval (.ListComp elt [⟨target, iter, [], 0⟩] scope pos) env) Q NoE s := by
  rw [eval_ListComp]
  refine wpAny_comprehension_free (use := none) rfl hs hclos hkind hnames (wpAny_mono h (fun xv s₁ h₁ => wpAny_mono h₁ (fun it s₂ h₂ => ?_) fun _ _ e => e) fun _ _ e => e)
  obtain ⟨I, n, oI, P, T, q, ns, mu, gn, J, rfl, W, hgo, S, hst, hJ, hsz, turn, done⟩ := h₂
  refine wpAny_mono (comp_st (scope := scope) (cl := cl) (pos := pos) (env := env) (elt := elt) (iter := iter) (Q := fun D C s' => ∃ mC, s'.heap.Ns C mC ∧ ∀ h', Heap.SameBut C s'.heap h' → Q (.ref D) { s' with heap := h' }) W hgo J S hst hJ hsz hcell hkind turn ?_) (fun acc s₃ h₃ => wpAny_mono h₃ (fun cenv s₄ h₄ => codeAny_mono h₄ fun r s' hr => ?_) fun _ _ x => x) fun _ _ x => x
  · intro ys gn' s' C mC D k hg hJ' hl S'
    refine ⟨mC, S'.nsOk (C, mC) (.head _), fun h' hs' => ?_⟩
    have S'' := S'.lostNs (h' := h') (tk := s'.toks) (fun b x hb e => hs'.extBut b x hb e) S'.tpos
    exact done ys gn' _ D k hg hJ' hl S''
  · obtain ⟨D, rfl, rfl, mC, hn, hq⟩ := hr
    exact ⟨mC, hn, hq⟩

/-- y = [a comprehension] -/
theorem comp_assign {elt target iter : Expr} {scope : Scope} {cl : List (Str × Addr)} {pos spos py : Pos} {y : Str} {Q : Flow → Shared → Prop}
    (hsw : swapsWith (.ListComp elt [⟨target, iter, [], 0⟩] scope pos) (some (.Name y py)) spos.line env = pure true) (hy : env.kindOf y = some .local) (hkf : env.scope.kind = .function)
    (hclos : closureFor scope env = pure cl) (hkind : scope.kind = .function) (hnames : ∀ y ∈ scope.names, y.2 = .local → scope.names.lookup y.1 = some .local) (hcell : ∀ y ∈ scope.names, y.2 ≠ .cell)
    (h : wpAny (model prog w) A (eval iter env) (fun xv s₁ => wpAny (model prog w) A (pyIter xv) (fun it s₂ => ∃ (I n : Nat) (oI : Obj) (P : Nat → Value → Prop) (T : Nat → Heap → Prop) (m : Str → Option Value) (ns : NsL) (mu : MuL) (gn : Heap) (J : Nat → List Value → Heap → Prop),
      it = .ref I ∧ Itr prog w A s₀ gn I n P T ∧ goOk prog w A target I P T ∧ St s₀ ((env.locals, m) :: ns) ((I, oI) :: mu) gn s₂ ∧ T 0 s₂.heap ∧ J 0 [] gn ∧ n ≤ sizeLine ∧
      (∀ i v ys gn' oI' s' C mC D oD, i < n → P i v → Sub gn gn' → J i ys gn' → St s₀ ((C, mC) :: (env.locals, m) :: ns) ((I, oI') :: (D, oD) :: mu) gn' s' →
        wpAny (model prog w) A (assign target (compEnvC scope cl C env) v) (fun _ s₂ => wpAny (model prog w) A (eval elt (compEnvC scope cl C env)) (fun y s₃ => ∃ mC' gn'', Sub gn' gn'' ∧ J (i + 1) (ys ++ [y]) gn'' ∧
          St s₀ ((C, mC') :: (env.locals, m) :: ns) ((I, oI') :: (D, oD) :: mu) gn'' s₃) NoE s₂) NoE s') ∧
      (∀ ys gn' s' D k, Sub gn gn' → J n ys gn' → ys.length = n → St s₀ ((env.locals, fun z => if z = y then some (.ref D) else m z) :: ns) ((D, listOf ys.toArray k) :: mu) gn' s' → Q .next s')) NoE s₁) NoE s)
    (hs : ∀ x, foldedSetIterable iter env x = pure x := by intro _; rfl) :
    wpAny (model prog w) A (exec (.Assign [.Name y py] (.ListComp elt [⟨target, iter, [], 0⟩] scope pos) spos) env) Q NoE s := by
  rw [exec_Assign_Name_used _ _ _ _ hsw]
  refine wpAny_bind (wpAny_standAt (wpAny_bind ?_))
  show wpAny _ A (do let _ ← comprehension (.ListComp elt [⟨target, iter, [], 0⟩] scope pos) scope env _ (newList []) false (eval iter env) (some (assign (.Name y py) env))) _ _ s
  refine wpAny_bind (wpAny_mono (wpAny_comprehension_free (use := some (assign (.Name y py) env)) (Q := fun _ s' => Q .next s') rfl hs hclos hkind hnames
    (wpAny_mono h (fun xv s₁ h₁ => wpAny_mono h₁ (fun it s₂ h₂ => ?_) fun _ _ e => e) fun _ _ e => e)) (fun _ s' hq => wpAny_pure (wpAny_pure hq)) fun _ _ e => e)
  obtain ⟨I, n, oI, P, T, m, ns, mu, gn, J, rfl, W, hgo, S, hst, hJ, hsz, turn, done⟩ := h₂
  refine wpAny_mono (comp_st (scope := scope) (cl := cl) (pos := pos) (env := env) (elt := elt) (iter := iter) (Q := fun D C s' => compPost (model prog w) A NoE (some (assign (.Name y py) env)) (fun _ s' => Q .next s') (.ref D) C (.ok .next) s') W hgo J S hst hJ hsz hcell hkind turn ?_) (fun acc s₃ h₃ => wpAny_mono h₃ (fun cenv s₄ h₄ => codeAny_mono h₄ fun r s' hr => ?_) fun _ _ x => x) fun _ _ x => x
  · intro ys gn' s' C mC D k hg hJ' hl S'
    show wpAny _ A (assign (.Name y py) env (.ref D)) _ _ _
    refine wpAny_assign_Name (wpAny_storeName_local hy (S'.nsOk (env.locals, m) (.tail _ (.head _))) (fun h₂ hn₂ hs₂ => ?_) (by rw [hkf]; rfl))
    have S₂ := (S'.swapNs.store (tk := s'.toks + 1) hs₂ hn₂ (Nat.succ_pos _)).swapNs
    refine ⟨mC, S₂.nsOk (C, mC) (.head _), fun h' hs' => ?_⟩
    have S'' := S₂.lostNs (h' := h') (tk := s'.toks + 1) (fun b x hb e => hs'.extBut b x hb e) (Nat.succ_pos _)
    exact done ys gn' _ D k hg hJ' hl S''
  · obtain ⟨D, rfl, rfl, hq⟩ := hr
    exact hq

theorem ld_loc {x : Str} {pos : Pos} {v : Value} {Q : Value → Shared → Prop} (S : St s₀ ((L, m) :: ns) mu gn s) (hL : env.locals = L) (hv : m x = some v) (h : Q v s)
    (hk : env.scope.kind = .function := by rfl) (hl : env.kindOf x = some .local := by rfl) (hd : (x == ("__debug__" : Str)) = false := by decide) :
    wpAny (model prog w) A (eval (.Name x pos) env) Q E s := wpAny_Name (wpAny_loadName_local hk hl (hL ▸ S.nsOk (L, m) (.head _)) hv h) hd
theorem ldn_loc {x : Str} {v : Value} {Q : Value → Shared → Prop} (S : St s₀ ((L, m) :: ns) mu gn s) (hL : env.locals = L) (hv : m x = some v) (h : Q v s)
    (hk : env.scope.kind = .function := by rfl) (hl : env.kindOf x = some .local := by rfl) :
    wpAny (model prog w) A (loadName env x) Q E s := wpAny_loadName_local hk hl (hL ▸ S.nsOk (L, m) (.head _)) hv h
theorem ld_cell {x : Str} {pos : Pos} {v : Value} {c : Nat} {o : Obj} {Q : Value → Shared → Prop} (S : St s₀ ns mu gn s) (hm : (c, o) ∈ mu) (ho : o.data = .cell (some v)) (hc : env.cells.lookup x = some c) (h : Q v s)
    (hk : env.scope.kind = .function := by rfl) (hl : env.kindOf x = some .cell := by rfl) (hd : (x == ("__debug__" : Str)) = false := by decide) :
    wpAny (model prog w) A (eval (.Name x pos) env) Q E s := wpAny_Name (wpAny_loadName_cell hk hl hc ⟨o, S.muOk _ hm, ho⟩ h) hd
theorem ld_K {K : Frag} {x : Str} {pos : Pos} {v : Value} {Q : Value → Shared → Prop} (D : Gd K s.heap) (e : nsIn K mainGlobals x = some (some v)) (h : Q v s)
    (hk : env.scope.kind = .function := by rfl) (hx : env.kindOf x = some .globalImplicit := by rfl) (hg : env.globals = mainGlobals := by rfl) (hd : (x == ("__debug__" : Str)) = false := by decide) :
    wpAny (model prog w) A (eval (.Name x pos) env) Q E s :=
  let ⟨_, g⟩ := D.g; Calls.Name_function_global hk hx (Calls.loadGlobal_global (env := env) (hg ▸ g) (mg_of D.X g e) h) hd
theorem ld_B {K : Frag} {x : Str} {pos : Pos} {v : Value} {Q : Value → Shared → Prop} (D : Gd K s.heap) (e : nsIn K mainGlobals x = some none) (hv : bootBuiltins x = some v) (h : Q v s) (hn : x ≠ "__name__" := by decide)
    (hk : env.scope.kind = .function := by rfl) (hx : env.kindOf x = some .globalImplicit := by rfl) (hg : env.globals = mainGlobals := by rfl) (hb : env.builtins = builtinsNs := by rfl) (hd : (x == ("__debug__" : Str)) = false := by decide) :
    wpAny (model prog w) A (eval (.Name x pos) env) Q E s :=
  let ⟨_, g⟩ := D.g; let ⟨_, b, bx⟩ := D.b
  Calls.Name_function_global hk hx (Calls.loadGlobal_builtin (env := env) (hg ▸ g) (mg_none_of D.X g e) (hb ▸ b) ((bx x hn).trans hv) h) hd
theorem st_loc {x : Str} {v : Value} {Q : Unit → Shared → Prop} (S : St s₀ ((L, m) :: ns) mu gn s) (hL : env.locals = L)
    (h : ∀ s', St s₀ ((L, fun y => if y = x then some v else m y) :: ns) mu gn s' → Q () s')
    (hk : env.scope.kind = .function := by rfl) (hl : env.kindOf x = some .local := by rfl) : wpAny (model prog w) A (storeName env x v) Q E s := by
  subst hL
  exact wpAny_storeName_local hl (S.nsOk (env.locals, m) (.head _)) (fun h' hn hs => h _ (S.store hs hn (Nat.succ_pos _))) (by rw [hk]; rfl)
theorem st_cell {x : Str} {v : Value} {c : Nat} {o : Obj} {v₀ : Option Value} {Q : Unit → Shared → Prop} (S : St s₀ ns ((c, o) :: mu) gn s) (ho : o.data = .cell v₀) (hc : env.cells.lookup x = some c)
    (h : ∀ s' o', o'.data = .cell (some v) → St s₀ ns ((c, o') :: mu) gn s' → Q () s')
    (hk : env.scope.kind = .function := by rfl) (hl : env.kindOf x = some .cell := by rfl) : wpAny (model prog w) A (storeName env x v) Q E s :=
  wpAny_storeName_cell hk hl hc ⟨o, S.mu0, ho⟩ fun h' hv hs => by
    obtain ⟨o', ho', hd'⟩ := hv
    exact h _ o' hd' (S.changed (tk := s.toks) (fun b x hb e => hs.extBut b x hb e) ho' S.tpos)
theorem as_loc {x : Str} {pos : Pos} {v : Value} {Q : Unit → Shared → Prop} (S : St s₀ ((L, m) :: ns) mu gn s) (hL : env.locals = L)
    (h : ∀ s', St s₀ ((L, fun y => if y = x then some v else m y) :: ns) mu gn s' → Q () s')
    (hk : env.scope.kind = .function := by rfl) (hl : env.kindOf x = some .local := by rfl) : wpAny (model prog w) A (assign (.Name x pos) env v) Q E s :=
  wpAny_assign_Name (st_loc S hL h hk hl)

/-- a, b = a tuple of two -/
theorem as_two {x y : Str} {px py pos : Pos} {k : Nat} {t : Nat} {v₁ v₂ : Value} {Q : Unit → Shared → Prop} (hh : A.handled = none) (S : St s₀ ((L, m) :: ns) mu gn s) (hL : env.locals = L) (ht : s.heap.IsTuple t #[v₁, v₂])
    (h : ∀ s', St s₀ ((L, fun z => if z = y then some v₂ else if z = x then some v₁ else m z) :: ns) mu gn s' → Q () s')
    (hk : env.scope.kind = .function := by rfl) (hx : env.kindOf x = some .local := by rfl) (hy : env.kindOf y = some .local := by rfl) :
    wpAny (model prog w) A (assign (.Tuple [.Name x px, .Name y py] k pos) env (.ref t)) Q E s := by
  refine wpAny_assign_Tuple hh ht rfl rfl fun h' he => ?_
  have S₁ : St s₀ ((L, m) :: ns) mu gn { s with heap := h' } := S.keeps ⟨h', s.toks, rfl, fun b o e => he b o (Nat.ne_of_lt (get_lt e)) e⟩ S.tpos
  show wpAny _ _ (do holding _ (assign (.Name x px) env v₁); assignInOrder [assign (.Name y py) env] [v₂]) _ _ _
  refine wpAny_bind (wpAny_holding (as_loc S₁ hL (fun s₂ S₂ => ?_) hk hx))
  show wpAny _ _ (do holding _ (assign (.Name y py) env v₂); assignInOrder [] []) _ _ _
  exact wpAny_bind (wpAny_holding (as_loc S₂ hL (fun s₃ S₃ => wpAny_pure (h s₃ S₃)) hk hy))
end

section
variable {prog : Program} {w : World} {A : Around} {s₀ s : Shared} {gn : Heap} {ns : NsL} {mu : MuL}

/-- the items of a list that nobody changes -/
theorem itr_list (hh : A.handled = none) {I l : Nat} {vs : Array Value} {ol : Obj} (hl : s₀.heap.get? l = some ol ∨ gn.get? l = some ol) (hc : ol.cls = .type "list") (hd : ∃ n, ol.data = .seq vs n) (hne : l ≠ I) :
    Itr prog w A s₀ gn I vs.size (fun i v => vs[i]? = some v) (fun i h => h.IsListIter I l i ∧ h.IsList l vs) where
  walks := ⟨_, _, Walks.list hh I l hne vs, by simp, fun b hb => by
    simp only [List.mem_cons, List.not_mem_nil, or_false] at hb
    rcases hb with rfl | rfl
    · exact .inl rfl
    · exact .inr ⟨ol, hl⟩⟩
  there := fun i h x => let ⟨o, ho, _⟩ := x.1; ⟨o, ho⟩
theorem goOk_list {I l : Nat} {vs : Array Value} {elts : List Expr} {k : Nat} {pos : Pos} (hr : ∀ (i : Nat) v, vs[i]? = some v → ∃ t, v = .ref t) :
    goOk prog w A (.Tuple elts k pos) I (fun i v => vs[i]? = some v) (fun i h => h.IsListIter I l i ∧ h.IsList l vs) := fun i v s Q hT hP q => by
  obtain ⟨t, rfl⟩ := hr i v hP
  exact wpAny_letOwnedTupleGo_listiter hT.1 q

theorem it_list {l : Nat} {vs : Array Value} {ol : Obj} {q : Nat × (Str → Option Value)} {Q : Value → Shared → Prop} {E : Value → Shared → Prop} (S : St s₀ (q :: ns) mu gn s) (hl : s₀.heap.get? l = some ol ∨ gn.get? l = some ol) (hc : ol.cls = .type "list") (hd : ∃ n, ol.data = .seq vs n)
    (h : ∀ (I : Nat) oI s', A.handled = none → St s₀ (q :: ns) ((I, oI) :: mu) gn s' → (s'.heap.IsListIter I l 0 ∧ s'.heap.IsList l vs) → Itr prog w A s₀ gn I vs.size (fun i v => vs[i]? = some v) (fun i h => h.IsListIter I l i ∧ h.IsList l vs) → Q (.ref I) s') (hh : A.handled = none) :
    wpAny (model prog w) A (pyIter (.ref l)) Q E s := by
  have hlh : s.heap.get? l = some ol := hl.elim (fun e => S.keep l ol e) fun e => S.sub l ol e
  have hil : s.heap.IsList l vs := ⟨ol, hlh, hc, hd⟩
  refine wpAny_pyIter_list hil ?_
  refine h _ _ _ hh (S.push _) ⟨⟨_, Heap.get?_push_size _ rfl, rfl, rfl⟩, hil.push _⟩ (itr_list hh hl hc hd (by have := get_lt hlh; omega))

theorem it_range {r : Nat} {a b : Int} {t u v : Tok} {n : Nat} {q : Nat × (Str → Option Value)} {Q : Value → Shared → Prop} {E : Value → Shared → Prop} (S : St s₀ (q :: ns) mu gn s) (hr : IsRange s.heap r a b 1 t u v) (hsmall : Builtin.Range.small a b 1 = true) (hn : Builtin.Range.rangeSize a b 1 = (n : Int))
    (h : ∀ (I : Nat) oI s', St s₀ (q :: ns) ((I, oI) :: mu) gn s' → IsRangeIter s'.heap I (a + (0 : Nat) * 1) ((n : Int) - (0 : Nat)) 1 → Itr prog w A s₀ gn I n (fun i v => ∃ t, v = .int (a + i * 1) t) (fun i h => IsRangeIter h I (a + (i : Nat) * 1) ((n : Int) - (i : Nat)) 1) → Q (.ref I) s') (hh : A.handled = none) :
    wpAny (model prog w) A (pyIter (.ref r)) Q E s := by
  refine wpAny_pyIter_range hr hsmall ?_
  refine h _ _ _ (S.push _) ?_ ⟨⟨_, _, Walks.range hh _ a 1 n, by simp, by simp⟩, fun i h x => ⟨_, x⟩⟩
  rw [hn]
  simpa using Heap.get?_push_size _ rfl

theorem it_str {x : Str} {t : Tok} {q : Nat × (Str → Option Value)} {Q : Value → Shared → Prop} {E : Value → Shared → Prop} (S : St s₀ (q :: ns) mu gn s)
    (h : ∀ (I : Nat) oI s' T, St s₀ (q :: ns) ((I, oI) :: mu) gn s' → T 0 s'.heap → Itr prog w A s₀ gn I x.cps.size (SignAt x) T → Q (.ref I) s') (hh : A.handled = none) :
    wpAny (model prog w) A (pyIter (.str x t)) Q E s := by
  cases ha : x.cps.all (· < 128)
  · refine wpAny_pyIter_wide ha (h _ _ _ _ (S.push _) ?_ ⟨⟨_, _, Walks.strWide hh _ x t, by simp, by simp⟩, fun i h y => let ⟨o, ho, _⟩ := y; ⟨o, ho⟩⟩)
    exact ⟨_, Heap.get?_push_size _ rfl, rfl, rfl⟩
  · refine wpAny_pyIter_ascii ha (h _ _ _ _ (S.push _) ?_ ⟨⟨_, _, Walks.strAscii hh _ x t, by simp, by simp⟩, fun i h y => let ⟨o, ho, _⟩ := y; ⟨o, ho⟩⟩)
    exact ⟨_, Heap.get?_push_size _ rfl, rfl, rfl⟩
end

section
variable {prog : Program} {w : World} {A : Around} {s : Shared} {K : Frag} {R : Result → Shared → Prop}

/-- a call of one of the text's own defs, no cells -/
theorem enter {name : Str} {params : Arguments} {body : List Stmt} {scope : Scope} {pm cd doc oc : Value} {od : Option Addr} {osl : Array (Option Value)} {a : Addr} {args : List Value} {binds : List (Str × Value)}
    (D : Gd K s.heap) (hroom : A.depth < recursionLimit) (ho : K.lookup a = some ⟨oc, od, .func (Calls.docDef name params body scope pm cd doc), osl⟩) (hcd : codeIn K cd name = true)
    (hbind : bindArgs (Calls.docDef name params body scope pm cd doc) ⟨args, []⟩ = pure binds) (hloc : (binds.all fun x => decide (scope.names.lookup x.1 = some .local)) = true) (hpos : 0 < binds.length)
    (h : ∀ L s', St s [(L, fun x => binds.reverse.lookup x)] [] { objs := #[] } s' →
      wpAny (model prog w) (A.deeper (envOf name scope L a cd)) (execs body (envOf name scope L a cd)) (fun f s' => R (.ok (.ret (match f with | .ret v => v | _ => .none))) s') NoE s')
    (hco : scope.isCoroutine = false := by rfl) (hgen : scope.isGenerator = false := by rfl) (hk : scope.kind = .function := by rfl) (hcell : ∀ x ∈ scope.names, x.2 ≠ .cell := by decide) :
    codeAny (model prog w) A (.call (.ref a) ⟨args, []⟩) R s :=
  call_plain_ret hroom (D.X a _ ho) rfl D.lim (codeRec_of D.X hcd) hbind (locs hloc) (fun h₁ F => h _ _ (St.start F.ns F.keep (Nat.le_refl _) (by show 0 < s.toks + binds.length; omega))) hco hgen hk hcell

/-- the same, one cell -/
theorem enterC {name : Str} {params : Arguments} {body : List Stmt} {scope : Scope} {pm cd doc oc : Value} {od : Option Addr} {osl : Array (Option Value)} {a : Addr} {args : List Value} {binds : List (Str × Value)} {x : Str}
    (D : Gd K s.heap) (hroom : A.depth < recursionLimit) (ho : K.lookup a = some ⟨oc, od, .func (Calls.docDef name params body scope pm cd doc), osl⟩) (hcd : codeIn K cd name = true)
    (hbind : bindArgs (Calls.docDef name params body scope pm cd doc) ⟨args, []⟩ = pure binds)
    (hkind : (binds.all fun y => scope.names.lookup y.1 == some .local || scope.names.lookup y.1 == some .cell) = true)
    (hone : ∀ n, cellsFrom n scope.names [] = [(x, n)]) (hpos : 0 < s.toks)
    (h : ∀ (L c : Nat) (o : Obj) (s' : Shared), c = L + 1 → o.data = .cell (bindC (envOfC name scope L a cd).kindOf binds (fun _ => none) x) → St s [(L, bindL (envOfC name scope L a cd).kindOf binds fun _ => none)] [(c, o)] { objs := #[] } s' →
      wpAny (model prog w) (A.deeper (envOfC name scope L a cd)) (execs body (envOfC name scope L a cd)) (fun f s' => R (.ok (.ret (match f with | .ret v => v | _ => .none))) s') NoE s')
    (hco : scope.isCoroutine = false := by rfl) (hgen : scope.isGenerator = false := by rfl) (hk : scope.kind = .function := by rfl) :
    codeAny (model prog w) A (.call (.ref a) ⟨args, []⟩) R s := by
  refine codeAny_call_function (fd := Calls.docDef name params body scope pm cd doc) hroom (D.X a _ ho) rfl hco hgen rfl (codeRec_of D.X hcd) ?_
  rw [hbind]
  refine wpAny_pure (wpAny_with_toks (n := 1) hpos (wpAny_newFunctionEnv_cells hk (kindsX hkind _) fun env he s' y => ?_))
  intro hp'
  subst he
  refine ⟨D.lim.keeps y.toInCall.keep, codeAny_func ?_⟩
  obtain ⟨h₁, tk, rfl, _⟩ := y.done
  obtain ⟨o, ho', hd⟩ := y.cell x (s.heap.objs.size + 1) (by show (cellsFrom (s.heap.objs.size + 1) scope.names []).lookup x = _; rw [hone]; simp)
  have S := St.start (s₀ := s) (tk := tk) y.toInCall.ns y.toInCall.keep (Nat.le_refl _) hp'
  refine wpAny_mono (show wpAny (model prog w) (A.deeper (envOfC name scope s.heap.objs.size a cd)) (execs body (envOfC name scope s.heap.objs.size a cd)) (fun f s' => R (.ok (.ret (match f with | .ret v => v | _ => .none))) s') NoE _ from ?_) (fun _ _ x => x) (fun _ _ x => x.elim)
  refine h s.heap.objs.size (s.heap.objs.size + 1) o _ rfl hd { S with muOk := ?_, gmu := ?_, anew := ?_, nd := ?_ }
  · intro p hp
    rw [List.mem_singleton.mp hp]; exact ho'
  · intro p hp
    rw [List.mem_singleton.mp hp]
    simp [Heap.get?]
  · intro b hb
    simp only [List.map_cons, List.map_nil, List.cons_append, List.nil_append, List.mem_cons, List.not_mem_nil, or_false] at hb
    rcases hb with rfl | rfl <;> omega
  · simp
end
end Mine

end

/-! ### part F4 -/
section
open PySem PySem.W PyProof.Rows
set_option maxRecDepth 100000
set_option linter.unusedVariables false
namespace Mine

section
variable {prog : Program} {w : World} {A : Around} {E : Value → Shared → Prop} {s₀ s : Shared} {ns : NsL} {mu : MuL} {gn : Heap} {env : Env} {q : Nat × (Str → Option Value)}

theorem c_int {i : Int} {k : Nat} {pos : Pos} {Q : Value → Shared → Prop} (S : St s₀ ns mu gn s) (h : ∀ s' t, St s₀ ns mu gn s' → Q (.int i t) s') : wpAny (model prog w) A (eval (.Constant (.int i) k pos) env) Q E s := wpAny_Constant_int (h _ _ (S.tok _ (Nat.succ_pos _)))
theorem c_str {x : Str} {k : Nat} {pos : Pos} {Q : Value → Shared → Prop} (S : St s₀ ns mu gn s) (h : ∀ s' t, St s₀ ns mu gn s' → Q (.str x t) s') : wpAny (model prog w) A (eval (.Constant (.str x) k pos) env) Q E s := Calls.Constant_str (h _ _ (S.tok _ (Nat.succ_pos _)))
theorem c_bool {b : Bool} {k : Nat} {pos : Pos} {Q : Value → Shared → Prop} (h : Q (.bool b) s) : wpAny (model prog w) A (eval (.Constant (.bool b) k pos) env) Q E s := by
  show wpAny _ _ (pure (Value.bool b)) _ _ _
  exact wpAny_pure h
theorem c_none {k : Nat} {pos : Pos} {Q : Value → Shared → Prop} (h : Q .none s) : wpAny (model prog w) A (eval (.Constant PySem.Const.none k pos) env) Q E s := by
  show wpAny _ _ (pure Value.none) _ _ _
  exact wpAny_pure h

theorem b_div {a b : Int} {t u : Tok} {Q : Value → Shared → Prop} (S : St s₀ ns mu gn s) (hb : b ≠ 0) (hp : Builtin.divisionGoesByPylong a b = false) (h : ∀ s' t, St s₀ ns mu gn s' → Q (.int (a.fdiv b) t) s') : wpAny (model prog w) A (binaryOp .FloorDiv (.int a t) (.int b u)) Q E s :=
  floordiv_int hb (h _ _ (S.tok _ (Nat.succ_pos _))) (Or.inl hp)
theorem b_mod {a b : Int} {t u : Tok} {Q : Value → Shared → Prop} (S : St s₀ ns mu gn s) (hb : b ≠ 0) (h : ∀ s' t, St s₀ ns mu gn s' → Q (.int (a.fmod b) t) s') : wpAny (model prog w) A (binaryOp .Mod (.int a t) (.int b u)) Q E s :=
  mod_int' hb (h _ _ (S.tok _ (Nat.succ_pos _)))
theorem b_add {x y : Str} {t u : Tok} {Q : Value → Shared → Prop} (S : St s₀ ns mu gn s) (hsz : x.length + y.length ≤ sizeLine) (h : ∀ s' t, St s₀ ns mu gn s' → Q (.str (x ++ y) t) s') : wpAny (model prog w) A (binaryOp .Add (.str x t) (.str y u)) Q E s :=
  wp_pos S (add_str (fun t' tk hp => h _ _ (S.tok _ hp)) hsz)
theorem b_iadd {x y : Str} {t u : Tok} {Q : Value → Shared → Prop} (S : St s₀ ns mu gn s) (hsz : x.length + y.length ≤ sizeLine) (h : ∀ s' t, St s₀ ns mu gn s' → Q (.str (x ++ y) t) s') : wpAny (model prog w) A (inplaceOp .Add (.str x t) (.str y u)) Q E s :=
  wp_pos S (iadd_str (fun t' tk hp => h _ _ (S.tok _ hp)) hsz)
theorem n_list {vs : List Value} {Q : Value → Shared → Prop} (S : St s₀ (q :: ns) mu gn s) (hsz : vs.length ≤ sizeLine) (h : ∀ s' (a : Nat), s.heap.objs.size ≤ a → St s₀ (q :: ns) ((a, listOf vs.toArray 0) :: mu) gn s' → Q (.ref a) s') : wpAny (model prog w) A (newList vs) Q E s :=
  wpAny_newObj_type (h _ _ (Nat.le_refl _) (S.push _)) (by show vs.toArray.size ≤ sizeLine; rw [List.size_toArray]; exact hsz)
abbrev tupOf (vs : List Value) : Obj := { cls := .type "tuple", data := .seq vs.toArray }
theorem n_tuple {vs : List Value} {Q : Value → Shared → Prop} (S : St s₀ (q :: ns) mu gn s) (hsz : vs.length ≤ sizeLine) (h : ∀ s' (a : Nat), s.heap.objs.size ≤ a → St s₀ (q :: ns) ((a, tupOf vs) :: mu) gn s' → Q (.ref a) s') : wpAny (model prog w) A (newTuple vs) Q E s :=
  wpAny_newObj_type (h _ _ (Nat.le_refl _) (S.push _)) (by show vs.toArray.size ≤ sizeLine; rw [List.size_toArray]; exact hsz)
theorem isTuple_of {h : Heap} {a : Nat} {vs : List Value} (e : h.get? a = some (tupOf vs)) : h.IsTuple a vs.toArray := ⟨_, e, rfl, 0, rfl⟩
theorem isList_of {h : Heap} {a : Nat} {vs : Array Value} {n : Nat} (e : h.get? a = some (listOf vs n)) : h.IsList a vs := ⟨_, e, rfl, n, rfl⟩

theorem f_chr {i : Int} {u : Tok} {Q : Value → Shared → Prop} (S : St s₀ ns mu gn s) (h0 : 0 ≤ i) (h1 : i ≤ 1114111) (h : ∀ s' t, St s₀ ns mu gn s' → Q (.str ⟨#[i.toNat]⟩ t) s') : wpAny (model prog w) A (call (.builtin "chr") [.int i u]) Q E s :=
  chr_of_range h0 h1 (h _ _ (S.tok _ (Nat.succ_pos _)))
/-- an item of a list at a place that is not written -/
theorem sub_list {value slice : Expr} {a : Nat} {vs : Array Value} {n : Nat} {k : Int} {u : Tok} {v : Value} {Q : Value → Shared → Prop} (e : s.heap.get? a = some (listOf vs n)) (h0 : 0 ≤ k) (hk : k < 2 ^ 63) (hv : vs[k.toNat]? = some v) (h : Q v s)
    (hs : subscripted slice false (.ref a) (.int k u) = operate [.ref a, .int k u] (getItem (.ref a) (.int k u)) := by with_unfolding_all rfl) : wpAny (model prog w) A (subscriptTail value slice (.ref a) (.int k u)) Q E s :=
  tail_any (isList_of e).typeIs slot_list_getitem.lookup (wpAny_getItem_list (isList_of e) h0 hk hv h) hs

theorem m_append {D : Nat} {its : Array Value} {n : Nat} {pl : Sem Bool} {Q : Value × List Value → Shared → Prop} (e : s.heap.get? D = some (listOf its n)) (h : Q (.builtin "list.append", [.ref D]) s) : wpAny (model prog w) A (getMethod (.ref D) "append" pl) Q E s :=
  Calls.getMethod_list_append e rfl rfl h
theorem f_append {D : Nat} {its : Array Value} {n : Nat} {x : Value} {Q : Value → Shared → Prop} (S : St s₀ ns ((D, listOf its n) :: mu) gn s) (hsz : its.size ≤ sizeLine) (h : ∀ s', St s₀ ns ((D, listOf (its.push x) (n + 1)) :: mu) gn s' → Q .none s') :
    wpAny (model prog w) A (call (.builtin "list.append") [.ref D, x]) Q E s :=
  append_at S.mu0 (fun h' hs ho => h _ (S.changed (tk := s.toks) (fun b x hb e => hs.extBut b x hb e) ho S.tpos)) hsz

/-- two written texts as arguments: two tokens -/
theorem args_two {x y : Str} {k₁ k₂ : Nat} {p₁ p₂ pos : Pos} {Q : List Value → Shared → Prop} (S : St s₀ ns mu gn s) (h : ∀ s' t u, t ≠ 0 → u ≠ 0 → t ≠ u → St s₀ ns mu gn s' → Q [.str x t, .str y u] s') :
    wpAny (model prog w) A (spliced (backTo pos (starEach [.Constant (.str x) k₁ p₁, .Constant (.str y) k₂ p₂] env))) Q E s := by
  refine args_cons (Calls.Constant_str (args_cons (Calls.Constant_str (args_nil ?_))))
  exact h _ s.toks (s.toks + 1) (Nat.pos_iff_ne_zero.mp S.tpos) (Nat.succ_ne_zero _) (Nat.ne_of_lt (Nat.lt_succ_self _)) (S.tok (s.toks + 1 + 1) (Nat.succ_pos _))
theorem f_replace {x y z : Str} {t u v : Tok} {Q : Value → Shared → Prop} (S : St s₀ ns mu gn s) (hu : u ≠ 0) (hv : v ≠ 0) (huv : u ≠ v) (hyz : (y == z) = false) (hb : x.length + (x.length + 1) * z.length ≤ 16777216)
    (h : ∀ s' t', St s₀ ns mu gn s' → Q (.str (Txt.replace x y z) t') s') : wpAny (model prog w) A (call (.builtin "str.replace") [.str x t, .str y u, .str z v]) Q E s :=
  wp_pos S (SC.replace hu hv huv hyz hb fun t' k hp => h _ _ (S.tok _ hp))

theorem exec_for {target iter : PySem.Expr} {body : List Stmt} {pos : Pos} {Q : Flow → Shared → Prop}
    (h : wpAny (model prog w) A (eval iter env) (fun x s₁ => wpAny (model prog w) A (pyIter x) (fun it s₂ => codeAny (model prog w) A (.forLoop target it body [] env) (fun r s' => ∃ f, r = .ok f ∧ Q f s') s₂) NoE s₁) NoE s)
    (hs : ∀ x, foldedSetIterable iter env x = pure x := by intro _; rfl) : wpAny (model prog w) A (exec (.For target iter body [] pos) env) Q NoE s := by
  refine wpAny_For (wpAny_mono h (fun x s₁ h₁ => wpAny_mono h₁ (fun it s₂ h₂ => codeAny_mono h₂ fun r s' hr => ?_) fun _ _ x => x) fun _ _ x => x) hs
  obtain ⟨f, rfl, hq⟩ := hr
  exact hq
theorem strs_values : ∀ {vs : List Value} {ys : List Str}, StrsAre vs ys → ∃ l : List (Str × Tok), strValues l = vs ∧ l.map (·.1) = ys
  | _, _, .nil => ⟨[], rfl, rfl⟩
  | _, _, .cons y t h => let ⟨l, e1, e2⟩ := strs_values h; ⟨(y, t) :: l, by rw [← e1]; rfl, by rw [← e2]; rfl⟩
theorem f_join {x : Str} {t : Tok} {D : Nat} {vs : Array Value} {n : Nat} {ys : List Str} {Q : Value → Shared → Prop} (S : St s₀ ns mu gn s) (e : s.heap.get? D = some (listOf vs n)) (hy : StrsAre vs.toList ys) (hok : JoinOk x ys = true)
    (h : ∀ s' t', St s₀ ns mu gn s' → Q (.str (Txt.join x ys) t') s') : wpAny (model prog w) A (call (.builtin "str.join") [.str x t, .ref D]) Q E s := by
  obtain ⟨l, e1, e2⟩ := strs_values hy
  refine wp_pos S (SC.join (D := D) (l := l) (texts := ys) ?_ e2 hok fun t' k hp => h _ _ (S.tok _ hp))
  rw [e1]
  exact isList_of e
theorem f_truthy {x : Str} {t : Tok} {Q : Bool → Shared → Prop} (S : St s₀ ns mu gn s) (hx : x.length ≤ 16777216) (h : ∀ s', St s₀ ns mu gn s' → Q ((x.length : Int) != 0) s') : wpAny (model prog w) A (truthy (.str x t)) Q E s :=
  P.truthy_str (by omega) (h _ (S.tok _ (Nat.succ_pos _)))
theorem f_strip {x : Str} {t : Tok} {Q : Value → Shared → Prop} (S : St s₀ ns mu gn s) (hx : x.length ≤ sizeLine) (h : ∀ s' t', St s₀ ns mu gn s' → Q (.str (Txt.strip x) t') s') : wpAny (model prog w) A (call (.builtin "str.strip") [.str x t]) Q E s :=
  wp_pos S (SC.strip (fun t' k hp => h _ _ (S.tok _ hp)) hx)
end
theorem StrsAre.length : ∀ {vs : List Value} {ys : List Str}, StrsAre vs ys → vs.length = ys.length
  | _, _, .nil => rfl
  | _, _, .cons _ _ h => congrArg (· + 1) (StrsAre.length h)
theorem StrsAre.snoc {y : Str} {t : Tok} : ∀ {vs : List Value} {ys : List Str}, StrsAre vs ys → StrsAre (vs ++ [.str y t]) (ys ++ [y])
  | _, _, .nil => .cons y t .nil
  | _, _, .cons z u h => .cons z u (StrsAre.snoc h)
theorem StrsAre.at : ∀ {vs : List Value} {ys : List Str}, StrsAre vs ys → ∀ (i : Nat) v, vs[i]? = some v → ∃ y t, v = .str y t ∧ ys[i]? = some y
  | _, _, .nil, i, v, h => by simp at h
  | _, _, .cons z u h, 0, v, e => by simp at e; subst e; exact ⟨z, u, rfl, rfl⟩
  | _, _, .cons z u h, i + 1, v, e => by simpa using StrsAre.at h i v (by simpa using e)

/-- a pair of texts at t -/
def PairAt (h : Heap) (t : Nat) (p : Str × Str) : Prop := ∃ t₁ t₂, h.get? t = some (tupOf [.str p.1 t₁, .str p.2 t₂])
def PairV (h : Heap) (v : Value) (p : Str × Str) : Prop := ∃ t : Nat, v = .ref t ∧ PairAt h t p
def PairsL (h : Heap) (l : Nat) (ps : List (Str × Str)) : Prop := ∃ vs n, h.get? l = some (listOf vs n) ∧ Paired (PairV h) vs.toList ps
theorem Paired.mono' {α β : Type} {F G : α → β → Prop} (hm : ∀ a b, F a b → G a b) : ∀ {l₁ : List α} {l₂ : List β}, Paired F l₁ l₂ → Paired G l₁ l₂
  | _, _, .nil => .nil
  | _, _, .cons h t => .cons (hm _ _ h) (Paired.mono' hm t)
theorem Paired.get {α β : Type} {F : α → β → Prop} : ∀ {l₁ : List α} {l₂ : List β}, Paired F l₁ l₂ → ∀ (i : Nat) a, l₁[i]? = some a → ∃ b, l₂[i]? = some b ∧ F a b
  | _, _, .nil, i, a, h => by simp at h
  | _, _, .cons hf t, 0, a, e => by simp at e; subst e; exact ⟨_, rfl, hf⟩
  | _, _, .cons hf t, i + 1, a, e => by simpa using Paired.get t i a (by simpa using e)
theorem PairAt.mono {h h' : Heap} {t : Nat} {p : Str × Str} (k : Sub h h') (x : PairAt h t p) : PairAt h' t p := let ⟨a, b, e⟩ := x; ⟨a, b, k _ _ e⟩
theorem PairV.mono {h h' : Heap} {v : Value} {p : Str × Str} (k : Sub h h') (x : PairV h v p) : PairV h' v p := let ⟨a, e, y⟩ := x; ⟨a, e, y.mono k⟩
theorem PairsL.mono {h h' : Heap} {l : Nat} {ps : List (Str × Str)} (k : Sub h h') (x : PairsL h l ps) : PairsL h' l ps := let ⟨a, b, e, y⟩ := x; ⟨a, b, k _ _ e, Paired.mono' (fun _ _ => PairV.mono k) y⟩
theorem PairAt.tuple {h : Heap} {t : Nat} {p : Str × Str} (x : PairAt h t p) : ∃ t₁ t₂, h.IsTuple t #[.str p.1 t₁, .str p.2 t₂] := let ⟨a, b, e⟩ := x; ⟨a, b, isTuple_of e⟩
end Mine

end

/-! ### part T1 -/
section
open PySem PySem.W PyProof.Rows
set_option linter.unusedVariables false
namespace Mine

theorem flat_free (c : Nat) (z : List Nat) : ∀ l : List Nat, c ∉ l → (l.flatMap fun d => if d = c then z else [d]) = l
  | [], _ => rfl
  | k :: r, h => by
    have h1 : ¬ k = c := fun e => h (e ▸ List.mem_cons_self ..)
    rw [List.flatMap_cons, if_neg h1, flat_free c z r fun m => h (List.mem_cons_of_mem _ m)]
    rfl
theorem flat_join (c : Nat) (z : Str) : ∀ parts : List Str, (∀ p ∈ parts, c ∉ p.cps.toList) → ((Str.join ⟨#[c]⟩ parts).cps.toList.flatMap fun d => if d = c then z.cps.toList else [d]) = (Str.join z parts).cps.toList
  | [], _ => rfl
  | [p], h => flat_free c _ _ (h p (List.mem_singleton.mpr rfl))
  | p :: q :: r, h => by
    have ih := flat_join c z (q :: r) fun a ha => h a (List.mem_cons_of_mem _ ha)
    show ((p ++ ⟨#[c]⟩ ++ Str.join ⟨#[c]⟩ (q :: r)).cps.toList.flatMap fun d => if d = c then z.cps.toList else [d]) = (p ++ z ++ Str.join z (q :: r)).cps.toList
    simp only [Str.cps_append, Array.toList_append, List.flatMap_append]
    rw [ih, flat_free c _ _ (h p (List.mem_cons_self ..))]
    simp
theorem rep_list (x z : Str) (c : Nat) : (Txt.replace x ⟨#[c]⟩ z).cps.toList = x.cps.toList.flatMap fun d => if d = c then z.cps.toList else [d] := by
  rw [StrLaws.replace_one, ← flat_join c z _ (StrLaws.split_free x c), StrLaws.join_split]
theorem rep_len (x z : Str) (c : Nat) (hz : z.length ≤ 2) : (Txt.replace x ⟨#[c]⟩ z).length ≤ 2 * x.length := by
  have h : ∀ l : List Nat, (l.flatMap fun d => if d = c then z.cps.toList else [d]).length ≤ 2 * l.length := by
    intro l
    induction l with
    | nil => simp
    | cons k r ih =>
      rw [List.flatMap_cons, List.length_append, List.length_cons]
      have : (if k = c then z.cps.toList else [k]).length ≤ 2 := by
        split
        · simpa [Str.length] using hz
        · simp
      omega
  have := h x.cps.toList
  rw [← rep_list] at this
  simpa [Str.length] using this
end Mine

end

/-! ### part G1 -/
section
open PySem PySem.W PyProof.Rows
set_option maxRecDepth 100000
set_option maxHeartbeats 1000000
set_option linter.unusedVariables false
namespace Mine
noncomputable abbrev KK : Params → Frag := Mine.hd.heap_39

local macro_rules | `(tactic| walk_at "m") => `(tactic| first
  | ((with_reducible show wpAny _ _ (execs (_ :: _) _) _ _ _); refine wpAny_execs_cons ?_)
  | ((with_reducible show wpAny _ _ (exec (Stmt.Assign [PySem.Expr.Name _ _] _ _) _) _ _ _); refine wpAny_Assign_Name ?_)
  | ((with_reducible show wpAny _ _ (exec (Stmt.Return (some _) _) _) _ _ _); refine wpAny_Return_some ?_)
  | ((with_reducible show wpAny _ _ (eval (PySem.Expr.BinOp _ _ _ _) _) _ _ _); refine wpAny_BinOp ?_)
  | ((with_reducible show wpAny _ _ (eval (PySem.Expr.Constant (PySem.Const.int _) _ _) _) _ _ _); refine c_int (by assumption) ?_; intro s' t' S')
  | ((with_reducible show wpAny _ _ (eval (PySem.Expr.Constant (PySem.Const.str _) _ _) _) _ _ _); refine c_str (by assumption) ?_; intro s' t' S')
  | ((with_reducible show wpAny _ _ (eval (PySem.Expr.Name _ _) _) _ _ _); refine ld_loc (by assumption) rfl rfl ?_)
  | ((with_reducible show wpAny _ _ (eval (PySem.Expr.List _ _) _) _ _ _); refine List_ ?_)
  | ((with_reducible show wpAny _ _ (eval (PySem.Expr.Tuple _ _ _) _) _ _ _); refine Tuple_ ?_)
  | ((with_reducible show wpAny _ _ (eval (PySem.Expr.Subscript _ _ _) _) _ _ _); refine Subscript_ ?_)
  | ((with_reducible show wpAny _ _ (eval (PySem.Expr.Call (PySem.Expr.Name _ _) _ [] _) _) _ _ _); refine Call_ ?_)
  | ((with_reducible show wpAny _ _ (spliced (backTo _ (starEach [] _))) _ _ _); refine args_nil ?_)
  | ((with_reducible show wpAny _ _ (spliced (backTo _ (starEach (_ :: _) _))) _ _ _); refine args_cons ?_)
  | ((with_reducible show wpAny _ _ (newList _) _ _ _); refine n_list (by assumption) (Nat.le_of_ble_eq_true rfl) ?_; intro s' a' ha' S')
  | ((with_reducible show wpAny _ _ (newTuple _) _ _ _); refine n_tuple (by assumption) (Nat.le_of_ble_eq_true rfl) ?_; intro s' a' ha' S')
  | ((with_reducible show wpAny _ _ (binaryOp PySem.Operator.Mod (Value.int _ _) (Value.int _ _)) _ _ _); refine b_mod (by assumption) (by decide) ?_; intro s' t' S')
  | ((with_reducible show wpAny _ _ (binaryOp PySem.Operator.FloorDiv (Value.int _ _) (Value.int _ _)) _ _ _); refine b_div (by assumption) (by decide) (PyProof.noPylong_of_log2 (by decide +kernel)) ?_; intro s' t' S')
  | ((with_reducible show wpAny _ _ (storeName _ _ _) _ _ _); refine st_loc (by assumption) rfl ?_; intro s' S'))

def signOf (x : Int) : Str := ⟨#[((x.fdiv 32).fmod 55296).toNat]⟩
def words8 (x : Int) : List Str := [Str.ofString "", Str.ofString "x", Str.ofString ",", Str.ofString "\\", Str.ofString "\"", Str.ofString "=\"", Str.ofString " ", signOf x]
def wordOf (x : Int) : Str := (words8 x).getD ((x.fdiv 4).fmod 8).toNat Str.empty
def keys4 : List Str := [Str.ofString "a", Str.ofString "b", Str.ofString "", Str.ofString "a b"]
def keyOf (x : Int) : Str := keys4.getD (x.fmod 4).toNat Str.empty

section
variable {prog : Program} {w : World} {A : Around} {E : Value → Shared → Prop} {s : Shared}
theorem item8 {value slice : PySem.Expr} {a : Nat} {n : Nat} {k : Int} {u : Tok} {y1 y2 y3 y4 y5 y6 y7 y8 : Str} {t1 t2 t3 t4 t5 t6 t7 t8 : Tok} {Q : Value → Shared → Prop}
    (e : s.heap.get? a = some (listOf [.str y1 t1, .str y2 t2, .str y3 t3, .str y4 t4, .str y5 t5, .str y6 t6, .str y7 t7, .str y8 t8].toArray n)) (h0 : 0 ≤ k) (h8 : k < 8)
    (h : ∀ t, Q (.str ([y1, y2, y3, y4, y5, y6, y7, y8].getD k.toNat Str.empty) t) s)
    (hs : subscripted slice false (.ref a) (.int k u) = operate [.ref a, .int k u] (getItem (.ref a) (.int k u)) := by with_unfolding_all rfl) : wpAny (model prog w) A (subscriptTail value slice (.ref a) (.int k u)) Q E s := by
  have hk : k = 0 ∨ k = 1 ∨ k = 2 ∨ k = 3 ∨ k = 4 ∨ k = 5 ∨ k = 6 ∨ k = 7 := by omega
  rcases hk with rfl | rfl | rfl | rfl | rfl | rfl | rfl | rfl <;> exact sub_list e (by decide) (by decide) rfl (h _) hs
theorem item4 {value slice : PySem.Expr} {a : Nat} {n : Nat} {k : Int} {u : Tok} {y1 y2 y3 y4 : Str} {t1 t2 t3 t4 : Tok} {Q : Value → Shared → Prop}
    (e : s.heap.get? a = some (listOf [.str y1 t1, .str y2 t2, .str y3 t3, .str y4 t4].toArray n)) (h0 : 0 ≤ k) (h8 : k < 4)
    (h : ∀ t, Q (.str ([y1, y2, y3, y4].getD k.toNat Str.empty) t) s)
    (hs : subscripted slice false (.ref a) (.int k u) = operate [.ref a, .int k u] (getItem (.ref a) (.int k u)) := by with_unfolding_all rfl) : wpAny (model prog w) A (subscriptTail value slice (.ref a) (.int k u)) Q E s := by
  have hk : k = 0 ∨ k = 1 ∨ k = 2 ∨ k = 3 := by omega
  rcases hk with rfl | rfl | rfl | rfl <;> exact sub_list e (by decide) (by decide) rfl (h _) hs
end
section
variable {prog : Program} {w : World} {A : Around} {s : Shared}
theorem pair_spec {x : Int} {tk : Tok} (hh : A.handled = none) (hroom : A.depth < recursionLimit) (D : Gd (KK w.params) s.heap) :
    codeAny (model prog w) A (.call (.ref 77) ⟨[.int x tk], []⟩) (fun r s' => ∃ (t : Nat) (t₁ t₂ : Tok), r = .ok (.ret (.ref t)) ∧ Keeps s s' ∧ s.heap.objs.size ≤ t ∧ s'.heap.get? t = some (tupOf [.str (keyOf x) t₁, .str (wordOf x) t₂])) s := by
  refine enter (binds := [(Str.ofString "x", .int x tk)]) D hroom rfl rfl rfl rfl (Nat.succ_pos _) fun L s' S => ?_
  repeat walk_at "m"
  refine ld_B (S.gd D) (by kernel_rfl) boot_chr ?_
  refine PyProof.Rows.callWith_builtin1 ?_
  repeat walk_at "m"
  have h1 := (fdiv_fmod_facts (x.fdiv 32) 55296).2.2.1 (by decide)
  have h2 := (fdiv_fmod_facts (x.fdiv 4) 8).2.2.1 (by decide)
  have h3 := (fdiv_fmod_facts x 4).2.2.1 (by decide)
  refine f_chr (by assumption) h1.1 (by omega) ?_; intro s' t' S'
  walk_at "m"
  show wpAny _ _ (execs _ _) _ _ _
  repeat walk_at "m"
  refine item8 (by rename St _ _ _ _ _ => S; exact S.mu0) h2.1 h2.2 ?_; intro t8
  walk_at "m"
  show wpAny _ _ (execs _ _) _ _ _
  repeat walk_at "m"
  refine item4 (by rename St _ _ _ _ _ => S; exact S.mu0) h3.1 h3.2 ?_; intro t4
  repeat walk_at "m"
  rename St _ _ _ _ _ => S
  refine ⟨_, _, _, rfl, S.keepsAll, ?_, S.mu0⟩
  exact S.anew _ (by simp)
end
end Mine

end

/-! ### part G2 -/
section
open PySem PySem.W PyProof.Rows
set_option maxRecDepth 100000
set_option maxHeartbeats 1000000
set_option linter.unusedVariables false
namespace Mine

local macro_rules | `(tactic| walk_at "m") => `(tactic| first
  | ((with_reducible show wpAny _ _ (execs (_ :: _) _) _ _ _); refine wpAny_execs_cons ?_)
  | ((with_reducible show wpAny _ _ (exec (Stmt.Assign [PySem.Expr.Name _ _] _ _) _) _ _ _); refine wpAny_Assign_Name ?_)
  | ((with_reducible show wpAny _ _ (exec (Stmt.Return (some _) _) _) _ _ _); refine wpAny_Return_some ?_)
  | ((with_reducible show wpAny _ _ (eval (PySem.Expr.BinOp _ _ _ _) _) _ _ _); refine wpAny_BinOp ?_)
  | ((with_reducible show wpAny _ _ (eval (PySem.Expr.Constant (PySem.Const.int _) _ _) _) _ _ _); refine c_int (by assumption) ?_; intro s' t' S')
  | ((with_reducible show wpAny _ _ (eval (PySem.Expr.Constant (PySem.Const.str _) _ _) _) _ _ _); refine c_str (by assumption) ?_; intro s' t' S')
  | ((with_reducible show wpAny _ _ (eval (PySem.Expr.Name _ _) _) _ _ _); refine ld_loc (by assumption) rfl (by first | rfl | assumption) ?_)
  | ((with_reducible show wpAny _ _ (eval (PySem.Expr.List _ _) _) _ _ _); refine List_ ?_)
  | ((with_reducible show wpAny _ _ (eval (PySem.Expr.Tuple _ _ _) _) _ _ _); refine Tuple_ ?_)
  | ((with_reducible show wpAny _ _ (eval (PySem.Expr.Subscript _ _ _) _) _ _ _); refine Subscript_ ?_)
  | ((with_reducible show wpAny _ _ (eval (PySem.Expr.Call (PySem.Expr.Name _ _) _ [] _) _) _ _ _); refine Call_ ?_)
  | ((with_reducible show wpAny _ _ (eval (PySem.Expr.Call (PySem.Expr.Attribute _ _ _) _ [] _) _) _ _ _); refine MethodCall_ ?_)
  | ((with_reducible show wpAny _ _ (spliced (backTo _ (starEach [] _))) _ _ _); refine args_nil ?_)
  | ((with_reducible show wpAny _ _ (spliced (backTo _ (starEach (_ :: _) _))) _ _ _); refine args_cons ?_)
  | ((with_reducible show wpAny _ _ (newList _) _ _ _); refine n_list (by assumption) (Nat.le_of_ble_eq_true rfl) ?_; intro s' a' ha' S')
  | ((with_reducible show wpAny _ _ (newTuple _) _ _ _); refine n_tuple (by assumption) (Nat.le_of_ble_eq_true rfl) ?_; intro s' a' ha' S')
  | ((with_reducible show wpAny _ _ (storeName _ _ _) _ _ _); refine st_loc (by assumption) rfl ?_; intro s' S'))

def bs : Str := Str.ofString "\\"
def dq : Str := Str.ofString "\""
def escOf (x : Str) : Str := Txt.replace (Txt.replace x (Str.ofString "\\") (Str.ofString "\\\\")) (Str.ofString "\"") (Str.ofString "\\\"")
def itemOf (p : Str × Str) : Str := ((p.1 ++ Str.ofString "=\"") ++ escOf p.2) ++ Str.ofString "\""
def headerOf (ps : List (Str × Str)) : Str := Txt.join (Str.ofString ", ") (ps.map itemOf)
theorem l1 : (Str.ofString "=\"").length = 2 := by decide
theorem l2 : (Str.ofString "\"").length = 1 := by decide
theorem l3 : (Str.ofString "\\\\").length = 2 := by decide
theorem l4 : (Str.ofString "\\\"").length = 2 := by decide
theorem l5 : (Str.ofString ", ").length = 2 := by decide
theorem rep1_len (x : Str) : (Txt.replace x (Str.ofString "\\") (Str.ofString "\\\\")).length ≤ 2 * x.length := by
  rw [show Str.ofString "\\" = ⟨#[92]⟩ from by decide]
  exact rep_len _ _ _ (by decide)
theorem rep2_len (x : Str) : (Txt.replace x (Str.ofString "\"") (Str.ofString "\\\"")).length ≤ 2 * x.length := by
  rw [show Str.ofString "\"" = ⟨#[34]⟩ from by decide]
  exact rep_len _ _ _ (by decide)
theorem esc_len (x : Str) : (escOf x).length ≤ 4 * x.length := by
  have h1 := rep1_len x
  have h2 := rep2_len (Txt.replace x (Str.ofString "\\") (Str.ofString "\\\\"))
  unfold escOf; omega
theorem item_len (p : Str × Str) : (itemOf p).length ≤ p.1.length + 4 * p.2.length + 3 := by
  have := esc_len p.2
  unfold itemOf
  simp only [Str.length_append, l1, l2]; omega
def Small (p : Str × Str) : Prop := p.1.length ≤ 3 ∧ p.2.length ≤ 2

section
variable {prog : Program} {w : World} {A : Around} {s : Shared}
theorem header_spec {l : Nat} {ps : List (Str × Str)} (hh : A.handled = none) (hroom : A.depth < recursionLimit) (D : Gd (KK w.params) s.heap) (hp : PairsL s.heap l ps) (hs : ∀ p ∈ ps, Small p) (hn : ps.length ≤ 100) :
    codeAny (model prog w) A (.call (.ref 84) ⟨[.ref l], []⟩) (fun r s' => ∃ t, r = .ok (.ret (.str (headerOf ps) t)) ∧ Keeps s s') s := by
  obtain ⟨vs, n, hl, hv⟩ := hp
  refine enter (binds := [(Str.ofString "pairs", .ref l)]) D hroom rfl rfl rfl rfl (Nat.succ_pos _) fun L s' S => ?_
  repeat walk_at "m"
  refine exec_for ?_
  walk_at "m"
  refine it_list (by assumption) (.inl hl) rfl ⟨_, rfl⟩ ?_ hh
  intro I oI s₁ hh' S₁ hT W
  rename St _ _ [(_, PySem.W.listOf #[] 0)] _ _ => S₀
  rename_i D _ _ _
  refine for_st W (goOk_list fun i v e => let ⟨_, _, t, e', _⟩ := Paired.get hv i v (by simpa using e); ⟨t, e'⟩) (fun i ns' mu' gn' => ∃ m' its n, ns' = [(L, m')] ∧ mu' = [(D, listOf its n)] ∧ m' (Str.ofString "items") = some (.ref D) ∧ StrsAre its.toList ((ps.take i).map itemOf)) S₁ hT
    ⟨_, _, _, rfl, rfl, rfl, by simpa using StrsAre.nil⟩ ?_ ?_
  · rintro i v ns' mu' gn' oI' s₂ hi hP hg ⟨m', its, n', rfl, rfl, hm, hits⟩ S₂
    obtain ⟨p, hp, t, rfl, t₁, t₂, ht⟩ := Paired.get hv i v (by simpa using hP)
    have hsm := hs p (List.mem_of_getElem? hp)
    have htu := isTuple_of (S₂.keep _ _ ht)
    have hlen := StrsAre.length hits
    unfold forGo
    refine as_two hh S₂ rfl htu fun s₃ S₃ => ?_
    walk_at "m"
    refine wpAny_Expr ?_
    walk_at "m"
    walk_at "m"
    refine m_append (S₃.swap.mu0) ?_
    refine callWith_method1 ?_
    have h1 := rep1_len p.2
    have h2 := esc_len p.2
    unfold escOf at h2
    unfold Small at hsm
    repeat walk_at "m"
    refine b_add (by assumption) (by rw [sizeLine_eq, l1]; omega) ?_; intro s' t' S'
    repeat walk_at "m"
    refine GM.replace ?_
    refine callWith_method1 ?_
    refine args_two (by assumption) ?_; intro s' t' u' ht' hu' htu' S'
    refine f_replace (by assumption) ht' hu' htu' (by decide) (by rw [l3]; omega) ?_; intro s' t' S'
    refine GM.replace ?_
    refine callWith_method1 ?_
    refine args_two (by assumption) ?_; intro s' t' u' ht' hu' htu' S'
    refine f_replace (by assumption) ht' hu' htu' (by decide) (by rw [l4]; omega) ?_; intro s' t' S'
    refine b_add (by assumption) (by rw [sizeLine_eq, Str.length_append, l1]; omega) ?_; intro s' t' S'
    repeat walk_at "m"
    refine b_add (by assumption) (by rw [sizeLine_eq, Str.length_append, Str.length_append, l1, l2]; omega) ?_; intro s' t' S'
    walk_at "m"
    refine f_append S'.swap ?_ fun s₄ S₄ => ?_
    · simp only [List.length_map, List.length_take, Array.length_toList] at hlen
      rw [sizeLine_eq]; omega
    refine wpAny_execs_nil ⟨_, _, _, Sub.refl _, ⟨_, its.push (.str (itemOf p) _), n' + 1, rfl, rfl, ?_, ?_⟩, S₄.swap⟩
    · exact hm
    · have e : (ps.take (i + 1)).map itemOf = (ps.take i).map itemOf ++ [itemOf p] := by rw [List.take_add_one, hp]; simp
      rw [e, Array.toList_push]
      exact StrsAre.snoc hits
  · rintro ns' mu' gn' s₂ hg ⟨m', its, n', rfl, rfl, hm, hits⟩ S₂
    have hvl := Paired.length hv
    rw [Array.length_toList] at hvl
    rw [hvl, List.take_length] at hits
    repeat walk_at "m"
    refine GM.join ?_
    refine callWith_method1 ?_
    repeat walk_at "m"
    refine f_join (by assumption) (by rename St _ _ _ _ _ => S₃; exact S₃.mu0) hits ?_ ?_
    · refine joinOk_of ?_
      have hw : ∀ l : List (Str × Str), (∀ p ∈ l, Small p) → ((l.map itemOf).map (·.length)).sum ≤ 14 * l.length := by
        intro l
        induction l with
        | nil => simp
        | cons p r ih =>
          intro h
          have h1 := ih fun q hq => h q (.tail _ hq)
          have h2 := item_len p
          have h3 := h p (.head _)
          unfold Small at h3
          simp only [List.map_cons, List.sum_cons, List.length_cons]
          omega
      have := hw ps hs
      rw [List.length_map, l5]; omega
    · intro s' t' S'
      exact ⟨_, rfl, S'.keepsAll⟩
end
end Mine

end

/-! ### part G3 -/
section
open PySem PySem.W PyProof.Rows
set_option maxRecDepth 100000
set_option maxHeartbeats 4000000
set_option linter.unusedVariables false
namespace Mine

local macro_rules | `(tactic| walk_at "m") => `(tactic| first
  | ((with_reducible show wpAny _ _ (execs (_ :: _) _) _ _ _); refine wpAny_execs_cons ?_)
  | ((with_reducible show wpAny _ _ (execs [] _) _ _ _); refine wpAny_execs_nil ?_)
  | ((with_reducible show wpAny _ _ (exec (Stmt.Assign [PySem.Expr.Name _ _] _ _) _) _ _ _); refine wpAny_Assign_Name ?_)
  | ((with_reducible show wpAny _ _ (exec (Stmt.AugAssign (PySem.Expr.Name _ _) _ _ _) _) _ _ _); refine wpAny_AugAssign_Name ?_)
  | ((with_reducible show wpAny _ _ (exec (Stmt.Return (some _) _) _) _ _ _); refine wpAny_Return_some ?_)
  | ((with_reducible show wpAny _ _ (exec (Stmt.If _ _ _ _) _) _ _ _); refine wpAny_If ?_)
  | ((with_reducible show wpAny _ _ (exec (Stmt.Continue _) _) _ _ _); refine wpAny_Continue ?_)
  | ((with_reducible show wpAny _ _ (eval (PySem.Expr.BinOp _ _ _ _) _) _ _ _); refine wpAny_BinOp ?_)
  | ((with_reducible show wpAny _ _ (isTrue (PySem.Expr.Name _ _) _ _) _ _ _); refine isTrue_plain ?_)
  | ((with_reducible show wpAny _ _ (isTrue (PySem.Expr.Compare _ [_] [_] _) _ _) _ _ _); refine wpAny_isTrue_Compare1 ?_)
  | ((with_reducible show wpAny _ _ (eval (PySem.Expr.Compare _ [_] [_] _) _) _ _ _); refine wpAny_Compare1 ?_)
  | ((with_reducible show wpAny _ _ (truthy (Value.bool _)) _ _ _); refine wpAny_truthy_bool ?_)
  | ((with_reducible show wpAny _ _ (eval (PySem.Expr.Constant (PySem.Const.int _) _ _) _) _ _ _); refine c_int (by assumption) ?_; intro s' t' S')
  | ((with_reducible show wpAny _ _ (eval (PySem.Expr.Constant (PySem.Const.str _) _ _) _) _ _ _); refine c_str (by assumption) ?_; intro s' t' S')
  | ((with_reducible show wpAny _ _ (eval (PySem.Expr.Constant (PySem.Const.bool _) _ _) _) _ _ _); refine c_bool ?_)
  | ((with_reducible show wpAny _ _ (eval (PySem.Expr.Constant PySem.Const.none _ _) _) _ _ _); refine c_none ?_)
  | ((with_reducible show wpAny _ _ (eval (PySem.Expr.Name _ _) _) _ _ _); refine ld_loc (by assumption) rfl (by first | rfl | assumption) ?_)
  | ((with_reducible show wpAny _ _ (loadName _ _) _ _ _); refine ldn_loc (by assumption) rfl (by first | rfl | assumption) ?_)
  | ((with_reducible show wpAny _ _ (eval (PySem.Expr.List _ _) _) _ _ _); refine List_ ?_)
  | ((with_reducible show wpAny _ _ (eval (PySem.Expr.Tuple _ _ _) _) _ _ _); refine Tuple_ ?_)
  | ((with_reducible show wpAny _ _ (eval (PySem.Expr.Subscript _ _ _) _) _ _ _); refine Subscript_ ?_)
  | ((with_reducible show wpAny _ _ (eval (PySem.Expr.Call (PySem.Expr.Name _ _) _ [] _) _) _ _ _); refine Call_ ?_)
  | ((with_reducible show wpAny _ _ (eval (PySem.Expr.Call (PySem.Expr.Attribute _ _ _) _ [] _) _) _ _ _); refine MethodCall_ ?_)
  | ((with_reducible show wpAny _ _ (spliced (backTo _ (starEach [] _))) _ _ _); refine args_nil ?_)
  | ((with_reducible show wpAny _ _ (spliced (backTo _ (starEach (_ :: _) _))) _ _ _); refine args_cons ?_)
  | ((with_reducible show wpAny _ _ (newList _) _ _ _); refine n_list (by assumption) (Nat.le_of_ble_eq_true rfl) ?_; intro s' a' ha' S')
  | ((with_reducible show wpAny _ _ (newTuple _) _ _ _); refine n_tuple (by assumption) (Nat.le_of_ble_eq_true rfl) ?_; intro s' a' ha' S')
  | ((with_reducible show wpAny _ _ (compareOp PySem.CmpOp.Eq (Value.str _ _) (Value.str _ _)) _ _ _); refine PyProof.Rows.eq_str ?_)
  | ((with_reducible show wpAny _ _ (binaryOp PySem.Operator.Mod (Value.int _ _) (Value.int _ _)) _ _ _); refine b_mod (by assumption) (by decide) ?_; intro s' t' S')
  | ((with_reducible show wpAny _ _ (binaryOp PySem.Operator.FloorDiv (Value.int _ _) (Value.int _ _)) _ _ _); refine b_div (by assumption) (by decide) (PyProof.noPylong_of_log2 (by decide +kernel)) ?_; intro s' t' S')
  | ((with_reducible show wpAny _ _ (storeName _ _ _) _ _ _); refine st_loc (by assumption) rfl ?_; intro s' S'))

structure HSt where
  res : List Str
  part : Str
  esc : Bool
  quo : Bool
def HSt.init : HSt := ⟨[], Str.ofString "", false, false⟩
def hstep (st : HSt) (c : Nat) : HSt :=
  let cur : Str := ⟨#[c]⟩
  if st.esc = true then { st with part := st.part ++ cur, esc := false }
  else if st.quo = true then
    if (cur == Str.ofString "\\") = true then { st with esc := true }
    else if (cur == Str.ofString "\"") = true then { st with quo := false, part := st.part ++ cur }
    else { st with part := st.part ++ cur }
  else if (cur == Str.ofString ",") = true then { st with res := st.res ++ [st.part], part := Str.ofString "" }
  else if (cur == Str.ofString "\"") = true then { st with quo := true, part := st.part ++ cur }
  else { st with part := st.part ++ cur }
def hrun (x : Str) : HSt := x.cps.toList.foldl hstep HSt.init
def hparts (x : Str) : List Str := let st := hrun x; if ((st.part.length : Int) != 0) = true then st.res ++ [st.part] else st.res
def httpOf (x : Str) : List Str := (hparts x).map Txt.strip

theorem hstep_bound (st : HSt) (c k : Nat) (h : st.part.length ≤ k ∧ ∀ y ∈ st.res, y.length ≤ k) : (hstep st c).part.length ≤ k + 1 ∧ ∀ y ∈ (hstep st c).res, y.length ≤ k + 1 := by
  have h0 : (Str.ofString "").length = 0 := by decide
  have h1 : (st.part ++ (⟨#[c]⟩ : Str)).length = st.part.length + 1 := by rw [Str.length_append]; rfl
  have h2 : ∀ y ∈ st.res, y.length ≤ k + 1 := fun y hy => Nat.le_succ_of_le (h.2 y hy)
  unfold hstep
  dsimp only
  split
  · exact ⟨by show (st.part ++ (⟨#[c]⟩ : Str)).length ≤ _; omega, h2⟩
  · split
    · split
      · exact ⟨by show st.part.length ≤ _; omega, h2⟩
      · split
        · exact ⟨by show (st.part ++ (⟨#[c]⟩ : Str)).length ≤ _; omega, h2⟩
        · exact ⟨by show (st.part ++ (⟨#[c]⟩ : Str)).length ≤ _; omega, h2⟩
    · split
      · refine ⟨by show (Str.ofString "").length ≤ _; omega, fun y hy => ?_⟩
        rcases List.mem_append.mp hy with hy | hy
        · exact h2 y hy
        · rw [List.mem_singleton.mp hy]; omega
      · split
        · exact ⟨by show (st.part ++ (⟨#[c]⟩ : Str)).length ≤ _; omega, h2⟩
        · exact ⟨by show (st.part ++ (⟨#[c]⟩ : Str)).length ≤ _; omega, h2⟩
theorem hfold_bound : ∀ (l : List Nat) (st : HSt) (k : Nat), (st.part.length ≤ k ∧ ∀ y ∈ st.res, y.length ≤ k) → (l.foldl hstep st).part.length ≤ k + l.length ∧ ∀ y ∈ (l.foldl hstep st).res, y.length ≤ k + l.length
  | [], st, k, h => h
  | c :: r, st, k, h => by
    have := hfold_bound r (hstep st c) (k + 1) (hstep_bound st c k h)
    rw [List.foldl_cons, List.length_cons, show k + (r.length + 1) = k + 1 + r.length by omega]
    exact this
theorem hparts_len (x : Str) : ∀ y ∈ hparts x, y.length ≤ x.cps.size := by
  have h := hfold_bound x.cps.toList HSt.init 0 ⟨by decide, fun _ hy => nomatch hy⟩
  rw [Array.length_toList, Nat.zero_add] at h
  intro y hy
  unfold hparts at hy
  dsimp only at hy
  split at hy
  · rcases List.mem_append.mp hy with hy | hy
    · exact h.2 y hy
    · rw [List.mem_singleton.mp hy]; exact h.1
  · exact h.2 y hy

/-- a list of texts -/
def StrsL (h : Heap) (l : Nat) (ys : List Str) : Prop := ∃ vs n, h.get? l = some (listOf vs n) ∧ StrsAre vs.toList ys

abbrev HJ (x : Str) (L D : Nat) (i : Nat) (ns : NsL) (mu : MuL) (gn : Heap) : Prop :=
  ∃ m its n st t, ns = [(L, m)] ∧ mu = [(D, listOf its n)] ∧ m (Str.ofString "res") = some (.ref D) ∧ m (Str.ofString "part") = some (.str st.part t) ∧ m (Str.ofString "escape") = some (.bool st.esc) ∧ m (Str.ofString "quote") = some (.bool st.quo) ∧
    StrsAre its.toList st.res ∧ st = (x.cps.toList.take i).foldl hstep HSt.init ∧ st.part.length ≤ i ∧ st.res.length ≤ i
theorem HJ.next {x : Str} {L D i c : Nat} {gn : Heap} {m : Str → Option Value} {its : Array Value} {n : Nat} {st st' : HSt} {t : Tok} (hst : st = (x.cps.toList.take i).foldl hstep HSt.init) (hc : x.cps[i]? = some c) (e : hstep st c = st')
    (h1 : m (Str.ofString "res") = some (.ref D)) (h2 : m (Str.ofString "part") = some (.str st'.part t)) (h3 : m (Str.ofString "escape") = some (.bool st'.esc)) (h4 : m (Str.ofString "quote") = some (.bool st'.quo)) (h5 : StrsAre its.toList st'.res)
    (h7 : st'.part.length ≤ i + 1) (h8 : st'.res.length ≤ i + 1) : HJ x L D (i + 1) [(L, m)] [(D, listOf its n)] gn := by
  refine ⟨m, its, n, st', t, rfl, rfl, h1, h2, h3, h4, h5, ?_, h7, h8⟩
  have hc' : x.cps.toList[i]? = some c := by simpa using hc
  rw [List.take_add_one, hc', List.foldl_append, ← hst, ← e]
  rfl
theorem one_len (c : Nat) : (⟨#[c]⟩ : Str).length = 1 := rfl
theorem nil_len : (Str.ofString "").length = 0 := by decide

section
variable {prog : Program} {w : World} {A : Around} {s : Shared}
theorem http_spec {x : Str} {tk : Tok} (hh : A.handled = none) (hroom : A.depth < recursionLimit) (D : Gd (KK w.params) s.heap) (hx : x.length ≤ 10000) :
    codeAny (model prog w) A (.call (.ref 70) ⟨[.str x tk], []⟩) (fun r s' => ∃ l : Nat, r = .ok (.ret (.ref l)) ∧ Keeps s s' ∧ s.heap.objs.size ≤ l ∧ StrsL s'.heap l (httpOf x)) s := by
  refine enter (binds := [(Str.ofString "s", .str x tk)]) D hroom rfl rfl rfl rfl (Nat.succ_pos _) fun L s' S => ?_
  repeat walk_at "m"
  refine wpAny_Assign_two ?_
  walk_at "m"
  refine as_loc (by assumption) rfl ?_; intro s' S'
  refine as_loc (by assumption) rfl ?_; intro s' S'
  show wpAny _ _ (execs _ _) _ _ _
  walk_at "m"
  refine exec_for ?_
  walk_at "m"
  refine it_str (by assumption) ?_ hh
  intro I oI s₁ T S₁ hT W
  rename St _ _ [(_, PySem.W.listOf #[] 0)] _ _ => S₀
  have hx' : x.cps.size ≤ 10000 := hx
  refine for_st W goOk_name (HJ x L _) S₁ hT ⟨_, _, _, HSt.init, _, rfl, rfl, rfl, rfl, rfl, rfl, .nil, rfl, by decide, by decide⟩ ?_ ?_
  · rintro i v ns' mu' gn' oI' s₂ hi ⟨c, u, hc, rfl⟩ hg ⟨m', its, n', ⟨res, part, e, q⟩, t, rfl, rfl, h1, h2, h3, h4, h5, h6, h7, h8⟩ S₂
    dsimp only at h2 h3 h4 h5 h7 h8
    have hlen := StrsAre.length h5
    rw [Array.length_toList] at hlen
    unfold forGo
    refine as_loc S₂ rfl fun s₃ S₃ => ?_
    repeat walk_at "m"
    cases e with
    | true =>
      refine ite_pos rfl ?_
      repeat walk_at "m"
      refine b_iadd (by assumption) (by rw [sizeLine_eq, one_len]; omega) ?_; intro s' t' S'
      repeat walk_at "m"
      rename St _ _ _ _ _ => S₄
      refine ⟨_, _, _, Sub.refl _, ?_, S₄⟩
      exact HJ.next (st' := ⟨res, part ++ ⟨#[c]⟩, false, q⟩) h6 hc rfl h1 rfl rfl h4 h5 (by rw [Str.length_append, one_len]; omega) (by show res.length ≤ _; omega)
    | false =>
      refine ite_neg (by decide) ?_
      repeat walk_at "m"
      cases q with
      | true =>
        refine ite_pos rfl ?_
        repeat walk_at "m"
        refine split_bool (fun hb => ?_) (fun hb => ?_)
        · repeat walk_at "m"
          rename St _ _ _ _ _ => S₄
          refine ⟨_, _, _, Sub.refl _, ?_, S₄⟩
          exact HJ.next (st' := ⟨res, part, true, true⟩) h6 hc (by simp only [hstep, hb]; rfl) h1 h2 rfl h4 h5 (by show part.length ≤ _; omega) (by show res.length ≤ _; omega)
        · repeat walk_at "m"
          refine split_bool (fun hb2 => ?_) (fun hb2 => ?_)
          · repeat walk_at "m"
            refine b_iadd (by assumption) (by rw [sizeLine_eq, one_len]; omega) ?_; intro s' t' S'
            repeat walk_at "m"
            rename St _ _ _ _ _ => S₄
            refine ⟨_, _, _, Sub.refl _, ?_, S₄⟩
            exact HJ.next (st' := ⟨res, part ++ ⟨#[c]⟩, false, false⟩) h6 hc (by simp only [hstep, hb, hb2]; rfl) h1 rfl h3 rfl h5 (by rw [Str.length_append, one_len]; omega) (by show res.length ≤ _; omega)
          · repeat walk_at "m"
            refine b_iadd (by assumption) (by rw [sizeLine_eq, one_len]; omega) ?_; intro s' t' S'
            repeat walk_at "m"
            rename St _ _ _ _ _ => S₄
            refine ⟨_, _, _, Sub.refl _, ?_, S₄⟩
            exact HJ.next (st' := ⟨res, part ++ ⟨#[c]⟩, false, true⟩) h6 hc (by simp only [hstep, hb, hb2]; rfl) h1 rfl h3 h4 h5 (by rw [Str.length_append, one_len]; omega) (by show res.length ≤ _; omega)
      | false =>
        refine ite_neg (by decide) ?_
        repeat walk_at "m"
        refine split_bool (fun hb => ?_) (fun hb => ?_)
        · walk_at "m"
          refine wpAny_Expr ?_
          repeat walk_at "m"
          refine m_append (by rename St _ _ _ _ _ => S₅; exact S₅.swap.mu0) ?_
          refine callWith_method1 ?_
          repeat walk_at "m"
          refine f_append (St.swap (by assumption)) (by rw [sizeLine_eq]; omega) fun s₆ S₆ => ?_
          have S₇ := S₆.swap
          repeat walk_at "m"
          rename St _ _ _ _ _ => S₄
          refine ⟨_, _, _, Sub.refl _, ?_, S₄⟩
          exact HJ.next (st' := ⟨res ++ [part], Str.ofString "", false, false⟩) h6 hc (by simp only [hstep, hb]; rfl) h1 rfl h3 h4 (by rw [Array.toList_push]; exact StrsAre.snoc h5) (by rw [nil_len]; omega) (by simp; omega)
        · repeat walk_at "m"
          refine split_bool (fun hb2 => ?_) (fun hb2 => ?_)
          · repeat walk_at "m"
            refine b_iadd (by assumption) (by rw [sizeLine_eq, one_len]; omega) ?_; intro s' t' S'
            repeat walk_at "m"
            rename St _ _ _ _ _ => S₄
            refine ⟨_, _, _, Sub.refl _, ?_, S₄⟩
            exact HJ.next (st' := ⟨res, part ++ ⟨#[c]⟩, false, true⟩) h6 hc (by simp only [hstep, hb, hb2]; rfl) h1 rfl h3 rfl h5 (by rw [Str.length_append, one_len]; omega) (by show res.length ≤ _; omega)
          · repeat walk_at "m"
            refine b_iadd (by assumption) (by rw [sizeLine_eq, one_len]; omega) ?_; intro s' t' S'
            repeat walk_at "m"
            rename St _ _ _ _ _ => S₄
            refine ⟨_, _, _, Sub.refl _, ?_, S₄⟩
            exact HJ.next (st' := ⟨res, part ++ ⟨#[c]⟩, false, false⟩) h6 hc (by simp only [hstep, hb, hb2]; rfl) h1 rfl h3 h4 h5 (by rw [Str.length_append, one_len]; omega) (by show res.length ≤ _; omega)
  · rintro ns' mu' gn' s₂ hg ⟨m', its, n', st, t, rfl, rfl, h1, h2, h3, h4, h5, h6, h7, h8⟩ S₂
    have h6' : st = hrun x := by rw [h6, List.take_of_length_le (by simp)]; rfl
    have hlen := StrsAre.length h5
    rw [Array.length_toList] at hlen
    walk_at "m"
    refine wpAny_mono (Q := fun f s' => f = Flow.next ∧ ∃ (D : Nat) (its₁ : Array Value) (n₁ : Nat), m' (Str.ofString "res") = some (.ref D) ∧ St s [(L, m')] [(D, listOf its₁ n₁)] gn' s' ∧ StrsAre its₁.toList (hparts x)) ?_ (fun f s₃ hf => ?_) fun _ _ e => e
    · repeat walk_at "m"
      refine f_truthy (by assumption) (by omega) fun s₃ S₃ => ?_
      refine split_bool (fun hb => ?_) (fun hb => ?_)
      · walk_at "m"
        refine wpAny_Expr ?_
        repeat walk_at "m"
        refine m_append (by rename St _ _ _ _ _ => S₅; exact S₅.mu0) ?_
        refine callWith_method1 ?_
        repeat walk_at "m"
        refine f_append (by assumption) (by rw [sizeLine_eq]; omega) fun s₆ S₆ => ?_
        repeat walk_at "m"
        refine ⟨rfl, _, _, _, h1, S₆, ?_⟩
        rw [Array.toList_push]
        unfold hparts
        rw [← h6']
        dsimp only
        rw [if_pos hb]
        exact StrsAre.snoc h5
      · repeat walk_at "m"
        refine ⟨rfl, _, _, _, h1, S₃, ?_⟩
        unfold hparts
        rw [← h6']
        dsimp only
        rw [if_neg (by rw [hb]; decide)]
        exact h5
    · obtain ⟨rfl, D₁, its₁, n₁, hres, S₃, hp⟩ := hf
      obtain ⟨g₁, hg₁, hD, S₄⟩ := S₃.freeze1
      have hpl := StrsAre.length hp
      rw [Array.length_toList] at hpl
      have hpn : (hparts x).length ≤ x.cps.size + 1 := by
        unfold hparts
        rw [← h6']
        dsimp only
        split
        · simp; omega
        · omega
      have hps := hparts_len x
      repeat walk_at "m"
      refine comp_eval (s₀ := s) (closureFor_none (by decide)) rfl (by decide) (by decide) ?_
      repeat walk_at "m"
      refine it_list (by assumption) (.inr hD) rfl ⟨_, rfl⟩ ?_ hh
      intro I₂ oI₂ s₅ hh₂ S₅ hT₂ W₂
      refine ⟨I₂, _, oI₂, _, _, _, _, _, _, fun i ys g => StrsAre ys (((hparts x).take i).map Txt.strip), rfl, W₂, goOk_name, S₅, hT₂, .nil, by rw [sizeLine_eq]; omega, ?_, ?_⟩
      · intro i v ys gn₂ oI₃ s₆ C mC D₂ oD hi hP hg₂ hJ S₆
        obtain ⟨y, ty, rfl, hy⟩ := StrsAre.at hp i v (by simpa using hP)
        have hyl := hps y (List.mem_of_getElem? hy)
        refine as_loc S₆ rfl fun s₇ S₇ => ?_
        repeat walk_at "m"
        refine GM.strip ?_
        refine callWith_method0 ?_
        refine f_strip (by assumption) (by rw [sizeLine_eq]; omega) fun s₈ t₈ S₈ => ?_
        refine ⟨_, _, Sub.refl _, ?_, S₈⟩
        have e : ((hparts x).take (i + 1)).map Txt.strip = ((hparts x).take i).map Txt.strip ++ [Txt.strip y] := by rw [List.take_add_one, hy]; simp
        show StrsAre _ (((hparts x).take (i + 1)).map Txt.strip)
        rw [e]
        exact StrsAre.snoc hJ
      · intro ys gn₂ s₆ D₂ k hg₂ hJ hl S₆
        refine ⟨D₂, rfl, S₆.keepsAll, S₆.anew _ (by simp), ys.toArray, k, S₆.mu0, ?_⟩
        have hJ' : StrsAre ys (((hparts x).take its₁.size).map Txt.strip) := hJ
        rw [hpl, List.take_length] at hJ'
        exact hJ'
end
end Mine

end

/-! ### part T2 -/
section
open PySem PySem.W PyProof.Rows PySem.Builtin PySem.Builtin.Str
set_option linter.unusedVariables false
namespace Mine

theorem str_ext {x y : Str} (h : x.cps.toList = y.cps.toList) : x = y := by
  cases x; cases y; exact congrArg Str.mk (Array.toList_inj.mp h)

theorem split_one {a b : Str} {c : Nat} (ha : c ∉ a.cps.toList) (hc : Builtin.Str.strKind ⟨#[c]⟩ ≤ 1) : Txt.splitMax (a ++ ⟨#[c]⟩ ++ b) ⟨#[c]⟩ 1 = [a, b] := by
  have hat : (a ++ ⟨#[c]⟩ ++ b : Str).cps.toList[a.length]? = some c := by
    simp [Str.cps_append, Str.length]
  have hlen : (a ++ ⟨#[c]⟩ ++ b : Str).length = a.length + 1 + b.length := by rw [Str.length_append, Str.length_append]; rfl
  have hbefore : ∀ k, k < a.length → (a ++ ⟨#[c]⟩ ++ b : Str).cps.toList[k]? ≠ some c := by
    intro k hk e
    have : a.cps.toList[k]? = some c := by
      rw [← e]
      simp only [Str.cps_append, Array.toList_append]
      have hk' : k < a.cps.toList.length := by simpa [Str.length] using hk
      rw [List.append_assoc, List.getElem?_append_left hk']
    exact ha (List.mem_of_getElem? this)
  have hocc : occurrences (a ++ ⟨#[c]⟩ ++ b) ⟨#[c]⟩ 0 (a ++ ⟨#[c]⟩ ++ b : Str).length (limitOf (a ++ ⟨#[c]⟩ ++ b) 1) = [a.length] := by
    have hl : limitOf (a ++ ⟨#[c]⟩ ++ b) 1 = 1 := rfl
    rw [hl]
    rcases StrLaws.occ_head (a ++ ⟨#[c]⟩ ++ b) ⟨#[c]⟩ 1 (Nat.le_refl 1) with ⟨_, hn⟩ | ⟨i, r, h0, hi, hn⟩
    · exact absurd ((StrLaws.subAt_one _ c a.length).mpr hat) (hn a.length)
    · have hr := StrLaws.occ_length_le (a ++ ⟨#[c]⟩ ++ b) ⟨#[c]⟩ 0 (a ++ ⟨#[c]⟩ ++ b : Str).length 1
      rw [h0] at hr ⊢
      have hr0 : r = [] := by cases r with
        | nil => rfl
        | cons x y => simp at hr
      subst hr0
      have hi' := (StrLaws.subAt_one _ c i).mp hi
      have h1 : ¬ i < a.length := fun h => hbefore i h hi'
      have h2 : ¬ a.length < i := fun h => hn a.length h ((StrLaws.subAt_one _ c a.length).mpr hat)
      have : i = a.length := by omega
      rw [this]
  unfold Txt.splitMax
  have hone : (⟨#[c]⟩ : Str).length = 1 := rfl
  have hk : 1 ≤ Builtin.Str.strKind (a ++ ⟨#[c]⟩ ++ b) := by
    unfold Builtin.Str.strKind
    split
    · exact Nat.le_refl _
    · split <;> decide
  rw [if_neg (by rw [Bool.or_eq_true, decide_eq_true_eq, decide_eq_true_eq, hlen, hone]; omega), hocc, if_neg (by simp)]
  show [strSub _ 0 a.length, strSub _ (a.length + 1) _] = _
  have e1 : strSub (a ++ ⟨#[c]⟩ ++ b) 0 a.length = a := by
    apply str_ext
    rw [StrLaws.strSub_toList]
    simp [Str.cps_append, Str.length]
  have e2 : strSub (a ++ ⟨#[c]⟩ ++ b) (a.length + 1) (a ++ ⟨#[c]⟩ ++ b : Str).length = b := by
    apply str_ext
    rw [StrLaws.strSub_toList, hlen]
    simp only [Str.cps_append, Array.toList_append, Str.length]
    rw [show a.cps.size + 1 = (a.cps.toList ++ [c]).length by simp, List.drop_left]
    rw [List.take_of_length_le]
    simp
  rw [e1, e2]

theorem slice_quoted {a z w : Str} (ha : a.length = 1) (hz : z.length = 1) : Txt.slice (a ++ w ++ z) (some 1) (some (-1)) = w := by
  have hl : (a ++ w ++ z : Str).length = w.length + 2 := by rw [Str.length_append, Str.length_append]; omega
  have e : Txt.slice (a ++ w ++ z) (some 1) (some (-1)) = Txt.slice (a ++ w ++ z) (some 1) (some ((w.length : Int) + 1)) := by
    unfold Txt.slice
    rw [StrLaws.sliceIdx_neg_hi _ _ (by decide) (by rw [hl]; omega), hl]
    have : (-1 + ((w.length + 2 : Nat) : Int)) = (w.length : Int) + 1 := by omega
    rw [this]
  rw [e, beq_iff_eq.mp (slice_closesL (x := a ++ w ++ z) (i := 1) (j := (w.length : Int) + 1) (by decide) (by omega) (by rw [hl]; omega))]
  apply str_ext
  have ha' : a.cps.toList.length = 1 := by simpa [Str.length] using ha
  obtain ⟨c, hc⟩ : ∃ c, a.cps.toList = [c] := List.length_eq_one_iff.mp ha'
  have : ((w.length : Int) + 1 - 1).toNat = w.cps.toList.length := by simp [Str.length]
  rw [this]
  simp [Str.cps_append, hc]
end Mine

end

/-! ### part F5 -/
section
open PySem PySem.W PyProof.Rows
set_option maxRecDepth 100000
set_option maxHeartbeats 1000000
set_option linter.unusedVariables false
namespace Mine

section
variable {prog : Program} {w : World} {A : Around} {E : Value → Shared → Prop} {s₀ s : Shared} {ns : NsL} {mu : MuL} {gn : Heap} {env : Env} {q : Nat × (Str → Option Value)} {L : Nat} {m : Str → Option Value}

theorem n_dict {pos : Pos} {Q : Value → Shared → Prop} (S : St s₀ (q :: ns) mu gn s) (h : ∀ s' (a : Nat) o, s.heap.objs.size ≤ a → o.IsDictOf (strKind prog w) [] → St s₀ (q :: ns) ((a, o) :: mu) gn s' → Q (.ref a) s') :
    wpAny (model prog w) A (eval (.Dict [] [] pos) env) Q E s := by
  refine wpAny_Dict_empty (h _ _ _ (Nat.le_refl _) ?_ (S.push _))
  obtain ⟨o, ho, hd⟩ := Heap.dictOf_iff.mp (Heap.DictOf.new (knd := strKind prog w) s.heap)
  rw [Heap.get?_push_size _ rfl] at ho
  exact (Option.some.inj ho) ▸ hd
theorem f_setItem {d : Nat} {o : Obj} {kvs : List (Str × Value)} {k : Str} {t : Tok} {v : Value} {Q : Unit → Shared → Prop} (S : St s₀ ns ((d, o) :: mu) gn s) (hd : o.IsDictOf (strKind prog w) kvs) (hsz : kvs.length ≤ sizeLine)
    (h : ∀ s' o', o'.IsDictOf (strKind prog w) (stored kvs k v) → St s₀ ns ((d, o') :: mu) gn s' → Q () s') : wpAny (model prog w) A (setItem (.ref d) (.str k t) v) Q E s := by
  refine wpAny_setItem_pairs (hsz := hsz) (strKind_is prog w k t) (Heap.dictOf_iff.mpr ⟨o, S.mu0, hd⟩) fun h' hm hs => ?_
  obtain ⟨o', ho', hd'⟩ := Heap.dictOf_iff.mp hm
  exact h _ o' hd' (S.changed (tk := s.toks + 1) (fun b x hb e => hs.extBut b x hb e) ho' (Nat.succ_pos _))
theorem f_split1 {x y : Str} {k : Int} {t u v : Tok} {Q : Value → Shared → Prop} (S : St s₀ (q :: ns) mu gn s) (hy : (y.length == 0) = false) (hk : (decide (k < -(2 ^ 63 : Int)) || decide (k ≥ 2 ^ 63)) = false) (hsz : x.length + 2 ≤ sizeLine)
    (h : ∀ s' (a : Nat) vs, s.heap.objs.size ≤ a → StrsAre vs (Txt.splitMax x y k) → St s₀ (q :: ns) ((a, listOf vs.toArray 0) :: mu) gn s' → Q (.ref a) s') :
    wpAny (model prog w) A (call (.builtin "str.split") [.str x t, .str y u, .int k v]) Q E s := by
  have hn : (PySem.Builtin.Str.partsBetween x (PySem.Builtin.Str.occurrences x y 0 x.length (limitOf x k)) y.length).length ≤ sizeLine := by
    have e1 := StrLaws.occ_length_le_len x y 0 x.length (limitOf x k)
    rw [length_partsBetween]; omega
  have h2 : ∀ (l : List (Str × Tok)) (tk : Nat), 0 < tk → l.map (·.1) = Txt.splitMax x y k → Q (.ref s.heap.objs.size) { s with heap := s.heap.push (listOf (strValues l).toArray 0), toks := tk } :=
    fun l tk hp e => h _ _ (strValues l) (Nat.le_refl _) (e ▸ strsAre_of_values l) ((S.push _).tok tk hp)
  cases h1 : (decide (x.length < y.length) || decide (PySem.Builtin.Str.strKind x < PySem.Builtin.Str.strKind y))
  · cases hf : (PySem.Builtin.Str.occurrences x y 0 x.length (limitOf x k)).isEmpty
    · refine call_meets F.slot_str_split (typeIs_str _ _ _) F.entry_str_split (F.args_str_split_3 _ _ _) (meets_str_split_sep_max x y k t u v hk h1 hy hf (by omega) hn) ?_
      show wants Q E _ { s with toks := _, heap := s.heap.push { cls := .type "list", data := .seq (strsFrom s.toks (PySem.Builtin.Str.partsBetween x (PySem.Builtin.Str.occurrences x y 0 x.length (limitOf x k)) y.length)).toArray } }
      rw [strsFrom_eq]
      exact h2 (numbered s.toks _) _ (Nat.lt_of_lt_of_le S.tpos (Nat.le_add_right _ _)) ((numbered_texts _ _).trans ((if_neg (ne_true_of_eq_false h1)).trans (if_neg (ne_true_of_eq_false hf))).symm)
    · exact call_meets F.slot_str_split (typeIs_str _ _ _) F.entry_str_split (F.args_str_split_3 _ _ _) (meets_str_split_max_not_found x y k t u v hk h1 hy hf)
        (h2 [(x, t)] s.toks S.tpos ((if_neg (ne_true_of_eq_false h1)).trans (if_pos hf)).symm)
  · exact call_meets F.slot_str_split (typeIs_str _ _ _) F.entry_str_split (F.args_str_split_3 _ _ _) (meets_str_split_max_cannot_occur x y k t u v hk h1)
      (h2 [(x, t)] s.toks S.tpos (if_pos h1).symm)

/-- two items of a list to two names -/
theorem draw_list {it l : Addr} {items : Array Value} (hne : l ≠ it) : ∀ (n i : Nat) (s : Shared) (Q : List Value → Shared → Prop), s.heap.IsListIter it l i → s.heap.IsList l items → i + n ≤ items.size →
    (∀ h', h'.IsListIter it l (i + n) → Heap.SameBut it s.heap h' → Q ((items.toList.drop i).take n) { s with heap := h' }) → wpAny (model prog w) A (draw (.ref it) n) Q E s
  | 0, i, s, Q, hit, _, _, hQ => by
    show wpAny _ _ (pure []) Q E s
    exact wpAny_pure (by simpa using hQ s.heap hit (Heap.SameBut.refl ..))
  | n + 1, i, s, Q, hit, ht, hle, hQ => by
    have hlt : i < items.size := by omega
    show wpAny _ _ (pyNext (.ref it) >>= _) Q E s
    refine wpAny_bind (wpAny_pyNext_list_item hit ht (x := items[i]) (by simp [hlt]) fun h₁ hit₁ hs₁ => ?_)
    refine wpAny_bind (wpAny_holding (draw_list hne n (i + 1) _ _ hit₁ (ht.extBut hs₁.extBut hne) (by omega) fun h₂ hit₂ hs₂ => wpAny_pure ?_))
    have hd : items.toList.drop i = items[i] :: items.toList.drop (i + 1) := by simp [List.drop_eq_getElem_cons, hlt]
    have := hQ h₂ (by rw [show i + (n + 1) = i + 1 + n by omega]; exact hit₂) (hs₁.trans hs₂)
    rw [hd, List.take_succ_cons] at this
    exact this
theorem unpack_list {t : Addr} {items : Array Value} {Q : List Value → Shared → Prop} (hh : A.handled = none) (ht : s.heap.IsList t items)
    (hQ : ∀ h', Heap.ExtBut s.heap.objs.size s.heap h' → Q items.toList { s with heap := h' }) : wpAny (model prog w) A (unpackItems (.ref t) items.size none) Q E s := by
  have hlt : t ≠ s.heap.objs.size := by obtain ⟨o, ho, _⟩ := ht; exact Nat.ne_of_lt (Heap.lt_size ho)
  unfold unpackItems
  refine wpAny_bind ?_
  · unfold notIterableAtAll
    refine wpAny_bind (wpAny_specialOf ht.typeIs slot_list_iter.lookup ?_)
    refine wpAny_pure ?_
    simp only [Bool.false_eq_true, if_false]
    refine wpAny_bind (wpAny_holding (wpAny_pyIter_list ht ?_))
    refine wpAny_bind (wpAny_holding (draw_list hlt items.size 0 _ _ ⟨_, Heap.get?_push_size _ rfl, rfl, rfl⟩ (ht.push _) (by omega) fun h₁ hit₁ hs₁ => ?_))
    have hall : List.take items.size (List.drop 0 items.toList) = items.toList := by
      rw [List.drop_zero]; exact List.take_of_length_le (by simp)
    rw [hall]
    rw [if_neg (by simp)]
    have ht₁ : h₁.IsList t items := (ht.push _).extBut hs₁.extBut hlt
    refine wpAny_bind (wpAny_holding (wpAny_pyNext_list_end hh hit₁ ht₁ (by simp) fun h₂ he₂ => ?_))
    simp only [Option.isSome_none, Bool.false_eq_true, if_false]
    refine wpAny_pure (hQ h₂ fun b o hb e => he₂ b o hb (hs₁.extBut b o hb (Heap.get?_push_of_some _ e)))
theorem assign_list {elts : List Expr} {x1} {pos : Pos} {t : Addr} {items : Array Value} {Q : Unit → Shared → Prop} (hh : A.handled = none) (ht : s.heap.IsList t items)
    (hn : (assignEach elts env).length = items.size) (hstar : (assignEach elts env).findIdx? (·.1) = none)
    (h : ∀ h', Heap.ExtBut s.heap.objs.size s.heap h' → wpAny (model prog w) A (assignInOrder ((assignEach elts env).map (·.2)) items.toList) Q E { s with heap := h' }) :
    wpAny (model prog w) A (assign (.Tuple elts x1 pos) env (.ref t)) Q E s := by
  rw [arm_assign_Tuple]
  refine wpAny_bind (wpAny_standAt ?_)
  unfold unpack
  rw [hn, hstar]
  exact wpAny_bind (wpAny_holding (unpack_list hh ht h))
theorem as_two_list {x y : Str} {px py pos : Pos} {k : Nat} {t : Nat} {v₁ v₂ : Value} {Q : Unit → Shared → Prop} (hh : A.handled = none) (S : St s₀ ((L, m) :: ns) mu gn s) (hL : env.locals = L) (ht : s.heap.IsList t #[v₁, v₂])
    (h : ∀ s', St s₀ ((L, fun z => if z = y then some v₂ else if z = x then some v₁ else m z) :: ns) mu gn s' → Q () s')
    (hk : env.scope.kind = .function := by rfl) (hx : env.kindOf x = some .local := by rfl) (hy : env.kindOf y = some .local := by rfl) :
    wpAny (model prog w) A (assign (.Tuple [.Name x px, .Name y py] k pos) env (.ref t)) Q E s := by
  refine assign_list hh ht rfl rfl fun h' he => ?_
  have S₁ : St s₀ ((L, m) :: ns) mu gn { s with heap := h' } := S.keeps ⟨h', s.toks, rfl, fun b o e => he b o (Nat.ne_of_lt (get_lt e)) e⟩ S.tpos
  show wpAny _ _ (do holding _ (assign (.Name x px) env v₁); assignInOrder [assign (.Name y py) env] [v₂]) _ _ _
  refine wpAny_bind (wpAny_holding (as_loc S₁ hL (fun s₂ S₂ => ?_) hk hx))
  show wpAny _ _ (do holding _ (assign (.Name y py) env v₂); assignInOrder [] []) _ _ _
  exact wpAny_bind (wpAny_holding (as_loc S₂ hL (fun s₃ S₃ => wpAny_pure (h s₃ S₃)) hk hy))
theorem sub_str {value slice : Expr} {x : Str} {t u : Tok} {k : Int} {c : Nat} {Q : Value → Shared → Prop} (S : St s₀ ns mu gn s) (hk : (decide (k < -(2 ^ 63 : Int)) || decide (k ≥ 2 ^ 63)) = false) (hc : (seqIndex? k x.length).bind (x.cps[·]?) = some c)
    (h : ∀ s' t', St s₀ ns mu gn s' → Q (.str ⟨#[c]⟩ t') s')
    (hs : subscripted slice false (.str x t) (.int k u) = operate [.str x t, .int k u] (getItem (.str x t) (.int k u)) := by with_unfolding_all rfl) : wpAny (model prog w) A (subscriptTail value slice (.str x t) (.int k u)) Q E s :=
  tail_any (typeIs_str s x t) F.slot_str_getitem.lookup (P.getItem_str hk hc (h _ _ (S.tok _ (Nat.succ_pos _)))) hs
theorem u_neg {i : Int} {t : Tok} {Q : Value → Shared → Prop} (S : St s₀ ns mu gn s) (h : ∀ s' t', St s₀ ns mu gn s' → Q (.int (-i) t') s') : wpAny (model prog w) A (unaryOp .USub (.int i t)) Q E s :=
  P.neg_int (h _ _ (S.tok _ (Nat.succ_pos _)))
theorem sl_str {x : Str} {t u₁ u₂ : Tok} {i j : Int} {Q : Value → Shared → Prop} (S : St s₀ (q :: ns) mu gn s) (hsz : x.length ≤ sizeLine) (h : ∀ s' t', St s₀ (q :: ns) mu gn s' → Q (.str (Txt.slice x (some i) (some j)) t') s') :
    ∃ x' t' l u, Value.str x t = .str x' t' ∧ Value.int i u₁ = partValue l ∧ Value.int j u₂ = partValue u ∧
        (sliceMade x' t' l u none).post Q { s with heap := s.heap.push { cls := .type "slice", data := .fields #[.int i u₁, .int j u₂, .none] } } := by
  refine ⟨x, t, some (i, u₁), some (j, u₂), rfl, rfl, rfl, ?_⟩
  have S' := (S.push { cls := .type "slice", data := .fields #[.int i u₁, .int j u₂, .none] }).drop
  unfold sliceMade
  have key : ∀ c : Prop, [Decidable c] → ∀ z : Str, (Txt.slice x (some i) (some j) = if c then x else z) → (if c then Made.val (.str x t) else Made.str z).post Q { s with heap := s.heap.push { cls := .type "slice", data := .fields #[.int i u₁, .int j u₂, .none] } } := by
    intro c _ z e
    have hle := Txt.slice_le x (some i) (some j)
    rw [e] at hle
    by_cases hc : c
    · rw [if_pos hc] at e ⊢
      have := h _ t S'
      rw [e] at this
      exact this
    · rw [if_neg hc] at e hle ⊢
      have := h _ s.toks (S'.tok (s.toks + 1) (Nat.succ_pos _))
      rw [e] at this
      exact ⟨Nat.le_trans hle hsz, this⟩
  exact key _ _ rfl
end
end Mine

end

/-! ### part G4 -/
section
open PySem PySem.W PyProof.Rows
set_option maxRecDepth 100000
set_option maxHeartbeats 4000000
set_option linter.unusedVariables false
namespace Mine

local macro_rules | `(tactic| walk_at "m") => `(tactic| first
  | ((with_reducible show wpAny _ _ (execs (_ :: _) _) _ _ _); refine wpAny_execs_cons ?_)
  | ((with_reducible show wpAny _ _ (execs [] _) _ _ _); refine wpAny_execs_nil ?_)
  | ((with_reducible show wpAny _ _ (exec (Stmt.Assign [PySem.Expr.Name _ _] _ _) _) _ _ _); refine wpAny_Assign_Name ?_)
  | ((with_reducible show wpAny _ _ (exec (Stmt.AugAssign (PySem.Expr.Name _ _) _ _ _) _) _ _ _); refine wpAny_AugAssign_Name ?_)
  | ((with_reducible show wpAny _ _ (exec (Stmt.Return (some _) _) _) _ _ _); refine wpAny_Return_some ?_)
  | ((with_reducible show wpAny _ _ (exec (Stmt.If _ _ _ _) _) _ _ _); refine wpAny_If ?_)
  | ((with_reducible show wpAny _ _ (exec (Stmt.Continue _) _) _ _ _); refine wpAny_Continue ?_)
  | ((with_reducible show wpAny _ _ (eval (PySem.Expr.BinOp _ _ _ _) _) _ _ _); refine wpAny_BinOp ?_)
  | ((with_reducible show wpAny _ _ (isTrue (PySem.Expr.Name _ _) _ _) _ _ _); refine isTrue_plain ?_)
  | ((with_reducible show wpAny _ _ (isTrue (PySem.Expr.Compare _ [_] [_] _) _ _) _ _ _); refine wpAny_isTrue_Compare1 ?_)
  | ((with_reducible show wpAny _ _ (eval (PySem.Expr.Compare _ [_] [_] _) _) _ _ _); refine wpAny_Compare1 ?_)
  | ((with_reducible show wpAny _ _ (truthy (Value.bool _)) _ _ _); refine wpAny_truthy_bool ?_)
  | ((with_reducible show wpAny _ _ (eval (PySem.Expr.Constant (PySem.Const.int _) _ _) _) _ _ _); refine c_int (by assumption) ?_; intro s' t' S')
  | ((with_reducible show wpAny _ _ (eval (PySem.Expr.Constant (PySem.Const.str _) _ _) _) _ _ _); refine c_str (by assumption) ?_; intro s' t' S')
  | ((with_reducible show wpAny _ _ (eval (PySem.Expr.Constant (PySem.Const.bool _) _ _) _) _ _ _); refine c_bool ?_)
  | ((with_reducible show wpAny _ _ (eval (PySem.Expr.Constant PySem.Const.none _ _) _) _ _ _); refine c_none ?_)
  | ((with_reducible show wpAny _ _ (eval (PySem.Expr.Name _ _) _) _ _ _); refine ld_loc (by assumption) rfl (by first | rfl | assumption) ?_)
  | ((with_reducible show wpAny _ _ (loadName _ _) _ _ _); refine ldn_loc (by assumption) rfl (by first | rfl | assumption) ?_)
  | ((with_reducible show wpAny _ _ (eval (PySem.Expr.List _ _) _) _ _ _); refine List_ ?_)
  | ((with_reducible show wpAny _ _ (eval (PySem.Expr.Tuple _ _ _) _) _ _ _); refine Tuple_ ?_)
  | ((with_reducible show wpAny _ _ (eval (PySem.Expr.Subscript _ _ _) _) _ _ _); refine Subscript_ ?_)
  | ((with_reducible show wpAny _ _ (eval (PySem.Expr.Call (PySem.Expr.Name _ _) _ [] _) _) _ _ _); refine Call_ ?_)
  | ((with_reducible show wpAny _ _ (eval (PySem.Expr.Call (PySem.Expr.Attribute _ _ _) _ [] _) _) _ _ _); refine MethodCall_ ?_)
  | ((with_reducible show wpAny _ _ (spliced (backTo _ (starEach [] _))) _ _ _); refine args_nil ?_)
  | ((with_reducible show wpAny _ _ (spliced (backTo _ (starEach (_ :: _) _))) _ _ _); refine args_cons ?_)
  | ((with_reducible show wpAny _ _ (newList _) _ _ _); refine n_list (by assumption) (Nat.le_of_ble_eq_true rfl) ?_; intro s' a' ha' S')
  | ((with_reducible show wpAny _ _ (newTuple _) _ _ _); refine n_tuple (by assumption) (Nat.le_of_ble_eq_true rfl) ?_; intro s' a' ha' S')
  | ((with_reducible show wpAny _ _ (compareOp PySem.CmpOp.Eq (Value.str _ _) (Value.str _ _)) _ _ _); refine PyProof.Rows.eq_str ?_)
  | ((with_reducible show wpAny _ _ (binaryOp PySem.Operator.Mod (Value.int _ _) (Value.int _ _)) _ _ _); refine b_mod (by assumption) (by decide) ?_; intro s' t' S')
  | ((with_reducible show wpAny _ _ (binaryOp PySem.Operator.FloorDiv (Value.int _ _) (Value.int _ _)) _ _ _); refine b_div (by assumption) (by decide) (PyProof.noPylong_of_log2 (by decide +kernel)) ?_; intro s' t' S')
  | ((with_reducible show wpAny _ _ (storeName _ _ _) _ _ _); refine st_loc (by assumption) rfl ?_; intro s' S'))
def quoteOf (p : Str × Str) : Str := p.1 ++ ⟨#[61]⟩ ++ (⟨#[34]⟩ ++ p.2 ++ ⟨#[34]⟩)
def put (d : List (Str × Str)) (k v : Str) : List (Str × Str) := if d.any (fun kv => kv.1 = k) then d.map (fun kv => if kv.1 = k then (kv.1, v) else kv) else d ++ [(k, v)]
def keqv (ps : List (Str × Str)) : List (Str × Str) := ps.foldl (fun d p => put d p.1 p.2) []
def KV (kv : Str × Value) (p : Str × Str) : Prop := kv.1 = p.1 ∧ ∃ t, kv.2 = .str p.2 t
def DictL (prog : Program) (w : World) (h : Heap) (d : Nat) (kv : List (Str × Str)) : Prop := ∃ o kvs, h.get? d = some o ∧ o.IsDictOf (strKind prog w) kvs ∧ Paired KV kvs kv
theorem DictL.mono {prog : Program} {w : World} {h h' : Heap} {d : Nat} {kv : List (Str × Str)} (k : Sub h h') (x : DictL prog w h d kv) : DictL prog w h' d kv := let ⟨o, kvs, e, y⟩ := x; ⟨o, kvs, k _ _ e, y⟩

theorem paired_len {α β : Type} {F : α → β → Prop} : ∀ {l₁ : List α} {l₂ : List β}, Paired F l₁ l₂ → l₁.length = l₂.length
  | _, _, .nil => rfl
  | _, _, .cons _ t => congrArg (· + 1) (paired_len t)
theorem paired_snoc {α β : Type} {F : α → β → Prop} {a : α} {b : β} (h : F a b) : ∀ {l₁ : List α} {l₂ : List β}, Paired F l₁ l₂ → Paired F (l₁ ++ [a]) (l₂ ++ [b])
  | _, _, .nil => .cons h .nil
  | _, _, .cons h' t => .cons h' (paired_snoc h t)
theorem paired_any {k : Str} : ∀ {kvs : List (Str × Value)} {d : List (Str × Str)}, Paired KV kvs d → (kvs.any fun kv => decide (kv.1 = k)) = d.any fun kv => decide (kv.1 = k)
  | _, _, .nil => rfl
  | _, _, .cons (a := a) (b := b) h t => by
    simp only [List.any_cons, paired_any t, h.1]
theorem paired_map {k v : Str} {t : Tok} : ∀ {kvs : List (Str × Value)} {d : List (Str × Str)}, Paired KV kvs d → Paired KV (kvs.map fun kv => if kv.1 = k then (kv.1, .str v t) else kv) (d.map fun kv => if kv.1 = k then (kv.1, v) else kv)
  | _, _, .nil => .nil
  | _, _, .cons (a := a) (b := b) h r => by
    refine .cons ?_ (paired_map r)
    dsimp only
    by_cases e : a.1 = k
    · rw [if_pos e, if_pos (h.1 ▸ e)]
      exact ⟨h.1, t, rfl⟩
    · rw [if_neg e, if_neg (fun e' => e (h.1.trans e'))]
      exact h
theorem paired_stored {k v : Str} {t : Tok} {kvs : List (Str × Value)} {d : List (Str × Str)} (h : Paired KV kvs d) : Paired KV (stored kvs k (.str v t)) (put d k v) := by
  unfold stored put
  rw [paired_any h]
  split
  · exact paired_map h
  · exact paired_snoc ⟨rfl, t, rfl⟩ h
theorem put_len (d : List (Str × Str)) (k v : Str) : (put d k v).length ≤ d.length + 1 := by
  unfold put
  split
  · simp
  · simp
theorem keqv_snoc (l : List (Str × Str)) (p : Str × Str) : keqv (l ++ [p]) = put (keqv l) p.1 p.2 := by simp [keqv]
theorem keqv_len' : ∀ (ps d : List (Str × Str)), (ps.foldl (fun d p => put d p.1 p.2) d).length ≤ d.length + ps.length
  | [], d => Nat.le_refl _
  | p :: r, d => by
    have h1 := keqv_len' r (put d p.1 p.2)
    have h2 := put_len d p.1 p.2
    rw [List.foldl_cons, List.length_cons]; omega
theorem keqv_len (ps : List (Str × Str)) : (keqv ps).length ≤ ps.length := by have := keqv_len' ps []; rw [List.length_nil, Nat.zero_add] at this; exact this
theorem strs_two {vs : List Value} {a b : Str} (h : StrsAre vs [a, b]) : ∃ t u, vs = [.str a t, .str b u] := by
  cases h with
  | cons y t h => cases h with
    | cons z u h => cases h; exact ⟨t, u, rfl⟩

theorem quoted_len (w : Str) : (⟨#[34]⟩ ++ w ++ ⟨#[34]⟩ : Str).length = w.length + 2 := by
  rw [Str.length_append, Str.length_append]; show 1 + _ + 1 = _; omega
theorem quoted_0 (w : Str) : (seqIndex? 0 (⟨#[34]⟩ ++ w ++ ⟨#[34]⟩ : Str).length).bind ((⟨#[34]⟩ ++ w ++ ⟨#[34]⟩ : Str).cps[·]?) = some 34 := by
  rw [quoted_len]
  have h0 : seqIndex? 0 (w.length + 2) = some 0 := by
    unfold seqIndex?
    simp; omega
  rw [h0]
  show (⟨#[34]⟩ ++ w ++ ⟨#[34]⟩ : Str).cps[0]? = _
  rw [← Array.getElem?_toList]
  simp [Str.cps_append]
theorem quoted_1 (w : Str) : (seqIndex? (-1) (⟨#[34]⟩ ++ w ++ ⟨#[34]⟩ : Str).length).bind ((⟨#[34]⟩ ++ w ++ ⟨#[34]⟩ : Str).cps[·]?) = some 34 := by
  rw [quoted_len]
  have h0 : seqIndex? (-1) (w.length + 2) = some (w.length + 1) := by
    unfold seqIndex?
    have e1 : (-1 + ((w.length + 2 : Nat) : Int)) = ((w.length + 1 : Nat) : Int) := by omega
    simp only [show (-1 : Int) < 0 by decide, if_true, e1]
    simp; omega
  rw [h0]
  show (⟨#[34]⟩ ++ w ++ ⟨#[34]⟩ : Str).cps[w.length + 1]? = _
  rw [← Array.getElem?_toList]
  have e : (⟨#[34]⟩ ++ w ++ ⟨#[34]⟩ : Str).cps.toList = (34 :: w.cps.toList) ++ [34] := by simp [Str.cps_append]
  rw [e, show w.length + 1 = (34 :: w.cps.toList).length by simp [Str.length], List.getElem?_append_right (Nat.le_refl _)]
  simp
def KeyOk (p : Str × Str) : Prop := 61 ∉ p.1.cps.toList ∧ p.1.length ≤ 100 ∧ p.2.length ≤ 100
section
variable {prog : Program} {w : World} {A : Around} {s : Shared}
theorem keqv_spec {l : Nat} {ps : List (Str × Str)} (hh : A.handled = none) (hroom : A.depth < recursionLimit) (D : Gd (KK w.params) s.heap) (hp : StrsL s.heap l (ps.map quoteOf)) (hs : ∀ p ∈ ps, KeyOk p) (hn : ps.length ≤ 100) :
    codeAny (model prog w) A (.call (.ref 65) ⟨[.ref l], []⟩) (fun r s' => ∃ d : Nat, r = .ok (.ret (.ref d)) ∧ Keeps s s' ∧ s.heap.objs.size ≤ d ∧ DictL prog w s'.heap d (keqv ps)) s := by
  obtain ⟨vs, n, hl, hv⟩ := hp
  refine enter (binds := [(Str.ofString "l", .ref l)]) D hroom rfl rfl rfl rfl (Nat.succ_pos _) fun L s' S => ?_
  repeat walk_at "m"
  refine n_dict (by assumption) fun s₁ d o hd0 ho S₁ => ?_
  repeat walk_at "m"
  refine exec_for ?_
  walk_at "m"
  refine it_list (by assumption) (.inl hl) rfl ⟨_, rfl⟩ ?_ hh
  intro I oI s₂ hh' S₂ hT W
  refine for_st W goOk_name (fun i ns' mu' gn' => ∃ m' d o kvs, ns' = [(L, m')] ∧ mu' = [(d, o)] ∧ m' (Str.ofString "parsed") = some (.ref d) ∧ o.IsDictOf (strKind prog w) kvs ∧ Paired KV kvs (keqv (ps.take i))) S₂ hT
    ⟨_, _, _, _, rfl, rfl, rfl, ho, .nil⟩ ?_ ?_
  · rintro i v ns' mu' gn' oI' s₃ hi hP hg ⟨m', d', o', kvs, rfl, rfl, hm, ho', hk⟩ S₃
    obtain ⟨y, t, rfl, hy⟩ := StrsAre.at hv i v (by simpa using hP)
    rw [List.getElem?_map] at hy
    obtain ⟨p, hp, rfl⟩ := Option.map_eq_some_iff.mp hy
    obtain ⟨hk61, hk1, hk2⟩ := hs p (List.mem_of_getElem? hp)
    have hq : (⟨#[34]⟩ ++ p.2 ++ ⟨#[34]⟩ : Str).length = p.2.length + 2 := by
      rw [Str.length_append, Str.length_append]; show 1 + _ + 1 = _; omega
    have hql : (quoteOf p).length ≤ 300 := by
      unfold quoteOf
      rw [Str.length_append, Str.length_append, hq]; show _ + 1 + _ ≤ _; omega
    have hkl := paired_len hk
    have hkl2 := keqv_len (ps.take i)
    have hkl3 : (ps.take i).length ≤ ps.length := by simp; omega
    unfold forGo
    refine as_loc S₃ rfl fun s₄ S₄ => ?_
    walk_at "m"
    refine Assign_Tuple ?_
    repeat walk_at "m"
    refine GM.split ?_
    refine callWith_method1 ?_
    repeat walk_at "m"
    refine f_split1 (by assumption) (by decide) (by decide) (by rw [sizeLine_eq]; omega) fun s₅ a vs₅ ha hvs S₅ => ?_
    have hsp : Txt.splitMax (quoteOf p) (Str.ofString "=") 1 = [p.1, ⟨#[34]⟩ ++ p.2 ++ ⟨#[34]⟩] := by
      rw [show Str.ofString "=" = ⟨#[61]⟩ from by decide]
      exact split_one hk61 (by simp [PySem.Builtin.Str.strKind])
    rw [hsp] at hvs
    obtain ⟨t₁, t₂, rfl⟩ := strs_two hvs
    refine as_two_list hh S₅ rfl (isList_of S₅.mu0) fun s₆ S₆ => ?_
    have S₇ := S₆.drop
    walk_at "m"
    walk_at "m"
    refine isTrue_and ?_
    repeat walk_at "m"
    have hc0 := quoted_0 p.2
    have hc1 := quoted_1 p.2
    refine sub_str (by assumption) (by decide) hc0 ?_; intro s' t' S'
    repeat walk_at "m"
    refine ite_pos (by decide) ?_
    refine isTrue_and ?_
    repeat walk_at "m"
    refine wpAny_UnaryOp ?_
    repeat walk_at "m"
    refine u_neg (by assumption) ?_; intro s' t' S'
    refine sub_str (by assumption) (by decide) hc1 ?_; intro s' t' S'
    repeat walk_at "m"
    refine ite_pos (by decide) ?_
    refine isTrue_and_nil ?_
    refine ite_pos rfl ?_
    walk_at "m"
    walk_at "m"
    refine wpAny_Subscript_str_slice ?_
    repeat walk_at "m"
    refine wpAny_evalPart_some ?_
    repeat walk_at "m"
    refine wpAny_evalPart_some ?_
    refine wpAny_UnaryOp ?_
    repeat walk_at "m"
    refine u_neg (by assumption) ?_; intro s' t' S'
    refine sl_str (by assumption) (by rw [sizeLine_eq]; omega) ?_; intro s' t' S'
    repeat walk_at "m"
    rw [slice_quoted rfl rfl] at *
    refine wpAny_Assign_Subscript ?_
    repeat walk_at "m"
    refine f_setItem (St.swap (by assumption)) ho' (by rw [sizeLine_eq]; omega) fun s₈ o₈ ho₈ S₈ => ?_
    repeat walk_at "m"
    have S₉ := S₈.swap
    clear S₈
    refine ⟨_, _, _, Sub.refl _, ?_, S₉⟩
    refine ⟨_, _, _, _, rfl, rfl, hm, ho₈, ?_⟩
    rw [List.take_add_one, hp]
    show Paired KV _ (keqv (ps.take i ++ [p]))
    rw [keqv_snoc]
    exact paired_stored hk
  · rintro ns' mu' gn' s₃ hg ⟨m', d', o', kvs, rfl, rfl, hm, ho', hk⟩ S₃
    have hvl := StrsAre.length hv
    rw [Array.length_toList, List.length_map] at hvl
    rw [hvl, List.take_length] at hk
    repeat walk_at "m"
    exact ⟨d', rfl, S₃.keepsAll, S₃.anew _ (by simp), o', kvs, S₃.mu0, ho', hk⟩
end
end Mine

end

/-! ### part F6 -/
section
open PySem PySem.W PyProof.Rows
set_option maxRecDepth 100000
set_option maxHeartbeats 3200000
set_option linter.unusedVariables false
namespace Mine

def memF (ys : List Str) (i : Nat) : Str → Bool := fun k => (ys.take i).any fun y => decide (k = y)
theorem memF_succ {ys : List Str} {i : Nat} {y : Str} (h : ys[i]? = some y) (k : Str) : memF ys (i + 1) k = (memF ys i k || decide (k = y)) := by
  unfold memF
  rw [List.take_add_one, h, List.any_append]
  simp
theorem strs_at : ∀ {vs : List Value} {ys : List Str}, StrsAre vs ys → ∀ (i : Nat) v, vs[i]? = some v → ∃ y t, v = .str y t ∧ ys[i]? = some y := StrsAre.at

section
variable {prog : Program} {w : World} {A : Around} {R : Result → Shared → Prop} {I : Addr} {fp wr : List Addr} {G : Array GenState → Array GenState → Prop} {n : Nat} {P : Nat → Value → Prop} {T : Nat → Shared → Prop}

theorem set_loop (W : WalksS prog w A.in1 I fp wr G n P T) (S : Addr) (hSf : S ∉ fp) (ys : List Str) (hval : ∀ i v, P i v → ∃ y t, v = .str y t ∧ ys[i]? = some y) (hb : n + 1 < scanBound) :
    ∀ (k i : Nat) (s : Shared), n - i = k → i ≤ n → T i s → (∃ m, m ≤ i ∧ s.heap.SetOf (strKind prog w) S (memF ys i) m) →
      (∀ s', Moved (S :: wr) G s s' → (∃ m, s'.heap.SetOf (strKind prog w) S (memF ys n) m) → R (.ok (.ret .none)) s') →
      codeAny (model prog w) A (.builtin "set.update.loop" ⟨[.ref S, .ref I], []⟩) R s := by
  have hSw : S ∉ wr := fun h => hSf (W.sub _ h)
  have hsub : ∀ b ∈ wr, b ∈ S :: wr := fun b hb => List.mem_cons_of_mem _ hb
  intro k
  induction k with
  | zero =>
    intro i s hk hi hst hS hR
    have hin : i = n := by omega
    subst hin
    refine codeAny_builtin F.entry_set_update_loop ?_
    rw [Around.under_plainId F.plain_set_update_loop _]
    show wpAny _ A.in1 (pyNext (.ref I) >>= _) _ _ s
    refine wpAny_bind (W.done s _ _ hst fun s' hm => ?_)
    show wpAny _ A.in1 (ret Value.none) _ _ s'
    obtain ⟨m, _, o, es, ep, t, ho, rest⟩ := hS
    exact wpAny_pure (hR s' (hm.mono hsub) ⟨m, o, es, ep, t, hm.heap S _ hSw ho, rest⟩)
  | succ k ih =>
    intro i s hk hi hst hS hR
    have hlt : i < n := by omega
    refine codeAny_builtin F.entry_set_update_loop ?_
    rw [Around.under_plainId F.plain_set_update_loop _]
    show wpAny _ A.in1 (pyNext (.ref I) >>= _) _ _ s
    refine wpAny_bind (W.item i s _ _ hlt hst fun v s' hP hst' hm => ?_)
    obtain ⟨y, t, rfl, hy⟩ := hval i v hP
    obtain ⟨m, hmi, o, es, ep, tb, ho, rest⟩ := hS
    have hS' : s'.heap.SetOf (strKind prog w) S (memF ys i) m := ⟨o, es, ep, tb, hm.heap S _ hSw ho, rest⟩
    show wpAny _ A.in1 (holding [Value.str y t] (setAdd S (.str y t)) >>= _) _ _ s'
    refine wpAny_bind (wpAny_holding ?_)
    unfold setAdd
    refine wpAny_holding ?_
    refine wpAny_bind ((strKind prog w).pyHash (k := y) (strKind_is _ _ _ _) ?_)
    refine wpAny_setAddHashed_of (knd := strKind prog w) (s := { s' with toks := s'.toks + 1 }) (strKind_is _ _ _ _) rfl hS' (by omega) fun h' hsb hS2 => ?_
    have hSi : ∃ m', m' ≤ i + 1 ∧ h'.SetOf (strKind prog w) S (memF ys (i + 1)) m' := by
      have e : (fun k' => memF ys i k' || decide (k' = y)) = memF ys (i + 1) := funext fun k' => (memF_succ hy k').symm
      rw [e] at hS2
      refine ⟨_, ?_, hS2⟩
      split <;> omega
    refine wpAny_pure ⟨plainId_quiet F.plain_set_update_loop _, ih (i + 1) _ (by omega) hlt (W.frame _ s' _ _ hst' (Nat.le_succ _) fun b hb o e => ?_) hSi fun s'' hm'' hS'' => ?_⟩
    · rw [hsb.2 b (fun h : b = S => hSf (by rw [← h]; exact hb))]; exact e
    · refine hR s'' (Moved.trans W.gtrans ((hm.mono hsub).then_heap (Nat.le_succ _) fun b o hb e => ?_) hm'') hS''
      rw [hsb.2 b (fun h : b = S => hb (by rw [h]; exact List.mem_cons_self))]; exact e
end

section
variable {prog : Program} {w : World} {A : Around} {E : Value → Shared → Prop} {s : Shared}
theorem call_set_strs {l : Addr} {items : Array Value} {ys : List Str} {Q : Value → Shared → Prop}
    (hh : A.handled = none) (hl : s.heap.IsList l items) (hi : StrsAre items.toList ys) (hb : items.size + 1 < scanBound)
    (h : ∀ (h' : Heap) (tk : Nat), s.toks ≤ tk → (∃ m, h'.SetOf (strKind prog w) s.heap.objs.size (memF ys items.size) m) →
      (∀ b o, b < s.heap.objs.size → s.heap.get? b = some o → h'.get? b = some o) → Q (.ref s.heap.objs.size) { s with heap := h', toks := tk }) :
    wpAny (model prog w) A (call (.type "set") [.ref l]) Q E s := by
  obtain ⟨c, tl, hmro⟩ := F.called_set.mro
  have hmade := F.called_set.made
  have hsub := F.called_set.sub
  refine wpAny_call (codeAny_of_tree ?_)
  show wpAny _ _ (callAny (.type "set") _) _ _ _
  refine wpAny_pure ⟨Code.quiet_builtin _ (by decide +kernel), codeAny_builtin F.entry_type_call ?_⟩
  rw [Around.under_plain (weight_type_call_type "set" [.ref l] []) rfl]
  have h1 := F.called_set.notType
  have h2 := F.called_set.canCreate
  have hct := F.typeCall_set_1 (.ref l)
  repeat (any_goals (first | assumption | wp_step))
  refine codeAny_mono (code_set_new_1 (.ref l) (E := E) (Q₁ := fun obj s₁ => ∃ led : Bool, obj = .ref s.heap.objs.size ∧ s₁ = { s with heap := s.heap.push { cls := .type "set", dict := none, data := .set #[] 0 (.fresh 0 0 led) } }) fun led => ⟨led, rfl, rfl⟩) fun r s₁ hr => ?_
  cases r with
  | error e => exact hr
  | ok fl =>
    cases fl with
    | ret obj =>
      obtain ⟨led, rfl, rfl⟩ := hr
      have hS : (s.heap.push { cls := .type "set", dict := none, data := .set #[] 0 (.fresh 0 0 led) }).get? s.heap.objs.size = some { cls := .type "set", dict := none, data := .set #[] 0 (.fresh 0 0 led) } := Heap.get?_push_size _ rfl
      have hT : Shared.TypeIs { s with heap := s.heap.push { cls := .type "set", dict := none, data := .set #[] 0 (.fresh 0 0 led) } } (.ref s.heap.objs.size) "set" := ⟨_, hS, rfl⟩
      have hli := F.called_set.init.lookup
      have hbi := F.called_set.init.bind (.ref s.heap.objs.size)
      repeat (any_goals (first | assumption | wp_step))
      refine codeAny_mono (codeAny_call_builtin (R := wants (fun r s₂ => r = .none ∧ ∃ h' tk, s₂ = { s with heap := h', toks := tk } ∧ s.toks ≤ tk ∧ (∃ m, h'.SetOf (strKind prog w) s.heap.objs.size (memF ys items.size) m) ∧
          (∀ b o, b < s.heap.objs.size → s.heap.get? b = some o → h'.get? b = some o)) E) F.called_set.init.plain F.entry_set_init (check_set_init_1 hT ?_)) fun r₂ s₂ hr₂ => ?_
      · obtain ⟨ol, hol, hcl, nl, hdl⟩ := hl
        obtain ⟨ocls, odict, odata, oslots⟩ := ol
        simp only at hcl hdl
        subst hcl; subst hdl
        have hol' : (s.heap.push { cls := .type "set", dict := none, data := .set #[] 0 (.fresh 0 0 led) }).get? l = some { cls := .type "list", dict := odict, data := .seq items nl, slots := oslots } := Heap.get?_push_of_some _ hol
        have hsls := F.sub_list_set
        have hslf := F.sub_list_frozenset
        have hne : (Value.type "list" == Value.type "dict") = false := by decide
        have hl1 : (s.heap.push { cls := .type "set", dict := none, data := .set #[] 0 (.fresh 0 0 led) }).IsList l items := ⟨_, hol', rfl, nl, rfl⟩
        unfold Builtin.«set.__init__» noKeywords Builtin.Frozenset.updateFrom
        generalize hPI : pyIter = PI
        wp_walk
        subst hPI
        refine wpAny_pyIter_list hl1 ?_
        refine wpAny_bind (wpAny_runValue ?_)
        have hlS : l < s.heap.objs.size := Heap.lt_size hol
        have hh3 : A.in1.in1.in1.handled = none := by simp [hh]
        have hneI : l ≠ (s.heap.push { cls := .type "set", dict := none, data := .set #[] 0 (.fresh 0 0 led) }).objs.size := by
          rw [Heap.size_push]; exact Nat.ne_of_lt (Nat.lt_succ_of_lt hlS)
        have hSf : s.heap.objs.size ∉ [(s.heap.push { cls := .type "set", dict := none, data := .set #[] 0 (.fresh 0 0 led) }).objs.size, l] := by
          rw [Heap.size_push]; simp only [List.mem_cons, List.mem_singleton, List.not_mem_nil, or_false, not_or]
          exact ⟨Nat.ne_of_lt (Nat.lt_succ_self _), Nat.ne_of_gt hlS⟩
        have hval : ∀ (i : Nat) (v : Value), items[i]? = some v → ∃ y t, v = .str y t ∧ ys[i]? = some y := fun i v hv => strs_at hi i v (by rw [Array.getElem?_toList]; exact hv)
        refine set_loop ((Walks.list hh3 _ l hneI items).toS) s.heap.objs.size hSf ys hval hb (items.size - 0) 0 _ (by omega) (Nat.zero_le _) ⟨⟨_, Heap.get?_push_size _ rfl, rfl, rfl⟩, (hl1.push _)⟩ ?hS0 ?hR
        case hS0 =>
          have hget : ((s.heap.push { cls := .type "set", dict := none, data := .set #[] 0 (.fresh 0 0 led) }).push { cls := .type "list_iterator", data := .fields #[.ref l, .int 0 0] }).get? s.heap.objs.size
              = some { cls := .type "set", dict := none, data := .set #[] 0 (.fresh 0 0 led) } := Heap.get?_push_of_some _ hS
          exact ⟨0, Nat.le_refl _, (setObjOf_fresh (knd := strKind prog w) led).setOf hget (by unfold scanBound; omega)⟩
        case hR =>
          intro s' hm hS'
          obtain ⟨h', g', d', tk', os'⟩ := s'
          have eg : g' = s.gens := hm.gens
          have ed : d' = s.drawn := hm.drawn
          have eo : os' = s.os := hm.os
          have et : s.toks ≤ tk' := hm.toks
          subst eg; subst ed; subst eo
          show wpAny _ _ _ _ _ _
          refine wpAny_pure ?_
          show wpAny _ _ (ret Value.none) _ _ _
          refine wpAny_pure ⟨rfl, h', tk', rfl, et, hS', fun b o hb e => ?_⟩
          have hb1 : b ≠ s.heap.objs.size := Nat.ne_of_lt hb
          have hb2 : b ≠ (s.heap.push { cls := .type "set", dict := none, data := .set #[] 0 (.fresh 0 0 led) }).objs.size := by
            rw [Heap.size_push]; exact Nat.ne_of_lt (Nat.lt_succ_of_lt hb)
          exact hm.heap b o (by simp only [List.mem_cons, List.mem_singleton, List.not_mem_nil, or_false, not_or]; exact ⟨hb1, hb2⟩) (Heap.get?_push_of_some _ (Heap.get?_push_of_some _ e))
      · cases r₂ with
        | error e => exact hr₂
        | ok fl₂ =>
          cases fl₂ with
          | ret r =>
            obtain ⟨rfl, h', tk, rfl, et, hS', hk'⟩ := hr₂
            repeat (any_goals (first | assumption | wp_step))
            exact h _ _ et hS' hk'
          | _ => exact hr₂.elim
    | _ => exact hr.elim
end
end Mine

end

/-! ### part F7 -/
section
open PySem PySem.W PyProof.Rows
set_option maxRecDepth 100000
set_option maxHeartbeats 1000000
set_option linter.unusedVariables false
namespace Mine

def boundC (a : Nat) : Obj := { cls := .type "builtin_function_or_method", data := .fields #[.builtin "set.__contains__", .ref a] }
theorem slot_md : Slot "method_descriptor" "__get__" "method_descriptor.__get__" :=
  .of (owner := "method_descriptor") (n := "__get__") (by rw [typeLookup_type, builtinLookup_eq_fast]; kernel_rfl) (by decide +kernel) (by decide +kernel) (by decide +kernel)
    (by first | exact .inl (by decide +kernel) | exact .inr (by decide +kernel)) (by rw [isSubtype_type]; kernel_rfl)
theorem entry_md : entryFor table "method_descriptor.__get__" = some Builtin.«method_descriptor.__get__» := entryFor_of_tree (by kernel_rfl)
theorem args_md (a b c : Value) : argsOk "method_descriptor.__get__" ⟨[a, b, c], []⟩ := by unfold argsOk; kernel_rfl
theorem told_no : Manifest.toldItsClass.contains "set.__contains__" = false := by decide +kernel
theorem no_set_md : typeLookup (.type "method_descriptor") "__set__" = pure none := by rw [typeLookup_type, builtinLookup_eq_fast]; kernel_rfl
theorem no_del_md : typeLookup (.type "method_descriptor") "__delete__" = pure none := by rw [typeLookup_type, builtinLookup_eq_fast]; kernel_rfl

theorem owner_sc : (".".intercalate ("set.__contains__".cutAt '.').dropLast) = "set" := by first | decide +kernel | kernel_rfl
theorem sub_set_owner : isSubtype (.type "set") (.type (".".intercalate ("set.__contains__".cutAt '.').dropLast)) = pure true := by
  rw [owner_sc]; exact sub_set_self
section
variable {prog : Program} {w : World} {A : Around} {E : Value → Shared → Prop} {s : Shared} {a : Nat} {h : Heap} {g : Array GenState} {d : Drawn} {t : Nat} {os : OsState} {o : Obj}
theorem md_get {R : Result → Shared → Prop} (hx : h.get? a = some o) (hc : o.cls = .type "set") (hq : R (.ok (.ret (.ref h.objs.size))) ⟨h.push (boundC a), g, d, t, os⟩) :
    codeAny (model prog w) A (.call (.builtin "method_descriptor.__get__") ⟨[.builtin "set.__contains__", .ref a, .type "set"], []⟩) R ⟨h, g, d, t, os⟩ := by
  have hT : (⟨h, g, d, t, os⟩ : Shared).TypeIs (.ref a) "set" := ⟨_, hx, hc⟩
  have hT5 : (⟨h, g, d, t, os⟩ : Shared).TypeIs (.builtin "set.__contains__") "method_descriptor" := F.type_set_contains
  refine codeAny_call_builtin slot_md.plain entry_md (slot_md.check _ _ _ _ _ _ _ _ hT5 (args_md _ _ _) ?_)
  have hto := told_no
  have hss := sub_set_self
  have f8 := sub_set_owner
  repeat (any_goals (first | assumption | wp_step))

theorem cn_entry {tk : Tok} {es : Array (Int × Value)} {ep : Nat} {tb : SetTable} {Q : Fin → Shared → Prop} (hx : h.get? a = some { cls := .type "set", dict := none, data := .set es ep tb, slots := #[] }) (hq : Q (.done (.ret (.ref h.objs.size))) ⟨h.push (boundC a), g, d, t, os⟩) :
    wpAny (model prog w) A (Builtin.«object.__getattribute__» ⟨[.ref a, .str "__contains__" tk], []⟩) Q E ⟨h, g, d, t, os⟩ := by
  have hT : (⟨h, g, d, t, os⟩ : Shared).TypeIs (.ref a) "set" := ⟨_, hx, rfl⟩
  have hT5 : (⟨h, g, d, t, os⟩ : Shared).TypeIs (.builtin "set.__contains__") "method_descriptor" := F.type_set_contains
  have f4 := F.slot_set_contains.lookup
  have f5 := F.type_set_contains
  have f6 := slot_md.lookup
  have f7 := no_set_md
  have f8 := no_del_md
  repeat (any_goals (first | assumption | wp_step))
  refine md_get hx rfl ?_
  repeat (any_goals (first | assumption | wp_step))

theorem cn_call {tk : Tok} {es : Array (Int × Value)} {ep : Nat} {tb : SetTable} {R : Result → Shared → Prop} (hx : h.get? a = some { cls := .type "set", dict := none, data := .set es ep tb, slots := #[] }) (hq : R (.ok (.ret (.ref h.objs.size))) ⟨h.push (boundC a), g, d, t, os⟩) :
    codeAny (model prog w) A (.call (.builtin "set.__getattribute__") ⟨[.ref a, .str "__contains__" tk], []⟩) R ⟨h, g, d, t, os⟩ :=
  codeAny_call_builtin F.slot_set_getattribute.plain F.entry_set_ga (F.slot_set_getattribute.check _ _ _ _ _ _ _ _ (show (⟨h, g, d, t, os⟩ : Shared).TypeIs (.ref a) "set" from ⟨_, hx, rfl⟩) (F.args_set_getattribute_2 _ _) (cn_entry hx hq))

theorem cn_by {tk : Tok} {es : Array (Int × Value)} {ep : Nat} {tb : SetTable} {Q : Value → Shared → Prop} (hx : h.get? a = some { cls := .type "set", dict := none, data := .set es ep tb, slots := #[] })
    (hq : Q (.ref h.objs.size) ⟨h.push (boundC a), g, d, t, os⟩) : wpAny (model prog w) A (getAttrBy (.ref a) (.str "__contains__" tk) true true) Q E ⟨h, g, d, t, os⟩ := by
  have hT : (⟨h, g, d, t, os⟩ : Shared).TypeIs (.ref a) "set" := ⟨_, hx, rfl⟩
  have f2 := F.slot_set_getattribute.lookup
  have f3 := F.slot_set_getattribute.bind (.ref a)
  repeat (any_goals (first | assumption | wp_step))
  refine cn_call hx ?_
  have hb : (h.push (boundC a)).get? h.objs.size = some { cls := .type "builtin_function_or_method", data := .fields #[.builtin "set.__contains__", .ref a] } := Heap.get?_push_size _ rfl
  repeat (any_goals (first | assumption | wp_step))
theorem cn_get {n : Nat} {S : Str → Bool} {Q : Value → Shared → Prop} (hS : s.heap.SetOf (strKind prog w) a S n) (hq : Q (.ref s.heap.objs.size) { s with heap := s.heap.push (boundC a), toks := s.toks + 1 }) :
    wpAny (model prog w) A (getAttr (.ref a) "__contains__" true) Q E s := by
  obtain ⟨⟨oc, od, oda, osl⟩, es, ep, tb, ho, ⟨e1, e2, e3⟩, hd, _⟩ := hS
  dsimp only at e1 e2 e3 hd
  subst e1; subst e2; subst e3; subst hd
  obtain ⟨h, g, d, t, os⟩ := s
  unfold getAttr
  exact wpAny_bind (wpAny_mkText (cn_by ho hq))
theorem attr_any {value : Expr} {attr : Str} {pos : Pos} {env : Env} {Q : Value → Shared → Prop} (h : wpAny (model prog w) A (eval value env) (fun o s₁ => wpAny (model prog w) A (getAttr o attr true) Q E s₁) E s)
    (hb : attributeBase value attr env (eval value env) = eval value env := by rfl) : wpAny (model prog w) A (eval (.Attribute value attr pos) env) Q E s := by
  rw [arm_eval_Attribute, hb]
  exact wpAny_bind (wpAny_mono h (fun o s₁ h₁ => wpAny_bind (wpAny_standAt (wpAny_bind (wpAny_holding (wpAny_mono h₁ (fun r s₂ h₂ => wpAny_bind (wpAny_letTemporaryGo (wpAny_pure h₂))) fun _ _ y => y))))) fun _ _ y => y)
theorem quiet_sc {as : Args} : (Code.builtin "set.__contains__" as).quiet = true := Code.quiet_builtin _ (by decide +kernel)
/-- the bound method of a set, called -/
theorem cn_in {b n : Nat} {S : Str → Bool} {y : Str} {t : Tok} {Q : Value → Shared → Prop} (hb : s.heap.get? b = some (boundC a)) (hS : s.heap.SetOf (strKind prog w) a S n) (hq : Q (.bool (S y)) { s with toks := s.toks + 1 }) :
    wpAny (model prog w) A (call (.ref b) [.str y t]) Q E s := by
  refine wpAny_call (codeAny_of_tree ?_)
  show wpAny _ A.in1 (callAny (.ref b) ⟨[.str y t], []⟩) _ _ s
  simp only [callAny]
  refine wpAny_bind (wpAny_load hb ?_)
  have hT := hS.typeIs
  unfold boundC
  dsimp only
  rw [if_pos (by decide)]
  show wpAny _ A.in1 (if (Value.type "builtin_function_or_method" != Value.type "method") = true then (checkBoundCall "set.__contains__" ⟨[.ref a, .str y t], []⟩ >>= fun _ => again (.builtin "set.__contains__" ⟨[.ref a, .str y t], []⟩)) else _) _ _ s
  rw [if_pos (by decide)]
  refine wpAny_bind ?_
  have hk : builtinKind "set.__contains__" = some .method := by kernel_rfl
  have hsig : Manifest.signature? "set.__contains__" = some ⟨.oneArg, "set.__contains__", "__contains__", .self, [⟨"object", .posOnly, true⟩]⟩ := by
    rw [signature?_of (id := "set.__contains__") (n := ['_', '_', 's', 'n', 'i', 'a', 't', 'n', 'o', 'c', '_', '_']) (o := ['t', 'e', 's']) (by kernel_rfl) F.owner_set]; kernel_rfl
  have hm : isSubtype (.type "set") (.type "module") = pure false := by rw [isSubtype_type]; kernel_rfl
  have hva : Manifest.varargsMethods.contains "set.__contains__" = false := by decide +kernel
  have hca : Bind.checkArgs "set.__contains__" ⟨.oneArg, s!"{Bind.lastOf "set"}.{Bind.lastOf "set.__contains__"}", "__contains__", .self, [⟨"object", .posOnly, true⟩]⟩ ⟨[.ref a, .str y t], []⟩ = pure () := by kernel_rfl
  have hent : ∀ Q₂ : PySem.Fin → Shared → Prop, (∀ fin s', fin = .done (.ret (.bool (S y))) → s' = { s with toks := s.toks + 1 } → Q₂ fin s') → wpAny (model prog w) A.in1 (Builtin.«frozenset.__contains__» ⟨[.ref a, .str y t], []⟩) Q₂ E s := by
    intro Q₂ hQ
    unfold Builtin.«frozenset.__contains__» Builtin.Frozenset.oneOther
    simp only [List.isEmpty_nil, bind_assoc]
    unfold Builtin.Frozenset.addrOf Builtin.Frozenset.withSetAsKey setContains
    refine wpAny_bind (wpAny_pure ?_)
    try dsimp only
    refine wpAny_bind (wpAny_pure ?_)
    try dsimp only
    refine wpAny_bind (wpAny_tryCatch ?_)
    refine wpAny_holding ?_
    refine wpAny_bind ((strKind prog w).pyHash (strKind_is prog w y t) ?_)
    refine wpAny_bind (wpAny_setFind_of (s := { s with toks := s.toks + 1 }) (strKind_is prog w y t) rfl hS fun r hr => ?_)
    refine wpAny_pure ?_
    show wpAny _ _ (ret (Value.bool r.isSome)) _ _ _
    rw [hr]
    exact wpAny_pure (hQ _ _ rfl rfl)
  have key : wpAny (model prog w) A.in1 (checkBoundCall "set.__contains__" ⟨[.ref a, .str y t], []⟩) (fun _ s' => s' = s) E s := by
    clear hent
    obtain ⟨⟨oc, od, oda, osl⟩, es, ep, tb, ho, ⟨e1, e2, e3⟩, hd, _⟩ := hS
    dsimp only at e1 e2 e3 hd
    subst e1; subst e2; subst e3; subst hd
    obtain ⟨h, g, d, t', os⟩ := s
    dsimp only at ho
    unfold checkBoundCall
    simp only [hsig, hk]
    rw [if_neg (by decide)]
    refine wpAny_bind (wpAny_isInstance hT hm ?_)
    simp only [hva]
    rw [if_neg (by decide)]
    refine wpAny_bind ?_
    unfold isType
    repeat (any_goals (first | assumption | wp_step))
    rfl
  exact wpAny_mono key (fun _ s' e => by
    subst e
    refine wpAny_pure ⟨quiet_sc, codeAny_builtin entry_set_contains ?_⟩
    rw [Around.under_plainId (by decide +kernel) _]
    exact hent _ fun fin s' e1 e2 => by subst e1; subst e2; exact hq) fun _ _ x => x

theorem cw_fields {pos : Pos} {u c : Nat} {first : List Value} {args : List (Bool × Sem Value)} {Q : Value → Shared → Prop} (hplain : args.any (·.1) = false)
    (h : wpAny (model prog w) A (evalArgs (.ref u) true args []) (fun x s₁ => s₁.heap.get? u = some (boundC c) ∧ wpAny (model prog w) A (call (.ref u) (first ++ x.pos) x.kw) Q E s₁) E s) : wpAny (model prog w) A (callWith pos (.ref u) first args []) Q E s := by
  unfold callWith
  refine wpAny_bind (wpAny_holding (wpAny_mono h (fun x s₁ h₁ => wpAny_bind (wpAny_standAt ?_)) fun _ _ x => x))
  obtain ⟨ho, hcall⟩ := h₁
  simp only [hplain, List.any_nil, Bool.or_false]
  refine wpAny_bind (m := keeperOf (.ref u)) ?_
  unfold keeperOf
  refine wpAny_bind (wpAny_load ho ?_)
  simp only [boundC, show (Value.type "builtin_function_or_method" != Value.type "method") = true by decide, show (Value.type "builtin_function_or_method" == Value.type "builtin_function_or_method" || Value.type "builtin_function_or_method" == Value.type "method-wrapper") = true by decide, if_true]
  refine wpAny_pure ?_
  exact wpAny_bind (wpAny_mono hcall (fun r s₂ hr => wpAny_bind (wpAny_holding (wpAny_point (wpAny_pure hr)))) fun _ _ x => x)
theorem cw_bound {pos : Pos} {u c : Nat} {first : List Value} {env : Env} {e : Expr} {rest : List Expr} {Q : Value → Shared → Prop}
    (h : wpAny (model prog w) A (spliced (backTo pos (starEach (e :: rest) env))) (fun vs s₁ => s₁.heap.get? u = some (boundC c) ∧ wpAny (model prog w) A (call (.ref u) (first ++ vs)) Q E s₁) E s)
    (he : starEach (e :: rest) env = (false, eval e env) :: starEach rest env := by rfl) (hplain : (backTo pos (starEach rest env)).any (·.1) = false := by rfl) :
    wpAny (model prog w) A (callWith pos (.ref u) first (backTo pos (starEach (e :: rest) env)) []) Q E s := by
  rw [he] at h ⊢
  refine cw_fields (c := c) (by show (false || (backTo pos (starEach rest env)).any (·.1)) = false; rw [hplain]; rfl) ?_
  exact Calls.evalArgs_plain h
end
end Mine

end

/-! ### part F8 -/
section
open PySem PySem.W PyProof.Rows PySem.Builtin PySem.Builtin.ObjectAttr PySem.Builtin.Getset_descriptor
set_option maxRecDepth 100000
set_option maxHeartbeats 1000000
set_option linter.unusedVariables false
namespace Mine

section
variable {s₀ s s' : Shared} {ns : NsL} {mu : MuL} {gn : Heap} {q : Nat × (Str → Option Value)}
theorem St.newNs {L : Nat} {m : Str → Option Value} {h' : Heap} {tk : Nat} (S : St s₀ (q :: ns) mu gn s) (hn : h'.Ns L m) (hk : Sub s.heap h') (hL : s.heap.objs.size ≤ L) (hp : 0 < tk) : St s₀ ((L, m) :: q :: ns) mu gn { s with heap := h', toks := tk } := by
  have hl := S.lt
  have hle := S.le
  refine { same := let ⟨_, _, e⟩ := S.same; ⟨h', tk, by rw [e]⟩, tpos := hp, keep := fun b x e => hk b x (S.keep b x e), nsOk := fun p hp => ?_, sub := fun b x e => hk b x (S.sub b x e), gnew := S.gnew, gns := fun p hp => ?_, muOk := fun p hp => hk _ _ (S.muOk p hp), gmu := S.gmu, anew := fun a ha => ?_, nd := ?_ }
  · rcases List.mem_cons.mp hp with rfl | hp
    · exact hn
    · exact (S.nsOk p hp).keeps hk
  · rcases List.mem_cons.mp hp with rfl | hp
    · cases h : gn.get? L with
      | none => rfl
      | some o' => have := get_lt (S.sub _ _ h); omega
    · exact S.gns p hp
  · rw [List.map_cons, List.cons_append] at ha
    rcases List.mem_cons.mp ha with rfl | ha
    · exact Nat.le_trans hle hL
    · exact S.anew a ha
  · rw [List.map_cons, List.cons_append, List.nodup_cons]
    refine ⟨fun hm => ?_, S.nd⟩
    have h1 := hl _ hm
    simp only at h1
    omega
theorem St.own {a : Nat} {o : Obj} {h' : Heap} {tk : Nat} (S : St s₀ (q :: ns) mu gn s) (hk : Sub s.heap h') (ha : s.heap.objs.size ≤ a) (ho : h'.get? a = some o) (hp : 0 < tk) : St s₀ (q :: ns) ((a, o) :: mu) gn { s with heap := h', toks := tk } := by
  have hl := S.lt
  have hle := S.le
  refine { same := let ⟨_, _, e⟩ := S.same; ⟨h', tk, by rw [e]⟩, tpos := hp, keep := fun b x e => hk b x (S.keep b x e), nsOk := fun p hp => (S.nsOk p hp).keeps hk, sub := fun b x e => hk b x (S.sub b x e), gnew := S.gnew, gns := S.gns, muOk := fun p hp => ?_, gmu := fun p hp => ?_, anew := fun b hb => ?_, nd := ?_ }
  · rcases List.mem_cons.mp hp with rfl | hp
    · exact ho
    · exact hk _ _ (S.muOk p hp)
  · rcases List.mem_cons.mp hp with rfl | hp
    · cases h : gn.get? a with
      | none => rfl
      | some o' => have := get_lt (S.sub _ _ h); omega
    · exact S.gmu p hp
  · rcases List.mem_append.mp hb with h | h
    · exact S.anew b (List.mem_append_left _ h)
    · rcases List.mem_cons.mp h with rfl | h
      · exact Nat.le_trans hle ha
      · exact S.anew b (List.mem_append_right _ h)
  · have hn := S.nd
    rw [List.map_cons]
    rw [List.nodup_append] at hn ⊢
    refine ⟨hn.1, List.nodup_cons.mpr ⟨fun hm => ?_, hn.2.1⟩, fun b hb c hc => ?_⟩
    · have h1 := hl _ (List.mem_append_right _ hm); simp only at h1; omega
    · rcases List.mem_cons.mp hc with rfl | hc
      · exact Nat.ne_of_lt (Nat.lt_of_lt_of_le (hl _ (List.mem_append_left _ hb)) ha)
      · exact hn.2.2 b hb c hc
/-- only the slots of frames change -/
theorem St.slots {fs : List Nat} {h' : Heap} {tk : Nat} (S : St s₀ ns mu gn s) (hu : s.heap.UpToSlots h') (hk : ∀ b o, b ∉ fs → s.heap.get? b = some o → h'.get? b = some o)
    (hfs : ∀ b ∈ fs, b ∈ ns.map (·.1) ∨ (s₀.heap.get? b = none ∧ @LT.lt Nat _ b s₀.heap.objs.size)) (hp : 0 < tk) : St s₀ ns mu gn { s with heap := h', toks := tk } := by
  have hnd := S.nd
  rw [List.nodup_append] at hnd
  have f1 : ∀ b o, s₀.heap.get? b = some o → b ∉ fs := fun b o e hm => by
    rcases hfs b hm with h | h
    · have h1 := S.anew b (List.mem_append_left _ h)
      have h2 := get_lt e
      omega
    · rw [h.1] at e; cases e
  have f2 : ∀ b o, gn.get? b = some o → b ∉ fs := fun b o e hm => by
    rcases hfs b hm with h | h
    · obtain ⟨p, hp, rfl⟩ := List.mem_map.mp h
      rw [S.gns p hp] at e; cases e
    · have h1 := S.gnew b o e
      have h2 := h.2
      omega
  have f3 : ∀ p ∈ mu, p.1 ∉ fs := fun p hp hm => by
    rcases hfs p.1 hm with h | h
    · exact hnd.2.2 p.1 h p.1 (List.mem_map_of_mem hp) rfl
    · have h1 := S.anew p.1 (List.mem_append_right _ (List.mem_map_of_mem hp))
      have h2 := h.2
      omega
  exact { same := let ⟨_, _, e⟩ := S.same; ⟨h', tk, by rw [e]⟩, tpos := hp, keep := fun b o e => hk b o (f1 b o e) (S.keep b o e), nsOk := fun p hp => hu.ns (S.nsOk p hp), sub := fun b o e => hk b o (f2 b o e) (S.sub b o e), gnew := S.gnew, gns := S.gns, muOk := fun p hp => hk _ _ (f3 p hp) (S.muOk p hp), gmu := S.gmu, anew := S.anew, nd := S.nd }
/-- some of the old objects are let out of sight -/
theorem St.mask {p : Nat → Bool} (S : St s₀ ns mu gn s) : St { s₀ with heap := vis s₀.heap p } ns mu gn s := by
  have hz : (vis s₀.heap p).objs.size = s₀.heap.objs.size := by simp [vis]
  exact { S with same := let ⟨h, tk, e⟩ := S.same; ⟨h, tk, by rw [e]⟩, keep := fun b o e => S.keep b o (vis_sub _ _ b o e), gnew := fun b o e => by rw [hz]; exact S.gnew b o e, anew := fun b hb => by rw [hz]; exact S.anew b hb }
end

section
variable {prog : Program} {w : World} {A : Around} {s₀ s : Shared} {ns : NsL} {mu : MuL} {gn : Heap} {q : Nat × (Str → Option Value)} {K : Frag} {R : Result → Shared → Prop}
theorem enterIn {name qual : Str} {params : Arguments} {body : List Stmt} {scope : Scope} {dV kV doc pm cdv ct oc : Value} {an od : Option Addr} {osl : Array (Option Value)} {f : Addr} {args : Args} {binds : List (Str × Value)}
    (S : St s₀ (q :: ns) mu gn s) (D : Gd K s₀.heap) (hroom : A.depth < recursionLimit) (ho : K.lookup f = some ⟨oc, od, .func (fnOf name qual params body scope dV kV doc pm an cdv ct), osl⟩) (hcd : codeIn K cdv qual = true)
    (hbind : bindArgs (fnOf name qual params body scope dV kV doc pm an cdv ct) args = pure binds) (hloc : (binds.all fun x => decide (scope.names.lookup x.1 = some .local)) = true)
    (h : ∀ (L : Nat) s', St s₀ ((L, fun y => binds.reverse.lookup y) :: q :: ns) mu gn s' → s.heap.objs.size ≤ L → Sub s.heap s'.heap →
      wpAny (model prog w) (A.deeper (envOf qual scope L f cdv)) (execs body (envOf qual scope L f cdv)) (fun fl s' => R (.ok (.ret (match fl with | .ret v => v | _ => .none))) s')
        (fun e s' => wpAny (model prog w) (A.deeper (envOf qual scope L f cdv)) (leaving (envOf qual scope L f cdv) e) (fun _ s'' => R (.error e) s'') (fun e' s'' => R (.error e') s'') s') s')
    (hco : scope.isCoroutine = false := by rfl) (hgen : scope.isGenerator = false := by rfl) (hk : scope.kind = .function := by rfl) (hcell : ∀ x ∈ scope.names, x.2 ≠ .cell := by decide) :
    codeAny (model prog w) A (.call (.ref f) args) R s := by
  have D' := S.gd D
  refine codeAny_call_def (fd := fnOf name qual params body scope dV kV doc pm an cdv ct) (body := body) (binds := binds) hroom (D'.X _ _ ho) rfl D'.lim (codeRec_of D'.X hcd) rfl (BindsTo.of_eq hbind) hcell (locs hloc) (fun h₁ hns hk₁ => ?_) hco hgen hk
  exact h _ _ (S.newNs hns hk₁ (Nat.le_refl _) (by have := S.tpos; omega)) (Nat.le_refl _) hk₁

theorem slot_put {x C : Nat} {ox : Obj} {od : Option Obj} {v : Value} {p i : Nat} (X : K.In s.heap) (I : InstAt s.heap x ox C od) (hp : slotIn K p C = some i) (hi : i < 1000)
    (h : R (.ok (.ret .none)) { s with heap := s.heap.update x fun o => { o with slots := (o.slots ++ Array.replicate (i + 1 - o.slots.size) none).setIfInBounds i (some v) } }) :
    codeAny (model prog w) A (.call (.builtin "member_descriptor.__set__") ⟨[.ref p, .ref x, v], []⟩) R s := by
  obtain ⟨n, tn, owner, behind, tb, d, sl, cd, ho, hc, hm, hb, rfl⟩ := slot_of X hp
  obtain ⟨hh, g, dr, t, os⟩ := s
  have L0 := I.type (M := model prog w)
  have L1 := looks_mroIn (M := model prog w) X hm
  have L2 : Looks (model prog w) hh (Slots.slotNamesOf (.ref C)) cd.slotNames := (looks_clsIn X hc).andThen .now
  have hx := I.at_
  dsimp only at ho hx L0 L1
  have f0 := looks_field (M := model prog w) ho 0 (v := .str n tn) rfl
  have f1 := looks_field (M := model prog w) ho 1 (v := owner) rfl
  have f3 := looks_field (M := model prog w) ho 3 (v := .builtin "proto.slot#set") rfl
  have f4 := looks_field (M := model prog w) ho 4 (v := .int behind tb) rfl
  refine codeAny_call_builtin KF.slot_mset.plain KF.entry_mset (KF.slot_mset.check _ _ _ _ _ _ _ _ ⟨_, ho, rfl⟩ (KF.args_mset _ _ _) ?_)
  unfold Builtin.«member_descriptor.__set__» descrSet descrStoreThrough descrCheckInstance descrNameAndClass isInstance
  have f5 : Looks (model prog w) hh (descrItself (.ref p)) [.ref p] := ((Looks.ld (part := none) ho).andThen .now).andThen (Looks.of_pure (by kernel_rfl))
  repeat lk
  refine ⟨Code.quiet_builtin _ (by decide +kernel), codeAny_builtin KF.entry_slotset ?_⟩
  unfold Builtin.«proto.slot#set» Slots.target
  repeat lk
  rw [if_neg hb]
  refine wpAny_pure (wpAny_bind ?_)
  unfold setSlotAt
  dsimp only
  rw [if_neg (by rw [sizeLine_eq]; omega)]
  exact wpAny_updatePart hx (wpAny_pure h)
theorem set_slot' {E : Value → Shared → Prop} {x C p i : Nat} {ox od : Obj} {name : Str} {v : Value} {Q : Unit → Shared → Prop} (S : St s₀ ns ((x, ox) :: mu) gn s) (X : K.In s.heap) (I : InstAt s.heap x ox C (some od))
    (hs : findIn K (.ref C) "__setattr__" = some (some (.builtin "object.__setattr__"))) (hp : plainOver K C = true) (ht : takerIn K C name = some (some (.ref p))) (hT : typeIn K (.ref p) = some (.type "member_descriptor")) (hi : slotIn K p C = some i) (hz : i < 1000)
    (hf : ({ ox with slots := (ox.slots ++ Array.replicate (i + 1 - ox.slots.size) none).setIfInBounds i (some v) } : Obj).isFreed = false)
    (h : ∀ s', St s₀ ns ((x, { ox with slots := (ox.slots ++ Array.replicate (i + 1 - ox.slots.size) none).setIfInBounds i (some v) }) :: mu) gn s' → Q () s') : wpAny (model prog w) A (setAttr (.ref x) name v) Q E s := by
  refine set_plain X I hs (osa_descr (s := { s with toks := s.toks + 1 }) KF.slot_mset X I hp ht hT (slot_put (s := { s with toks := s.toks + 1 }) X I hi hz ?_))
  refine h _ (S.changed (tk := s.toks + 1) (fun b y hb e => ?_) ?_ (Nat.succ_pos _))
  · exact (Heap.get?_update_ne _ _ _ _ hb).trans e
  · exact Heap.get?_update_self _ S.mu0 hf
end
end Mine

end

/-! ### part G5 -/
section
open PySem PySem.W PyProof.Rows
set_option maxRecDepth 100000
set_option maxHeartbeats 4000000
set_option linter.unusedVariables false
namespace Mine

local macro_rules | `(tactic| walk_at "m") => `(tactic| first
  | ((with_reducible show wpAny _ _ (execs (_ :: _) _) _ _ _); refine wpAny_execs_cons ?_)
  | ((with_reducible show wpAny _ _ (execs [] _) _ _ _); refine wpAny_execs_nil ?_)
  | ((with_reducible show wpAny _ _ (exec (Stmt.Assign [PySem.Expr.Name _ _] _ _) _) _ _ _); refine wpAny_Assign_Name ?_)
  | ((with_reducible show wpAny _ _ (exec (Stmt.AugAssign (PySem.Expr.Name _ _) _ _ _) _) _ _ _); refine wpAny_AugAssign_Name ?_)
  | ((with_reducible show wpAny _ _ (exec (Stmt.Return (some _) _) _) _ _ _); refine wpAny_Return_some ?_)
  | ((with_reducible show wpAny _ _ (exec (Stmt.If _ _ _ _) _) _ _ _); refine wpAny_If ?_)
  | ((with_reducible show wpAny _ _ (exec (Stmt.Continue _) _) _ _ _); refine wpAny_Continue ?_)
  | ((with_reducible show wpAny _ _ (eval (PySem.Expr.BinOp _ _ _ _) _) _ _ _); refine wpAny_BinOp ?_)
  | ((with_reducible show wpAny _ _ (isTrue (PySem.Expr.Name _ _) _ _) _ _ _); refine isTrue_plain ?_)
  | ((with_reducible show wpAny _ _ (isTrue (PySem.Expr.Compare _ [_] [_] _) _ _) _ _ _); refine wpAny_isTrue_Compare1 ?_)
  | ((with_reducible show wpAny _ _ (eval (PySem.Expr.Compare _ [_] [_] _) _) _ _ _); refine wpAny_Compare1 ?_)
  | ((with_reducible show wpAny _ _ (truthy (Value.bool _)) _ _ _); refine wpAny_truthy_bool ?_)
  | ((with_reducible show wpAny _ _ (eval (PySem.Expr.Constant (PySem.Const.int _) _ _) _) _ _ _); refine c_int (by assumption) ?_; intro s' t' S')
  | ((with_reducible show wpAny _ _ (eval (PySem.Expr.Constant (PySem.Const.str _) _ _) _) _ _ _); refine c_str (by assumption) ?_; intro s' t' S')
  | ((with_reducible show wpAny _ _ (eval (PySem.Expr.Constant (PySem.Const.bool _) _ _) _) _ _ _); refine c_bool ?_)
  | ((with_reducible show wpAny _ _ (eval (PySem.Expr.Constant PySem.Const.none _ _) _) _ _ _); refine c_none ?_)
  | ((with_reducible show wpAny _ _ (eval (PySem.Expr.Name _ _) _) _ _ _); refine ld_loc (by assumption) rfl (by first | rfl | assumption) ?_)
  | ((with_reducible show wpAny _ _ (loadName _ _) _ _ _); refine ldn_loc (by assumption) rfl (by first | rfl | assumption) ?_)
  | ((with_reducible show wpAny _ _ (eval (PySem.Expr.List _ _) _) _ _ _); refine List_ ?_)
  | ((with_reducible show wpAny _ _ (eval (PySem.Expr.Tuple _ _ _) _) _ _ _); refine Tuple_ ?_)
  | ((with_reducible show wpAny _ _ (eval (PySem.Expr.Subscript _ _ _) _) _ _ _); refine Subscript_ ?_)
  | ((with_reducible show wpAny _ _ (eval (PySem.Expr.Call (PySem.Expr.Name _ _) _ [] _) _) _ _ _); refine Call_ ?_)
  | ((with_reducible show wpAny _ _ (eval (PySem.Expr.Call (PySem.Expr.Attribute _ _ _) _ [] _) _) _ _ _); refine MethodCall_ ?_)
  | ((with_reducible show wpAny _ _ (spliced (backTo _ (starEach [] _))) _ _ _); refine args_nil ?_)
  | ((with_reducible show wpAny _ _ (spliced (backTo _ (starEach (_ :: _) _))) _ _ _); refine args_cons ?_)
  | ((with_reducible show wpAny _ _ (newList _) _ _ _); refine n_list (by assumption) (Nat.le_of_ble_eq_true rfl) ?_; intro s' a' ha' S')
  | ((with_reducible show wpAny _ _ (newTuple _) _ _ _); refine n_tuple (by assumption) (Nat.le_of_ble_eq_true rfl) ?_; intro s' a' ha' S')
  | ((with_reducible show wpAny _ _ (compareOp PySem.CmpOp.Eq (Value.str _ _) (Value.str _ _)) _ _ _); refine PyProof.Rows.eq_str ?_)
  | ((with_reducible show wpAny _ _ (binaryOp PySem.Operator.Mod (Value.int _ _) (Value.int _ _)) _ _ _); refine b_mod (by assumption) (by decide) ?_; intro s' t' S')
  | ((with_reducible show wpAny _ _ (binaryOp PySem.Operator.FloorDiv (Value.int _ _) (Value.int _ _)) _ _ _); refine b_div (by assumption) (by decide) (PyProof.noPylong_of_log2 (by decide +kernel)) ?_; intro s' t' S')
  | ((with_reducible show wpAny _ _ (storeName _ _ _) _ _ _); refine st_loc (by assumption) rfl ?_; intro s' S'))
section
variable (P : Params)
theorem k_hga (n : Str) : plainGet (KK P) 47 n = true := by kernel_rfl
theorem k_cls : isClsIn (KK P) 47 = true := by kernel_rfl
theorem k_func : findIn (KK P) (.ref 47) "_func" = some (some (.ref 48)) := by kernel_rfl
theorem k_it : findIn (KK P) (.ref 47) "_it" = some (some (.ref 49)) := by kernel_rfl
theorem k_get48 : specialIn (KK P) (.ref 48) "__get__" = some (some (.builtin "member_descriptor.__get__")) := by kernel_rfl
theorem k_get49 : specialIn (KK P) (.ref 49) "__get__" = some (some (.builtin "member_descriptor.__get__")) := by kernel_rfl
theorem k_tk48 : takesIn (KK P) (.ref 48) = some true := by kernel_rfl
theorem k_tk49 : takesIn (KK P) (.ref 49) = some true := by kernel_rfl
theorem k_sl48 : slotIn (KK P) 48 47 = some 0 := by kernel_rfl
theorem k_sl49 : slotIn (KK P) 49 47 = some 1 := by kernel_rfl
theorem k_sa : findIn (KK P) (.ref 47) "__setattr__" = some (some (.builtin "object.__setattr__")) := by kernel_rfl
theorem k_po : plainOver (KK P) 47 = true := by kernel_rfl
theorem k_ta48 : takerIn (KK P) 47 "_func" = some (some (.ref 48)) := by kernel_rfl
theorem k_ta49 : takerIn (KK P) 47 "_it" = some (some (.ref 49)) := by kernel_rfl
theorem k_ty48 : typeIn (KK P) (.ref 48) = some (.type "member_descriptor") := by kernel_rfl
theorem k_ty49 : typeIn (KK P) (.ref 49) = some (.type "member_descriptor") := by kernel_rfl
theorem k_mk : makesIn (KK P) 47 = true := by kernel_rfl
theorem k_init : findIn (KK P) (.ref 47) "__init__" = some (some (.ref 29)) := by kernel_rfl
theorem k_iter : findIn (KK P) (.ref 47) "__iter__" = some (some (.ref 36)) := by kernel_rfl
theorem k_next : findIn (KK P) (.ref 47) "__next__" = some (some (.ref 43)) := by kernel_rfl
theorem k_f29 : typeIn (KK P) (.ref 29) = some (.type "function") := by kernel_rfl
theorem k_f36 : typeIn (KK P) (.ref 36) = some (.type "function") := by kernel_rfl
theorem k_f43 : typeIn (KK P) (.ref 43) = some (.type "function") := by kernel_rfl
theorem k_kp : keepIn (KK P) (.ref 47) = true := by kernel_rfl
end

def ffObj (dx I b : Nat) : Obj := { cls := .ref 47, dict := some dx, data := .plain, slots := #[some (.ref b), some (.ref I)] }
theorem inst_ff {h : Heap} {x dx : Nat} {sl : Array (Option Value)} (e : h.get? x = some { cls := .ref 47, dict := some dx, data := .plain, slots := sl }) (ed : h.get? dx = some emptyDict) : InstAt h x { cls := .ref 47, dict := some dx, data := .plain, slots := sl } 47 (some emptyDict) :=
  ⟨e, rfl, rfl, ed⟩
section
variable {prog : Program} {w : World} {A : Around} {s₀ s : Shared} {ns : NsL} {mu : MuL} {gn : Heap} {q : Nat × (Str → Option Value)} {E : Value → Shared → Prop}
theorem f_iter {l : Nat} {vs : Array Value} {ol : Obj} {Q : Value → Shared → Prop} (S : St s₀ (q :: ns) mu gn s) (hl : s₀.heap.get? l = some ol ∨ gn.get? l = some ol) (hc : ol.cls = .type "list") (hd : ∃ n, ol.data = .seq vs n)
    (h : ∀ (I : Nat) s', St s₀ (q :: ns) ((I, { cls := .type "list_iterator", data := .fields #[.ref l, .int 0 0] }) :: mu) gn s' → Q (.ref I) s') : wpAny (model prog w) A (call (.builtin "iter") [.ref l]) Q E s := by
  refine Calls.call_function_entry (by decide +kernel) (by decide +kernel) kdk_entry_iter (kdk_args_iter _) ?_
  unfold Builtin.«iter»
  refine wpAny_bind (m := someArgs "iter" 1 2 _) (wpAny_of_eq (a := [Value.ref l]) (by first | rfl | kernel_rfl!) ?_)
  show wpAny _ _ (pyIter (.ref l) >>= _) _ _ _
  have hlh : s.heap.get? l = some ol := hl.elim (fun e => S.keep l ol e) fun e => S.sub l ol e
  refine wpAny_bind (wpAny_pyIter_list ⟨ol, hlh, hc, hd⟩ ?_)
  exact wpAny_pure ⟨_, rfl, h _ _ (S.push _)⟩
theorem ff_make {b l : Nat} {vs : Array Value} {ol : Obj} {R : Result → Shared → Prop} (S : St s₀ (q :: ns) mu gn s) (D : Gd (KK w.params) s₀.heap) (hroom : A.depth + 1 < recursionLimit) (hl : s₀.heap.get? l = some ol ∨ gn.get? l = some ol) (hc : ol.cls = .type "list") (hd : ∃ n, ol.data = .seq vs n)
    (h : ∀ (x dx I : Nat) s', St s₀ (q :: ns) ((I, { cls := .type "list_iterator", data := .fields #[.ref l, .int 0 0] }) :: (x, ffObj dx I b) :: (dx, emptyDict) :: mu) gn s' → R (.ok (.ret (.ref x))) s') :
    codeAny (model prog w) A (.call (.ref 47) ⟨[.ref b, .ref l], []⟩) R s := by
  have D' := S.gd D
  have S₁ := S.push emptyDict
  have S₂ := S₁.push (instObj 47 s.heap.objs.size)
  have hz : (s.heap.push emptyDict).objs.size = s.heap.objs.size + 1 := Heap.size_push ..
  rw [hz] at S₂
  refine make_core (makes_of D'.X (k_mk _)) (looks_findIn D'.X (k_init _)) (fun self => bind_fn D'.X self (k_f29 _)) (.inl rfl) ?_
  refine enterIn S₂ D hroom (binds := [(Str.ofString "self", .ref (s.heap.objs.size + 1)), (Str.ofString "function", .ref b), (Str.ofString "iterable", .ref l)]) rfl rfl rfl rfl (fun L s' S' _ _ => ?_)
  refine wpAny_mono (E := NoE) (Q := fun fl s' => InitBack (s.heap.objs.size + 1) R (.ok (.ret (match fl with | .ret v => v | _ => .none))) s') ?_ (fun _ _ x => x) (fun _ _ x => x.elim)
  walk_at "m"
  refine plainObj_wpAny_Assign_Attribute ?_
  repeat walk_at "m"
  refine ld_B (S'.gd D) (by kernel_rfl) Boot.«iter» ?_; refine PyProof.Rows.callWith_builtin1 ?_
  repeat walk_at "m"
  refine f_iter S' hl hc hd fun I s₃ S₃ => ?_
  repeat walk_at "m"
  have S₄ := S₃.swap
  have I₁ := inst_ff (S₄.mu0) (S₄.rot3.mu0)
  refine set_slot' S₄ (S₄.gd D).X I₁ (k_sa _) (k_po _) (k_ta49 _) (k_ty49 _) (k_sl49 _) (by decide) rfl fun s₅ S₅ => ?_
  repeat walk_at "m"
  refine plainObj_wpAny_Assign_Attribute ?_
  repeat walk_at "m"
  have I₂ := inst_ff (S₅.mu0) (S₅.rot3.mu0)
  refine set_slot' S₅ (S₅.gd D).X I₂ (k_sa _) (k_po _) (k_ta48 _) (k_ty48 _) (k_sl48 _) (by decide) rfl fun s₆ S₆ => ?_
  repeat walk_at "m"
  refine ⟨rfl, ?_⟩
  exact h _ _ _ _ S₆.dropNs.swap
end
end Mine

end

/-! ### part G6 -/
section
open PySem PySem.W PyProof.Rows
set_option maxRecDepth 100000
set_option maxHeartbeats 4000000
set_option linter.unusedVariables false
namespace Mine

local macro_rules | `(tactic| walk_at "m") => `(tactic| first
  | ((with_reducible show wpAny _ _ (execs (_ :: _) _) _ _ _); refine wpAny_execs_cons ?_)
  | ((with_reducible show wpAny _ _ (execs [] _) _ _ _); refine wpAny_execs_nil ?_)
  | ((with_reducible show wpAny _ _ (exec (Stmt.Assign [PySem.Expr.Name _ _] _ _) _) _ _ _); refine wpAny_Assign_Name ?_)
  | ((with_reducible show wpAny _ _ (exec (Stmt.AugAssign (PySem.Expr.Name _ _) _ _ _) _) _ _ _); refine wpAny_AugAssign_Name ?_)
  | ((with_reducible show wpAny _ _ (exec (Stmt.Return (some _) _) _) _ _ _); refine wpAny_Return_some ?_)
  | ((with_reducible show wpAny _ _ (exec (Stmt.If _ _ _ _) _) _ _ _); refine wpAny_If ?_)
  | ((with_reducible show wpAny _ _ (exec (Stmt.Continue _) _) _ _ _); refine wpAny_Continue ?_)
  | ((with_reducible show wpAny _ _ (eval (PySem.Expr.BinOp _ _ _ _) _) _ _ _); refine wpAny_BinOp ?_)
  | ((with_reducible show wpAny _ _ (isTrue (PySem.Expr.Name _ _) _ _) _ _ _); refine isTrue_plain ?_)
  | ((with_reducible show wpAny _ _ (isTrue (PySem.Expr.Compare _ [_] [_] _) _ _) _ _ _); refine wpAny_isTrue_Compare1 ?_)
  | ((with_reducible show wpAny _ _ (eval (PySem.Expr.Compare _ [_] [_] _) _) _ _ _); refine wpAny_Compare1 ?_)
  | ((with_reducible show wpAny _ _ (truthy (Value.bool _)) _ _ _); refine wpAny_truthy_bool ?_)
  | ((with_reducible show wpAny _ _ (eval (PySem.Expr.Constant (PySem.Const.int _) _ _) _) _ _ _); refine c_int (by assumption) ?_; intro s' t' S')
  | ((with_reducible show wpAny _ _ (eval (PySem.Expr.Constant (PySem.Const.str _) _ _) _) _ _ _); refine c_str (by assumption) ?_; intro s' t' S')
  | ((with_reducible show wpAny _ _ (eval (PySem.Expr.Constant (PySem.Const.bool _) _ _) _) _ _ _); refine c_bool ?_)
  | ((with_reducible show wpAny _ _ (eval (PySem.Expr.Constant PySem.Const.none _ _) _) _ _ _); refine c_none ?_)
  | ((with_reducible show wpAny _ _ (eval (PySem.Expr.Name _ _) _) _ _ _); refine ld_loc (by assumption) rfl (by first | rfl | assumption) ?_)
  | ((with_reducible show wpAny _ _ (loadName _ _) _ _ _); refine ldn_loc (by assumption) rfl (by first | rfl | assumption) ?_)
  | ((with_reducible show wpAny _ _ (eval (PySem.Expr.List _ _) _) _ _ _); refine List_ ?_)
  | ((with_reducible show wpAny _ _ (eval (PySem.Expr.Tuple _ _ _) _) _ _ _); refine Tuple_ ?_)
  | ((with_reducible show wpAny _ _ (eval (PySem.Expr.Subscript _ _ _) _) _ _ _); refine Subscript_ ?_)
  | ((with_reducible show wpAny _ _ (eval (PySem.Expr.Call (PySem.Expr.Name _ _) _ [] _) _) _ _ _); refine Call_ ?_)
  | ((with_reducible show wpAny _ _ (eval (PySem.Expr.Call (PySem.Expr.Attribute _ _ _) _ [] _) _) _ _ _); refine MethodCall_ ?_)
  | ((with_reducible show wpAny _ _ (spliced (backTo _ (starEach [] _))) _ _ _); refine args_nil ?_)
  | ((with_reducible show wpAny _ _ (spliced (backTo _ (starEach (_ :: _) _))) _ _ _); refine args_cons ?_)
  | ((with_reducible show wpAny _ _ (newList _) _ _ _); refine n_list (by assumption) (Nat.le_of_ble_eq_true rfl) ?_; intro s' a' ha' S')
  | ((with_reducible show wpAny _ _ (newTuple _) _ _ _); refine n_tuple (by assumption) (Nat.le_of_ble_eq_true rfl) ?_; intro s' a' ha' S')
  | ((with_reducible show wpAny _ _ (compareOp PySem.CmpOp.Eq (Value.str _ _) (Value.str _ _)) _ _ _); refine PyProof.Rows.eq_str ?_)
  | ((with_reducible show wpAny _ _ (binaryOp PySem.Operator.Mod (Value.int _ _) (Value.int _ _)) _ _ _); refine b_mod (by assumption) (by decide) ?_; intro s' t' S')
  | ((with_reducible show wpAny _ _ (binaryOp PySem.Operator.FloorDiv (Value.int _ _) (Value.int _ _)) _ _ _); refine b_div (by assumption) (by decide) (PyProof.noPylong_of_log2 (by decide +kernel)) ?_; intro s' t' S')
  | ((with_reducible show wpAny _ _ (storeName _ _ _) _ _ _); refine st_loc (by assumption) rfl ?_; intro s' S'))
/-- the iterator that _difference makes -/
structure FF (prog : Program) (w : World) (h : Heap) (x I : Nat) (F : Str → Bool) : Prop where
  it : ∃ dx b S n, h.get? x = some (ffObj dx I b) ∧ h.get? dx = some emptyDict ∧ h.get? b = some (boundC S) ∧ h.SetOf (strKind prog w) S F n
theorem FF.mono {prog : Program} {w : World} {h h' : Heap} {x I : Nat} {F : Str → Bool} (k : Sub h h') (f : FF prog w h x I F) : FF prog w h' x I F :=
  let ⟨dx, b, S, n, e1, e2, e3, o, es, ep, t, e4, r⟩ := f.it; ⟨⟨dx, b, S, n, k _ _ e1, k _ _ e2, k _ _ e3, o, es, ep, t, k _ _ e4, r⟩⟩
abbrev itObj (l i : Nat) : Obj := { cls := .type "list_iterator", data := .fields #[.ref l, .int i 0] }
theorem St.freezeL {s₀ s : Shared} {ns : NsL} {mu : MuL} : ∀ (front : MuL) {gn : Heap}, St s₀ ns (front ++ mu) gn s → ∃ gn', Sub gn gn' ∧ (∀ p ∈ front, gn'.get? p.1 = some p.2) ∧ St s₀ ns mu gn' s
  | [], gn, S => ⟨gn, Sub.refl _, (fun _ h => nomatch h), S⟩
  | p :: r, gn, S => by
    obtain ⟨g₁, h1, h2, h3⟩ := St.freeze1 (a := p.1) (o := p.2) (mu := r ++ mu) S
    obtain ⟨g₂, k1, k2, k3⟩ := St.freezeL r h3
    refine ⟨g₂, h1.trans k1, fun x hx => ?_, k3⟩
    rcases List.mem_cons.mp hx with rfl | hx
    · exact k1 _ _ h2
    · exact k2 x hx
section
variable {prog : Program} {w : World} {A : Around} {s₀ s : Shared} {ns : NsL} {mu : MuL} {gn : Heap} {q : Nat × (Str → Option Value)} {E : Value → Shared → Prop}
theorem diff_spec {l l₂ : Nat} {vs vs₂ : Array Value} {ol ol₂ : Obj} {ys : List Str} {R : Result → Shared → Prop} (S : St s₀ (q :: ns) mu gn s) (D : Gd (KK w.params) s₀.heap) (hh : A.handled = none) (hroom : A.depth + 4 < recursionLimit)
    (hl : s₀.heap.get? l = some ol ∨ gn.get? l = some ol) (hc : ol.cls = .type "list") (hd : ∃ n, ol.data = .seq vs n)
    (hl₂ : s₀.heap.get? l₂ = some ol₂ ∨ gn.get? l₂ = some ol₂) (hc₂ : ol₂.cls = .type "list") (hd₂ : ∃ n, ol₂.data = .seq vs₂ n) (hy : StrsAre vs₂.toList ys) (hsz : vs₂.size ≤ 1000)
    (h : ∀ (x I : Nat) gn' s', Sub gn gn' → FF prog w gn' x I (memF ys vs₂.size) → St s₀ (q :: ns) ((I, itObj l 0) :: mu) gn' s' → R (.ok (.ret (.ref x))) s') :
    codeAny (model prog w) A (.call (.ref 58) ⟨[.ref l, .ref l₂], []⟩) R s := by
  refine enterIn S D (by omega) (binds := [(Str.ofString "minuend", .ref l), (Str.ofString "subtrahend", .ref l₂)]) rfl rfl rfl rfl (fun L s' S' _ _ => ?_)
  refine wpAny_mono (E := NoE) (Q := fun fl s' => R (.ok (.ret (match fl with | .ret v => v | _ => .none))) s') ?_ (fun _ _ x => x) (fun _ _ x => x.elim)
  walk_at "m"
  walk_at "m"
  walk_at "m"
  refine ld_K (v := .ref 47) (S'.gd D) (by kernel_rfl) ?_
  refine callWith_K (S'.gd D).X (k_kp _) ?_
  walk_at "m"
  refine attr_any ?_
  walk_at "m"
  refine ld_B (S'.gd D) (by kernel_rfl) Boot.«set» ?_
  refine Pv.callWith_type1 ?_
  repeat walk_at "m"
  have hlh : s'.heap.get? l₂ = some ol₂ := hl₂.elim (fun e => S'.keep l₂ ol₂ e) fun e => S'.sub l₂ ol₂ e
  refine call_set_strs (hh) ⟨ol₂, hlh, hc₂, hd₂⟩ hy (by show _ < 4096; omega) fun h₁ tk₁ htk hset hk => ?_
  obtain ⟨n, o, es, ep, t, ho, hrest⟩ := hset
  have S₁ := S'.own (h' := h₁) (tk := tk₁) (fun b o e => hk b o (get_lt e) e) (Nat.le_refl _) ho (by have := S'.tpos; omega)
  refine cn_get (n := n) ⟨o, es, ep, t, S₁.mu0, hrest⟩ ?_
  have S₂ := (S₁.push (boundC s'.heap.objs.size)).tok (tk₁ + 1) (Nat.succ_pos _)
  repeat walk_at "m"
  refine ⟨(S₂.gd D).X, wpAny_call ?_⟩
  refine ff_make S₂ D (by show A.depth + 1 + 1 < _; omega) hl hc hd fun x dx I s₃ S₃ => ?_
  have S₄ := S₃.dropNs.perm (mu' := [(x, ffObj dx I h₁.objs.size), (dx, emptyDict), (h₁.objs.size, boundC s'.heap.objs.size), (s'.heap.objs.size, o)] ++ (I, itObj l 0) :: mu) ?_
  · obtain ⟨gn', g1, g2, S₅⟩ := St.freezeL _ S₄
    refine h x I gn' s₃ g1 ⟨dx, _, _, n, g2 _ (.head _), g2 _ (.tail _ (.head _)), g2 _ (.tail _ (.tail _ (.head _))), o, es, ep, t, g2 _ (.tail _ (.tail _ (.tail _ (.head _)))), hrest⟩ S₅
  · exact (List.perm_middle (l₁ := [_, _, _, _])).symm
end
end Mine

end

/-! ### part G7 -/
section
open PySem PySem.W PyProof.Rows
set_option maxRecDepth 100000
set_option maxHeartbeats 4000000
set_option linter.unusedVariables false
namespace Mine

local macro_rules | `(tactic| walk_at "m") => `(tactic| first
  | ((with_reducible show wpAny _ _ (execs (_ :: _) _) _ _ _); refine wpAny_execs_cons ?_)
  | ((with_reducible show wpAny _ _ (execs [] _) _ _ _); refine wpAny_execs_nil ?_)
  | ((with_reducible show wpAny _ _ (exec (Stmt.Assign [PySem.Expr.Name _ _] _ _) _) _ _ _); refine wpAny_Assign_Name ?_)
  | ((with_reducible show wpAny _ _ (exec (Stmt.AugAssign (PySem.Expr.Name _ _) _ _ _) _) _ _ _); refine wpAny_AugAssign_Name ?_)
  | ((with_reducible show wpAny _ _ (exec (Stmt.Return (some _) _) _) _ _ _); refine wpAny_Return_some ?_)
  | ((with_reducible show wpAny _ _ (exec (Stmt.If _ _ _ _) _) _ _ _); refine wpAny_If ?_)
  | ((with_reducible show wpAny _ _ (exec (Stmt.Continue _) _) _ _ _); refine wpAny_Continue ?_)
  | ((with_reducible show wpAny _ _ (eval (PySem.Expr.BinOp _ _ _ _) _) _ _ _); refine wpAny_BinOp ?_)
  | ((with_reducible show wpAny _ _ (isTrue (PySem.Expr.Name _ _) _ _) _ _ _); refine isTrue_plain ?_)
  | ((with_reducible show wpAny _ _ (isTrue (PySem.Expr.Compare _ [_] [_] _) _ _) _ _ _); refine wpAny_isTrue_Compare1 ?_)
  | ((with_reducible show wpAny _ _ (eval (PySem.Expr.Compare _ [_] [_] _) _) _ _ _); refine wpAny_Compare1 ?_)
  | ((with_reducible show wpAny _ _ (truthy (Value.bool _)) _ _ _); refine wpAny_truthy_bool ?_)
  | ((with_reducible show wpAny _ _ (eval (PySem.Expr.Constant (PySem.Const.int _) _ _) _) _ _ _); refine c_int (by assumption) ?_; intro s' t' S')
  | ((with_reducible show wpAny _ _ (eval (PySem.Expr.Constant (PySem.Const.str _) _ _) _) _ _ _); refine c_str (by assumption) ?_; intro s' t' S')
  | ((with_reducible show wpAny _ _ (eval (PySem.Expr.Constant (PySem.Const.bool _) _ _) _) _ _ _); refine c_bool ?_)
  | ((with_reducible show wpAny _ _ (eval (PySem.Expr.Constant PySem.Const.none _ _) _) _ _ _); refine c_none ?_)
  | ((with_reducible show wpAny _ _ (eval (PySem.Expr.Name _ _) _) _ _ _); refine ld_loc (by assumption) rfl (by first | rfl | assumption) ?_)
  | ((with_reducible show wpAny _ _ (loadName _ _) _ _ _); refine ldn_loc (by assumption) rfl (by first | rfl | assumption) ?_)
  | ((with_reducible show wpAny _ _ (eval (PySem.Expr.List _ _) _) _ _ _); refine List_ ?_)
  | ((with_reducible show wpAny _ _ (eval (PySem.Expr.Tuple _ _ _) _) _ _ _); refine Tuple_ ?_)
  | ((with_reducible show wpAny _ _ (eval (PySem.Expr.Subscript _ _ _) _) _ _ _); refine Subscript_ ?_)
  | ((with_reducible show wpAny _ _ (eval (PySem.Expr.Call (PySem.Expr.Name _ _) _ [] _) _) _ _ _); refine Call_ ?_)
  | ((with_reducible show wpAny _ _ (eval (PySem.Expr.Call (PySem.Expr.Attribute _ _ _) _ [] _) _) _ _ _); refine MethodCall_ ?_)
  | ((with_reducible show wpAny _ _ (spliced (backTo _ (starEach [] _))) _ _ _); refine args_nil ?_)
  | ((with_reducible show wpAny _ _ (spliced (backTo _ (starEach (_ :: _) _))) _ _ _); refine args_cons ?_)
  | ((with_reducible show wpAny _ _ (newList _) _ _ _); refine n_list (by assumption) (Nat.le_of_ble_eq_true rfl) ?_; intro s' a' ha' S')
  | ((with_reducible show wpAny _ _ (newTuple _) _ _ _); refine n_tuple (by assumption) (Nat.le_of_ble_eq_true rfl) ?_; intro s' a' ha' S')
  | ((with_reducible show wpAny _ _ (compareOp PySem.CmpOp.Eq (Value.str _ _) (Value.str _ _)) _ _ _); refine PyProof.Rows.eq_str ?_)
  | ((with_reducible show wpAny _ _ (binaryOp PySem.Operator.Mod (Value.int _ _) (Value.int _ _)) _ _ _); refine b_mod (by assumption) (by decide) ?_; intro s' t' S')
  | ((with_reducible show wpAny _ _ (binaryOp PySem.Operator.FloorDiv (Value.int _ _) (Value.int _ _)) _ _ _); refine b_div (by assumption) (by decide) (PyProof.noPylong_of_log2 (by decide +kernel)) ?_; intro s' t' S')
  | ((with_reducible show wpAny _ _ (storeName _ _ _) _ _ _); refine st_loc (by assumption) rfl ?_; intro s' S'))
section
variable {prog : Program} {w : World} {A : Around} {E : Value → Shared → Prop} {s : Shared} {I l i : Nat} {items : Array Value}
theorem nx_item {v : Value} {Q : Value → Shared → Prop} (hit : s.heap.IsListIter I l i) (hl : s.heap.IsList l items) (hx : items[i]? = some v)
    (hQ : ∀ h', h'.IsListIter I l (i + 1) → Heap.SameBut I s.heap h' → Q v { s with heap := h' }) : wpAny (model prog w) A (call (.builtin "next") [.ref I]) Q E s := by
  refine Calls.call_function_entry (by decide +kernel) (by decide +kernel) kdk_entry_next (kdk_args_next _) ?_
  unfold Builtin.«next»
  refine wpAny_bind (m := someArgs "next" 1 2 _) (wpAny_of_eq (a := [Value.ref I]) (by first | rfl | kernel_rfl!) ?_)
  dsimp only
  refine wpAny_bind (wpAny_specialOf (name := Str.ofString "__next__") hit.typeIs slot_listiter_next.lookup ?_)
  refine wpAny_ite_split (fun hab => absurd hab (by decide)) (fun _ => ?_)
  obtain ⟨o, ho, hc, hd⟩ := id hit
  obtain ⟨ol, hol, _, nl, hdl⟩ := hl
  refine wpAny_bind (wpAny_callSpecial?_slot (name := Str.ofString "__next__") hit.typeIs slot_listiter_next (wpAny_call_entry slot_listiter_next hit.typeIs entry_listiter_next ?_ (args_listiter_next _)))
  show wpAny _ _ (field (.ref I) 0 >>= _) _ _ s
  refine wpAny_bind (wpAny_field ho hd (x := .ref l) rfl ?_)
  show wpAny _ _ (if (Value.ref l == Value.none) = true then _ else _) _ _ s
  rw [if_neg (show ¬ ((Value.ref l == Value.none) = true) from Bool.false_ne_true)]
  show wpAny _ _ (field (.ref I) 1 >>= _) _ _ s
  refine wpAny_bind (wpAny_field ho hd (x := .int i 0) rfl ?_)
  show wpAny _ _ (seqItems? (.ref l) >>= _) _ _ s
  refine wpAny_bind (wpAny_seqItems hol hdl ?_)
  simp only [Int.toNat_natCast, hx]
  refine wpAny_bind (wpAny_setField ho hd (by simp) (wpAny_pure ⟨v, rfl, wpAny_pure ⟨_, rfl, hQ _ ?_ (Heap.SameBut.update ..)⟩⟩))
  exact ⟨_, Heap.get?_update_self _ ho (Obj.isFreed_of_fields (Obj.data_mapFields hd _)), (Obj.cls_mapFields ..).trans hc, by
    rw [Obj.data_mapFields hd]; simp [rawInt]⟩
theorem nx_end {Q : Value → Shared → Prop} (hh : A.handled = none) (hit : s.heap.IsListIter I l i) (hl : s.heap.IsList l items) (hx : items[i]? = none)
    (hE : ∀ h' (e t : Nat) oe vs, (∀ b o, b ≠ I → s.heap.get? b = some o → h'.get? b = some o) → s.heap.objs.size ≤ e → h'.get? e = some oe → oe.cls = .type "StopIteration" → oe.data = .fields vs → vs[1]? = some .none → vs[0]? = some (.ref t) → E (.ref e) { s with heap := h' }) :
    wpAny (model prog w) A (call (.builtin "next") [.ref I]) Q E s := by
  refine Calls.call_function_entry (by decide +kernel) (by decide +kernel) kdk_entry_next (kdk_args_next _) ?_
  unfold Builtin.«next»
  refine wpAny_bind (m := someArgs "next" 1 2 _) (wpAny_of_eq (a := [Value.ref I]) (by first | rfl | kernel_rfl!) ?_)
  dsimp only
  refine wpAny_bind (wpAny_specialOf (name := Str.ofString "__next__") hit.typeIs slot_listiter_next.lookup ?_)
  refine wpAny_ite_split (fun hab => absurd hab (by decide)) (fun _ => ?_)
  obtain ⟨o, ho, hc, hd⟩ := id hit
  obtain ⟨ol, hol, _, nl, hdl⟩ := hl
  refine wpAny_bind (wpAny_callSpecial?_slot (name := Str.ofString "__next__") hit.typeIs slot_listiter_next (wpAny_call_entry slot_listiter_next hit.typeIs entry_listiter_next ?_ (args_listiter_next _)))
  show wpAny _ _ (field (.ref I) 0 >>= _) _ _ s
  refine wpAny_bind (wpAny_field ho hd (x := .ref l) rfl ?_)
  show wpAny _ _ (if (Value.ref l == Value.none) = true then _ else _) _ _ s
  rw [if_neg (show ¬ ((Value.ref l == Value.none) = true) from Bool.false_ne_true)]
  show wpAny _ _ (field (.ref I) 1 >>= _) _ _ s
  refine wpAny_bind (wpAny_field ho hd (x := .int i 0) rfl ?_)
  show wpAny _ _ (seqItems? (.ref l) >>= _) _ _ s
  refine wpAny_bind (wpAny_seqItems hol hdl ?_)
  simp only [Int.toNat_natCast, hx]
  refine wpAny_bind (wpAny_rule (wpAny_bind (wpAny_setField ho hd (by simp) ?_)))
  show wpAny _ _ (newExc (.type "StopIteration") [] >>= _) _ _ _
  refine wpAny_bind ?_
  simp only [newExc, newTuple]
  refine wpAny_bind (wpAny_newObj_type ?_ (by size_fits))
  refine wpAny_bind (m := firstArgMember _ _) (wpAny_of_eq (a := Value.none) (by first | rfl | (simp only [firstArgMember]; rfl)) ?_)
  refine wpAny_newObj_type ?_ (by size_fits)
  simp only [raiseNew]
  refine wpAny_bind (wpAny_handled ?_)
  rw [show A.in1.handled = none from hh]
  refine wpAny_bind (wpAny_pure (wpAny_throw ?_))
  refine hE _ _ _ _ _ ?_ ?_ (Heap.get?_push_size _ rfl) rfl rfl rfl rfl
  · exact ((Heap.SameBut.update ..).extBut.push _).push _
  · show s.heap.objs.size ≤ (Heap.push (Heap.update _ _ _) _).objs.size
    rw [Heap.size_push, Heap.size_after_update]; omega
end

/-- the frames that are open are in sight -/
def Frames (ns : NsL) (outer : List Env) : Prop := ∀ env ∈ outer, env.scope.kind ≠ .module ∧ ∃ L, env.frame = some L ∧ L ∈ ns.map (·.1)
theorem Frames.fun {s₀ s : Shared} {ns : NsL} {mu : MuL} {gn base : Heap} (S : St s₀ ns mu gn s) : ∀ {outer : List Env}, Frames ns outer → (∀ b ∈ outer.filterMap (·.frame), base.get? b = none) → s.heap.FunFrames base outer
  | [], _, _ => trivial
  | env :: r, F, hb => by
    obtain ⟨hk, L, hf, hm⟩ := F env (.head _)
    obtain ⟨p, hp, rfl⟩ := List.mem_map.mp hm
    obtain ⟨o, es, ep, ho, hd, _⟩ := S.nsOk p hp
    refine ⟨hk, ⟨p.1, o, hf, hb p.1 (List.mem_filterMap.mpr ⟨env, .head _, hf⟩), ho, fun vs e => by rw [hd] at e; cases e⟩, Frames.fun S (fun e he => F e (.tail _ he)) fun b hm => hb b ?_⟩
    obtain ⟨e, he, h⟩ := List.mem_filterMap.mp hm
    exact List.mem_filterMap.mpr ⟨e, .tail _ he, h⟩
theorem Frames.mem {ns : NsL} {outer : List Env} (F : Frames ns outer) : ∀ b ∈ outer.filterMap (·.frame), b ∈ ns.map (·.1) := fun b hb => by
  obtain ⟨e, he, h⟩ := List.mem_filterMap.mp hb
  obtain ⟨_, L, hf, hm⟩ := F e he
  rw [hf] at h; cases h; exact hm
theorem Frames.cons {ns : NsL} {outer : List Env} {p : Nat × (Str → Option Value)} (F : Frames ns outer) : Frames (p :: ns) outer := fun e he => let ⟨a, L, b, c⟩ := F e he; ⟨a, L, b, .tail _ c⟩

theorem St.slots' {s₀ s : Shared} {ns : NsL} {mu : MuL} {gn : Heap} {fs : List Nat} {h' : Heap} {tk : Nat} (S : St s₀ ns mu gn s) (hu : s.heap.UpToSlots h') (hk : ∀ b o, b ∉ fs → s.heap.get? b = some o → h'.get? b = some o)
    (hfs : ∀ b ∈ fs, b ∈ ns.map (·.1) ∨ (b ∉ mu.map (·.1) ∧ gn.get? b = none ∧ s₀.heap.get? b = none)) (hp : 0 < tk) : St s₀ ns mu gn { s with heap := h', toks := tk } := by
  have hnd := S.nd
  rw [List.nodup_append] at hnd
  have f1 : ∀ b o, s₀.heap.get? b = some o → b ∉ fs := fun b o e hm => by
    rcases hfs b hm with h | h
    · have h1 := S.anew b (List.mem_append_left _ h)
      have h2 := get_lt e
      omega
    · rw [h.2.2] at e; cases e
  have f2 : ∀ b o, gn.get? b = some o → b ∉ fs := fun b o e hm => by
    rcases hfs b hm with h | h
    · obtain ⟨p, hp, rfl⟩ := List.mem_map.mp h
      rw [S.gns p hp] at e; cases e
    · rw [h.2.1] at e; cases e
  have f3 : ∀ p ∈ mu, p.1 ∉ fs := fun p hp hm => by
    rcases hfs p.1 hm with h | h
    · exact hnd.2.2 p.1 h p.1 (List.mem_map_of_mem hp) rfl
    · exact h.1 (List.mem_map_of_mem hp)
  exact { same := let ⟨_, _, e⟩ := S.same; ⟨h', tk, by rw [e]⟩, tpos := hp, keep := fun b o e => hk b o (f1 b o e) (S.keep b o e), nsOk := fun p hp => hu.ns (S.nsOk p hp), sub := fun b o e => hk b o (f2 b o e) (S.sub b o e), gnew := S.gnew, gns := S.gns, muOk := fun p hp => hk _ _ (f3 p hp) (S.muOk p hp), gmu := S.gmu, anew := S.anew, nd := S.nd }
theorem is_type {M : Model} {A : Around} {E : Value → Shared → Prop} {s : Shared} {a : Nat} {T : String} {Q : Value → Shared → Prop} (h : Q (.bool false) s) : wpAny M A (compareOp .Is (.ref a) (.type T)) Q E s :=
  wpAny_pure (a := Value.bool (Value.ref a == Value.type T)) h
section
variable {prog : Program} {w : World} {A : Around} {s₀ s : Shared} {ns : NsL} {mu : MuL} {gn : Heap} {q : Nat × (Str → Option Value)}
theorem ff_next {x I l i : Nat} {oI ol : Obj} {items : Array Value} {zs : List Str} {F : Str → Bool} {outer : List Env} {R : Result → Shared → Prop} (S : St s₀ (q :: ns) ((I, oI) :: mu) gn s) (hI : s.heap.IsListIter I l i) (D : Gd (KK w.params) s₀.heap) (hh : A.handled = none)
    (hroom : A.depth + 4 < recursionLimit) (f : FF prog w gn x I F) (hl : s₀.heap.get? l = some ol ∨ gn.get? l = some ol) (hc : ol.cls = .type "list") (hd : ∃ n, ol.data = .seq items n) (hz : StrsAre items.toList zs) (hi : i ≤ items.size)
    (hfr : A.frames = some outer) (hF : Frames (q :: ns) outer)
    (found : ∀ (j : Nat) y t s' oI', i ≤ j → items[j]? = some (.str y t) → zs[j]? = some y → F y = false → (∀ k y', i ≤ k → k < j → zs[k]? = some y' → F y' = true) → St s₀ (q :: ns) ((I, oI') :: mu) gn s' → s'.heap.IsListIter I l (j + 1) → R (.ok (.ret (.str y t))) s')
    (done : ∀ (e : Nat) s', (∀ k y', i ≤ k → zs[k]? = some y' → F y' = true) → St s₀ (q :: ns) mu gn s' → (∃ o, s'.heap.get? e = some o ∧ o.cls = .type "StopIteration") → R (.error (.ref e)) s') :
    codeAny (model prog w) A (.call (.ref 43) ⟨[.ref x], []⟩) R s := by
  obtain ⟨dx, b, Sa, n, e1, e2, e3, hset⟩ := f.it
  refine enterIn S D (by omega) (binds := [(Str.ofString "self", .ref x)]) rfl rfl rfl rfl (fun L s' S' hL hk => ?_)
  walk_at "m"
  walk_at "m"
  refine Attribute_name ?_
  walk_at "m"
  refine get_slot S'.fr D.X (inst_ff (S'.sub _ _ e1) (S'.sub _ _ e2)) (k_hga _ _) (k_cls _) (k_func _) (k_get48 _) (k_tk48 _) (k_sl48 _) rfl rfl ?_
  have S₁ := S'.tok (s'.toks + 1) (Nat.succ_pos _)
  repeat walk_at "m"
  rename St _ (_ :: q :: ns) _ _ _ => S₂
  have hItem : ∀ (k : Nat) (v : Value), items[k]? = some v → ∃ y t, v = .str y t ∧ zs[k]? = some y := fun k v hv => StrsAre.at hz k v (by rw [Array.getElem?_toList]; exact hv)
  have hlen : items.size = zs.length := by have := StrsAre.length hz; rwa [Array.length_toList] at this
  refine wpAny_While ?_
  refine codeAny_whileLoop (fun k s₃ => ∃ (i' : Nat) (oI' : Obj) (m' : Str → Option Value), k = items.size + 1 - i' ∧ i ≤ i' ∧ i' ≤ items.size ∧ m' (Str.ofString "self") = some (.ref x) ∧ m' (Str.ofString "func") = some (.ref b) ∧ St s₀ ((L, m') :: q :: ns) ((I, oI') :: mu) gn s₃ ∧ s₃.heap.IsListIter I l i' ∧
    ∀ k y', i ≤ k → k < i' → zs[k]? = some y' → F y' = true) ?_ (items.size + 1 - i) ⟨i, oI, _, rfl, Nat.le_refl _, hi, rfl, rfl, S₂, ?_, fun k y' h1 h2 => by omega⟩
  · rintro k s₃ ⟨i', oI', m', rfl, hi1, hi2, hm1, hm2, S₃, hI₃, hF₃⟩
    refine wpAny_passesOwn PassesOwn.leaving ?_
    refine isTrue_plain ?_
    repeat walk_at "m"
    refine ite_pos rfl ?_
    refine wpAny_passesOwn PassesOwn.leaving ?_
    walk_at "m"
    walk_at "m"
    walk_at "m"
    refine ld_B (S₃.gd D) (by kernel_rfl) Boot.«next» ?_; refine PyProof.Rows.callWith_builtin1 ?_
    walk_at "m"
    refine Attribute_name ?_
    repeat walk_at "m"
    refine get_slot S₃.fr D.X (inst_ff (S₃.sub _ _ e1) (S₃.sub _ _ e2)) (k_hga _ _) (k_cls _) (k_it _) (k_get49 _) (k_tk49 _) (k_sl49 _) rfl rfl ?_
    have S₄ := S₃.tok (s₃.toks + 1) (Nat.succ_pos _)
    repeat walk_at "m"
    have hlh : s₃.heap.IsList l items := ⟨ol, hl.elim (fun e => S₃.keep l ol e) fun e => S₃.sub l ol e, hc, hd⟩
    cases hx : items[i']? with
    | some v =>
      obtain ⟨y, t, rfl, hy⟩ := hItem i' v hx
      refine nx_item (s := { s₃ with toks := s₃.toks + 1 }) hI₃ hlh hx fun h' hI₄ hsb => ?_
      obtain ⟨oI₄, ho₄, hc₄, hd₄⟩ := id hI₄
      have S₅ := S₄.changed (h' := h') (tk := s₃.toks + 1) (fun b x hb e => hsb.extBut b x hb e) ho₄ (Nat.succ_pos _)
      refine st_loc S₅ rfl fun s₆ S₆ => ?_
      walk_at "m"
      walk_at "m"
      refine isTrue_or ?_
      repeat walk_at "m"
      refine is_ref_none ?_
      repeat walk_at "m"
      refine ite_neg (by decide) ?_
      refine isTrue_or ?_
      repeat walk_at "m"
      refine ld_B (S₆.gd D) (by kernel_rfl) Boot.«bool» ?_
      refine is_type ?_
      repeat walk_at "m"
      refine ite_neg (by decide) ?_
      refine isTrue_or_nil ?_
      refine ite_neg (by decide) ?_
      walk_at "m"
      walk_at "m"
      refine isTrue_not ?_
      refine isTrue_plain ?_
      repeat walk_at "m"
      refine cw_bound (c := Sa) ?_
      repeat walk_at "m"
      refine ⟨S₆.sub _ _ e3, cn_in (S₆.sub _ _ e3) (let ⟨o, es, ep, t, e4, r⟩ := hset; ⟨o, es, ep, t, S₆.sub _ _ e4, r⟩) ?_⟩
      repeat walk_at "m"
      have S₇ := S₆.tok (s₆.toks + 1) (Nat.succ_pos _)
      refine split_bool (fun hb => ?_) (fun hb => ?_)
      · repeat walk_at "m"
        have hFy : F y = false := by simpa using hb
        refine found i' y t _ _ hi1 hx hy hFy hF₃ S₇.dropNs ?_
        exact ⟨oI₄, S₇.mu0, hc₄, hd₄⟩
      · repeat walk_at "m"
        have hFy : F y = true := by simpa using hb
        have hlt : i' < items.size := by
          rcases Nat.lt_or_ge i' items.size with h | h
          · exact h
          · rw [Array.getElem?_eq_none h] at hx; cases hx
        refine ⟨items.size + 1 - (i' + 1), by omega, i' + 1, oI₄, _, rfl, by omega, by omega, ?_, ?_, S₇, ⟨oI₄, S₇.mu0, hc₄, hd₄⟩, ?_⟩
        · exact hm1
        · exact hm2
        · intro k y' hk1 hk2 hk3
          rcases Nat.lt_or_ge k i' with h | h
          · exact hF₃ k y' hk1 h hk3
          · have : k = i' := by omega
            subst this
            rw [hy] at hk3
            cases hk3
            exact hFy
    | none =>
      refine nx_end (s := { s₃ with toks := s₃.toks + 1 }) hh hI₃ hlh hx fun h' e t oe vs hk₄ hez he hec hed hv1 hv0 => ?_
      have hFr : ∀ env : Env, env.scope.kind ≠ .module → env.frame = some L → Frames ((L, m') :: q :: ns) (env :: outer) := fun env hk1 hk2 e he => by
        rcases List.mem_cons.mp he with rfl | he
        · exact ⟨hk1, L, hk2, .head _⟩
        · exact hF.cons e he
      have hge : items.size ≤ i' := by
        rcases Nat.lt_or_ge i' items.size with h | h
        · rw [Array.getElem?_eq_getElem h] at hx; cases hx
        · exact h
      let fs := I :: (L :: outer.filterMap (·.frame))
      let base := vis s₃.heap fun a => !(decide (a ∈ fs))
      have hb0 : ∀ a ∈ fs, base.get? a = none := fun a ha => by
        show (vis s₃.heap _).get? a = none
        rw [vis_get, if_neg (by simp [ha])]
      have hb1 : ∀ (a : Nat) o, base.get? a = some o → a ∉ fs ∧ s₃.heap.get? a = some o := fun a o e => by
        have e' : (vis s₃.heap fun a => !(decide (a ∈ fs))).get? a = some o := e
        rw [vis_get] at e'
        by_cases hm : a ∈ fs
        · rw [if_neg (by simp [hm])] at e'; cases e'
        · rw [if_pos (by simp [hm])] at e'
          exact ⟨hm, e'⟩
      have hbI : ∀ (a : Nat) o, base.get? a = some o → h'.get? a = some o := fun a o e => by
        obtain ⟨h1, h2⟩ := hb1 a o e
        exact hk₄ a o (fun h => h1 (h ▸ .head _)) h2
      have S₅ : St s₀ ((L, m') :: q :: ns) mu gn { s₃ with heap := h', toks := s₃.toks + 1 } := S₃.lost hk₄ (Nat.succ_pos _)
      have heb : base.get? e = none := by
        cases hq : base.get? e with
        | none => rfl
        | some o =>
          have h1 := get_lt (hb1 e o hq).2
          have h2 : s₃.heap.objs.size ≤ e := hez
          omega
      obtain ⟨oi, hoi, hci, hdi⟩ := id hI₃
      refine wpAny_leaving_firstW (base := base) (Around.frames_deeper hfr) ((hFr _ (show ScopeKind.function ≠ ScopeKind.module from by decide) rfl).fun S₅ fun a ha => hb0 a (.tail _ ha)) rfl he hbI heb hed hv1 hv0 fun h'' hLeft => ?_
      obtain ⟨hL1, hL2, hL3, hL4⟩ := hLeft
      refine done e _ (fun k y' hk1 hk2 => hF₃ k y' hk1 (by
        have := (List.getElem?_eq_some_iff.mp hk2).1
        omega) hk2) (St.dropNs (q := (L, m')) (S₃.drop.slots' (fs := fs) (h' := h'') (tk := s₃.toks + 1) ?_ ?_ ?_ (Nat.succ_pos _))) ?_
      · intro a o ha hnf
        have hne : a ≠ I := fun h => by
          rw [h] at ha
          rw [hoi] at ha; cases ha
          exact hnf _ hdi
        exact hL4 a o (hk₄ a o hne ha) hnf
      · intro a o ha he'
        refine hL1 a o ?_
        show (vis s₃.heap _).get? a = some o
        rw [vis_get, if_pos (by simp [ha])]
        exact he'
      · intro a ha
        rcases List.mem_cons.mp ha with rfl | ha
        · right
          have hn := S₃.nd
          rw [List.nodup_append] at hn
          obtain ⟨_, n2, _⟩ := hn
          rw [List.map_cons, List.nodup_cons] at n2
          refine ⟨n2.1, S₃.gmu (a, oI') (.head _), ?_⟩
          cases hq : s₀.heap.get? a with
          | none => rfl
          | some o =>
            have h1 := get_lt hq
            have h2 := S₃.anew a (by simp)
            omega
        · left
          rcases List.mem_cons.mp ha with rfl | ha
          · exact .head _
          · exact .tail _ (hF.mem a ha)
      · obtain ⟨oe', _, _, _, _, a1, ⟨a2, _⟩, _⟩ := hL3
        exact ⟨oe', a1, a2.trans hec⟩
  · obtain ⟨o, ho, hc', hd'⟩ := hI
    rw [S.mu0] at ho
    cases ho
    exact ⟨oI, S₂.mu0, hc', hd'⟩
end
end Mine

end

/-! ### part G8 -/
section
open PySem PySem.W PyProof.Rows
set_option maxRecDepth 100000
set_option maxHeartbeats 4000000
set_option linter.unusedVariables false
namespace Mine

local macro_rules | `(tactic| walk_at "m") => `(tactic| first
  | ((with_reducible show wpAny _ _ (execs (_ :: _) _) _ _ _); refine wpAny_execs_cons ?_)
  | ((with_reducible show wpAny _ _ (execs [] _) _ _ _); refine wpAny_execs_nil ?_)
  | ((with_reducible show wpAny _ _ (exec (Stmt.Assign [PySem.Expr.Name _ _] _ _) _) _ _ _); refine wpAny_Assign_Name ?_)
  | ((with_reducible show wpAny _ _ (exec (Stmt.AugAssign (PySem.Expr.Name _ _) _ _ _) _) _ _ _); refine wpAny_AugAssign_Name ?_)
  | ((with_reducible show wpAny _ _ (exec (Stmt.Return (some _) _) _) _ _ _); refine wpAny_Return_some ?_)
  | ((with_reducible show wpAny _ _ (exec (Stmt.If _ _ _ _) _) _ _ _); refine wpAny_If ?_)
  | ((with_reducible show wpAny _ _ (exec (Stmt.Continue _) _) _ _ _); refine wpAny_Continue ?_)
  | ((with_reducible show wpAny _ _ (eval (PySem.Expr.BinOp _ _ _ _) _) _ _ _); refine wpAny_BinOp ?_)
  | ((with_reducible show wpAny _ _ (isTrue (PySem.Expr.Name _ _) _ _) _ _ _); refine isTrue_plain ?_)
  | ((with_reducible show wpAny _ _ (isTrue (PySem.Expr.Compare _ [_] [_] _) _ _) _ _ _); refine wpAny_isTrue_Compare1 ?_)
  | ((with_reducible show wpAny _ _ (eval (PySem.Expr.Compare _ [_] [_] _) _) _ _ _); refine wpAny_Compare1 ?_)
  | ((with_reducible show wpAny _ _ (truthy (Value.bool _)) _ _ _); refine wpAny_truthy_bool ?_)
  | ((with_reducible show wpAny _ _ (eval (PySem.Expr.Constant (PySem.Const.int _) _ _) _) _ _ _); refine c_int (by assumption) ?_; intro s' t' S')
  | ((with_reducible show wpAny _ _ (eval (PySem.Expr.Constant (PySem.Const.str _) _ _) _) _ _ _); refine c_str (by assumption) ?_; intro s' t' S')
  | ((with_reducible show wpAny _ _ (eval (PySem.Expr.Constant (PySem.Const.bool _) _ _) _) _ _ _); refine c_bool ?_)
  | ((with_reducible show wpAny _ _ (eval (PySem.Expr.Constant PySem.Const.none _ _) _) _ _ _); refine c_none ?_)
  | ((with_reducible show wpAny _ _ (eval (PySem.Expr.Name _ _) _) _ _ _); refine ld_loc (by assumption) rfl (by first | rfl | assumption) ?_)
  | ((with_reducible show wpAny _ _ (loadName _ _) _ _ _); refine ldn_loc (by assumption) rfl (by first | rfl | assumption) ?_)
  | ((with_reducible show wpAny _ _ (eval (PySem.Expr.List _ _) _) _ _ _); refine List_ ?_)
  | ((with_reducible show wpAny _ _ (eval (PySem.Expr.Tuple _ _ _) _) _ _ _); refine Tuple_ ?_)
  | ((with_reducible show wpAny _ _ (eval (PySem.Expr.Subscript _ _ _) _) _ _ _); refine Subscript_ ?_)
  | ((with_reducible show wpAny _ _ (eval (PySem.Expr.Call (PySem.Expr.Name _ _) _ [] _) _) _ _ _); refine Call_ ?_)
  | ((with_reducible show wpAny _ _ (eval (PySem.Expr.Call (PySem.Expr.Attribute _ _ _) _ [] _) _) _ _ _); refine MethodCall_ ?_)
  | ((with_reducible show wpAny _ _ (spliced (backTo _ (starEach [] _))) _ _ _); refine args_nil ?_)
  | ((with_reducible show wpAny _ _ (spliced (backTo _ (starEach (_ :: _) _))) _ _ _); refine args_cons ?_)
  | ((with_reducible show wpAny _ _ (newList _) _ _ _); refine n_list (by assumption) (Nat.le_of_ble_eq_true rfl) ?_; intro s' a' ha' S')
  | ((with_reducible show wpAny _ _ (newTuple _) _ _ _); refine n_tuple (by assumption) (Nat.le_of_ble_eq_true rfl) ?_; intro s' a' ha' S')
  | ((with_reducible show wpAny _ _ (compareOp PySem.CmpOp.Eq (Value.str _ _) (Value.str _ _)) _ _ _); refine PyProof.Rows.eq_str ?_)
  | ((with_reducible show wpAny _ _ (binaryOp PySem.Operator.Mod (Value.int _ _) (Value.int _ _)) _ _ _); refine b_mod (by assumption) (by decide) ?_; intro s' t' S')
  | ((with_reducible show wpAny _ _ (binaryOp PySem.Operator.FloorDiv (Value.int _ _) (Value.int _ _)) _ _ _); refine b_div (by assumption) (by decide) (PyProof.noPylong_of_log2 (by decide +kernel)) ?_; intro s' t' S')
  | ((with_reducible show wpAny _ _ (storeName _ _ _) _ _ _); refine st_loc (by assumption) rfl ?_; intro s' S'))
theorem filt_skip {zs : List Str} {F : Str → Bool} {i : Nat} : ∀ (d : Nat), (∀ k y, i ≤ k → k < i + d → zs[k]? = some y → F y = true) → (zs.take (i + d)).filter (fun z => !F z) = (zs.take i).filter (fun z => !F z)
  | 0, _ => rfl
  | d + 1, h => by
    have ih := filt_skip d fun k y h1 h2 h3 => h k y h1 (by omega) h3
    rw [show i + (d + 1) = i + d + 1 by omega, List.take_add_one, List.filter_append, ih]
    cases hq : zs[i + d]? with
    | none => simp
    | some y =>
      have := h (i + d) y (by omega) (by omega) hq
      simp [this]
section
variable (P : Params)
theorem k_isf36 : isFn (KK P) (.ref 36) = true := by kernel_rfl
theorem k_isf43 : isFn (KK P) (.ref 43) = true := by kernel_rfl
theorem k_len : findIn (KK P) (.ref 47) "__len__" = some none := by kernel_rfl
theorem k_hint : findIn (KK P) (.ref 47) "__length_hint__" = some none := by kernel_rfl
end
section
variable {prog : Program} {w : World} {A : Around} {E : Value → Shared → Prop} {s₀ s : Shared} {ns : NsL} {mu : MuL} {gn : Heap} {q : Nat × (Str → Option Value)}
theorem isSub_stop : isSubtype (.type "StopIteration") (.type "StopIteration") = pure true := by rw [isSubtype_type]; kernel_rfl
theorem ff_pyNext {x I l i : Nat} {oI ol : Obj} {items : Array Value} {zs : List Str} {F : Str → Bool} {outer : List Env} {Q : Option Value → Shared → Prop} (S : St s₀ (q :: ns) ((I, oI) :: mu) gn s) (hI : s.heap.IsListIter I l i) (D : Gd (KK w.params) s₀.heap) (hh : A.handled = none)
    (hroom : A.depth + 4 < recursionLimit) (f : FF prog w gn x I F) (hl : s₀.heap.get? l = some ol ∨ gn.get? l = some ol) (hc : ol.cls = .type "list") (hd : ∃ n, ol.data = .seq items n) (hz : StrsAre items.toList zs) (hi : i ≤ items.size)
    (hfr : A.frames = some outer) (hF : Frames (q :: ns) outer)
    (found : ∀ (j : Nat) y t s' oI', i ≤ j → items[j]? = some (.str y t) → zs[j]? = some y → F y = false → (∀ k y', i ≤ k → k < j → zs[k]? = some y' → F y' = true) → St s₀ (q :: ns) ((I, oI') :: mu) gn s' → s'.heap.IsListIter I l (j + 1) → Q (some (.str y t)) s')
    (done : ∀ s', (∀ k y', i ≤ k → zs[k]? = some y' → F y' = true) → St s₀ (q :: ns) mu gn s' → Q none s') :
    wpAny (model prog w) A (pyNext (.ref x)) Q E s := by
  obtain ⟨dx, b, Sa, n, e1, e2, e3, hset⟩ := id f.it
  refine owit_next S.fr D.X (inst_ff (S.sub _ _ e1) (S.sub _ _ e2)) (k_next _) (k_isf43 _) (wpAny_call ?_)
  refine ff_next S hI D hh hroom f hl hc hd hz hi hfr hF (fun j y t s' oI' h1 h2 h3 h4 h5 h6 h7 => found j y t s' oI' h1 h2 h3 h4 h5 h6 h7) (fun e s' h1 h2 h3 => ?_)
  show OwitStop _ _ _ _ _ _
  unfold OwitStop
  exact wpAny_isInstance (T := "StopIteration") (b := true) h3 isSub_stop (done s' h1 h2)
theorem ff_pyIter {x I : Nat} {F : Str → Bool} {Q : Value → Shared → Prop} (S : St s₀ (q :: ns) mu gn s) (D : Gd (KK w.params) s₀.heap) (hroom : A.depth + 4 < recursionLimit) (f : FF prog w gn x I F)
    (h : ∀ s', St s₀ (q :: ns) mu gn s' → Sub s.heap s'.heap → Q (.ref x) s') : wpAny (model prog w) A (pyIter (.ref x)) Q E s := by
  obtain ⟨dx, b, Sa, n, e1, e2, e3, hset⟩ := id f.it
  refine owit_iter S.fr D.X (inst_ff (S.sub _ _ e1) (S.sub _ _ e2)) (k_iter _) (k_isf36 _) (wpAny_call ?_)
  refine enterIn S D (by omega) (binds := [(Str.ofString "self", .ref x)]) rfl rfl rfl rfl (fun L s' S' hL hk => ?_)
  refine wpAny_mono (E := NoE) (Q := fun fl s' => OwitIt (model prog w) A Q E (match fl with | .ret v => v | _ => .none) s') ?_ (fun _ _ x => x) (fun _ _ x => x.elim)
  repeat walk_at "m"
  exact owit_it S'.dropNs.fr D.X (inst_ff (S'.sub _ _ e1) (S'.sub _ _ e2)) (k_next _) (h _ S'.dropNs hk)
end
section
variable {prog : Program} {w : World} {A : Around} {s₀ : Shared} {ns : NsL} {mu : MuL} {gn : Heap} {q : Nat × (Str → Option Value)}
theorem ff_loop {x I l D : Nat} {ol : Obj} {items : Array Value} {zs : List Str} {F : Str → Bool} {outer : List Env} {res : Value} {R : Result → Shared → Prop} (Dg : Gd (KK w.params) s₀.heap) (hh : A.handled = none)
    (hroom : A.depth + 4 < recursionLimit) (f : FF prog w gn x I F) (hl : s₀.heap.get? l = some ol ∨ gn.get? l = some ol) (hc : ol.cls = .type "list") (hd : ∃ n, ol.data = .seq items n) (hz : StrsAre items.toList zs) (hsz : items.size ≤ 1000)
    (hfr : A.frames = some outer) (hF : Frames (q :: ns) outer)
    (hR : ∀ s' acc c, St s₀ (q :: ns) ((D, listOf acc c) :: mu) gn s' → StrsAre acc.toList (zs.filter fun z => !F z) → R (.ok (.ret res)) s') :
    ∀ (k i : Nat) (s : Shared) (acc : Array Value) (c : Nat) (oI : Obj), items.size - i ≤ k → i ≤ items.size → St s₀ (q :: ns) ((I, oI) :: (D, listOf acc c) :: mu) gn s → s.heap.IsListIter I l i → StrsAre acc.toList ((zs.take i).filter fun z => !F z) →
    codeAny (model prog w) A (.builtin "list.extend.loop" ⟨[.ref D, .ref x, res], []⟩) R s := by
  have hlen : items.size = zs.length := by have := StrsAre.length hz; rwa [Array.length_toList] at this
  have hdone : ∀ (i : Nat), (∀ k y', i ≤ k → zs[k]? = some y' → F y' = true) → i ≤ zs.length → zs.filter (fun z => !F z) = (zs.take i).filter fun z => !F z := fun i h hi => by
    have := filt_skip (zs := zs) (F := F) (i := i) (zs.length - i) fun k y h1 _ h3 => h k y h1 h3
    rw [show i + (zs.length - i) = zs.length by omega, List.take_length] at this
    exact this
  intro k
  induction k with
  | zero =>
    intro i s acc c oI hk hi S hI hacc
    refine codeAny_builtin PySem.F.entry_extend_loop ?_
    rw [Around.under_plainId PySem.F.plain_extend_loop _]
    show wpAny _ A.in1 (pyNext (.ref x) >>= _) _ _ s
    refine wpAny_bind (ff_pyNext (A := A.in1) S hI Dg hh hroom f hl hc hd hz hi hfr hF (fun j y t s' oI' h1 h2 h3 h4 h5 h6 h7 => ?_) (fun s' h1 h2 => ?_))
    · have := (Array.getElem?_eq_some_iff.mp h2).1
      omega
    · exact wpAny_pure (hR s' acc c h2 (by rw [hdone i h1 (by omega)]; exact hacc))
  | succ k ih =>
    intro i s acc c oI hk hi S hI hacc
    refine codeAny_builtin PySem.F.entry_extend_loop ?_
    rw [Around.under_plainId PySem.F.plain_extend_loop _]
    show wpAny _ A.in1 (pyNext (.ref x) >>= _) _ _ s
    refine wpAny_bind (ff_pyNext (A := A.in1) S hI Dg hh hroom f hl hc hd hz hi hfr hF (fun j y t s' oI' h1 h2 h3 h4 h5 h6 h7 => ?_) (fun s' h1 h2 => ?_))
    · have hj := (Array.getElem?_eq_some_iff.mp h2).1
      have S₁ := h6.swap
      have hal : acc.size ≤ items.size := by
        have h1 := StrsAre.length hacc
        have h2 := List.length_filter_le (fun z => !F z) (zs.take i)
        rw [Array.length_toList] at h1
        simp only [List.length_take] at h2
        omega
      show wpAny _ A.in1 (updateSeq D (·.push (.str y t)) >>= _) _ _ _
      refine wpAny_bind ?_
      have S₂ := S₁.changed (h' := s'.heap.update D (Obj.mapSeq (·.push (.str y t)))) (tk := s'.toks) (o' := listOf (acc.push (.str y t)) (if (acc.push (.str y t)).size == acc.size then c else c + 1)) (fun b o hb e => (Heap.get?_update_ne _ _ _ _ hb).trans e) (Heap.get?_update_self (Obj.mapSeq (·.push (.str y t))) S₁.mu0 rfl) S₁.tpos
      refine wpAny_updateSeq S₁.mu0 rfl (wpAny_pure ⟨plainId_quiet PySem.F.plain_extend_loop _, ih (j + 1) _ (acc.push (.str y t)) _ oI' (by omega) (by omega) S₂.swap ?_ ?_⟩) (by rw [sizeLine_eq]; omega) (by show (acc.push (.str y t)).size ≤ sizeLine + 1; rw [Array.size_push, sizeLine_eq]; omega)
      · obtain ⟨o, ho, hc', hd'⟩ := h7
        rw [h6.mu0] at ho
        cases ho
        exact ⟨oI', S₂.swap.mu0, hc', hd'⟩
      · have e : (zs.take (j + 1)).filter (fun z => !F z) = ((zs.take i).filter fun z => !F z) ++ [y] := by
          have := filt_skip (zs := zs) (F := F) (i := i) (j - i) fun k y' a b d => h5 k y' a (by omega) d
          rw [show i + (j - i) = j by omega] at this
          rw [List.take_add_one, h3, List.filter_append, this]
          simp [h4]
        rw [e, Array.toList_push]
        exact StrsAre.snoc hacc
    · exact wpAny_pure (hR s' acc c h2 (by rw [hdone i h1 (by omega)]; exact hacc))
end

section
variable {prog : Program} {w : World} {A : Around} {E : Value → Shared → Prop} {s₀ s : Shared} {ns : NsL} {mu : MuL} {gn : Heap} {q : Nat × (Str → Option Value)}
theorem list_ff {x I l : Nat} {ol : Obj} {items : Array Value} {zs : List Str} {F : Str → Bool} {outer : List Env} {Q : Value → Shared → Prop} (S : St s₀ (q :: ns) ((I, itObj l 0) :: mu) gn s) (Dg : Gd (KK w.params) s₀.heap) (hh : A.handled = none)
    (hroom : A.depth + 8 < recursionLimit) (f : FF prog w gn x I F) (hl : s₀.heap.get? l = some ol ∨ gn.get? l = some ol) (hc : ol.cls = .type "list") (hd : ∃ n, ol.data = .seq items n) (hz : StrsAre items.toList zs) (hsz : items.size ≤ 1000)
    (hfr : A.frames = some outer) (hF : Frames (q :: ns) outer)
    (hQ : ∀ (D : Nat) s' acc c, St s₀ (q :: ns) ((D, listOf acc c) :: mu) gn s' → StrsAre acc.toList (zs.filter fun z => !F z) → Q (.ref D) s') :
    wpAny (model prog w) A (call (.type "list") [.ref x]) Q E s := by
  refine callType_codes (Q₁ := fun obj s₁ => obj = .ref s.heap.objs.size ∧ s₁ = { s with heap := s.heap.push { cls := .type "list", data := .seq #[] } }) PySem.F.called_list (PySem.F.typeCall_list_1 _) PySem.F.entry_list_init
    (code_list_new _ ⟨rfl, rfl⟩) fun obj s₁ h₁ => ?_
  obtain ⟨rfl, rfl⟩ := h₁
  have S₁ := S.push (listOf #[] 0)
  have hS : (s.heap.push (listOf #[] 0)).get? s.heap.objs.size = some (listOf #[] 0) := Heap.get?_push_size _ rfl
  refine ⟨⟨_, hS, rfl⟩, PySem.F.args_list_init_2 _ _, ?_⟩
  show wpAny _ A.in1.in1 (do let old ← Builtin.List.listItems (.ref s.heap.objs.size); Builtin.List.listUpdate (.ref s.heap.objs.size) (fun _ => #[]); letGo old.toList.reverse; Builtin.List.listExtendWith (.ref s.heap.objs.size) (.ref x) .none) _ _ _
  refine wpAny_bind ?_
  unfold Builtin.List.listItems
  refine wpAny_bind (wpAny_seqItems hS rfl (wpAny_pure ?_))
  show wpAny _ A.in1.in1 (updateSeq s.heap.objs.size (fun _ => #[]) >>= fun _ => letGo (#[] : Array Value).toList.reverse >>= fun _ => Builtin.List.listExtendWith (.ref s.heap.objs.size) (.ref x) .none) _ _ _
  refine wpAny_bind (wpAny_updateSeq hS rfl ?_)
  have S₂ := S₁.changed (h' := (s.heap.push (listOf #[] 0)).update s.heap.objs.size (Obj.mapSeq (fun _ => (#[] : Array Value)))) (tk := s.toks) (o' := listOf #[] 0) (fun b o hb e => (Heap.get?_update_ne _ _ _ _ hb).trans e) (Heap.get?_update_self (Obj.mapSeq (fun _ => (#[] : Array Value))) S₁.mu0 rfl) S₁.tpos
  refine wpAny_bind (wpAny_letGo ?_)
  obtain ⟨dx, b, Sa, n, e1, e2, e3, hset⟩ := id f.it
  have I₂ := inst_ff (S₂.sub _ _ e1) (S₂.sub _ _ e2)
  unfold Builtin.List.listExtendWith
  refine wpAny_bind (I₂.type.here ?_)
  have hx : x ≠ s.heap.objs.size := by
    have := get_lt (S.sub _ _ e1)
    omega
  have h1 : Builtin.List.listSameRef (.ref s.heap.objs.size) (.ref x) = false := by simp [Builtin.List.listSameRef]; exact Ne.symm hx
  have h2 : (Value.ref 47 == Value.type "list") = false := by decide
  have h3 : (Value.ref 47 == Value.type "tuple") = false := by decide
  simp only [h1, h2, h3, Bool.or_false, Bool.false_eq_true, if_false]
  refine wpAny_bind (ff_pyIter (A := A.in1.in1) S₂ Dg (by show A.depth + 4 < _; omega) f fun s₃ S₃ hk₃ => ?_)
  have I₃ := inst_ff (S₃.sub _ _ e1) (S₃.sub _ _ e2)
  have X₃ := (S₃.gd Dg).X
  refine wpAny_bind (wpAny_holding ?_)
  unfold Builtin.List.listLengthHint specialOf
  refine wpAny_bind (wpAny_bind (I₃.type.here ((looks_findIn X₃ (k_len _)).here ?_)))
  show wpAny _ A.in1.in1 ((typeOf (.ref x) >>= fun t => typeLookup t (Str.ofString "__length_hint__")) >>= _) _ _ _
  refine wpAny_bind (wpAny_bind (I₃.type.here ((looks_findIn X₃ (k_hint _)).here ?_)))
  refine wpAny_pure ?_
  show wpAny _ A.in1.in1 (rule "list.extend.makes-room" >>= fun _ => Builtin.List.listTouch (.ref s.heap.objs.size) >>= fun _ =>
    again (.builtin "list.extend.loop" ⟨[.ref s.heap.objs.size, .ref x, .none], []⟩)) _ _ _
  refine wpAny_bind (wpAny_rule ?_)
  refine wpAny_bind ?_
  show wpAny _ A.in1.in1 (updateSeq s.heap.objs.size (·.push .none) >>= fun _ => updateSeq s.heap.objs.size (·.pop)) _ _ _
  refine wpAny_bind (wpAny_updateSeq S₃.mu0 rfl ?_)
  have S₄ := S₃.changed (h' := s₃.heap.update s.heap.objs.size (Obj.mapSeq (·.push Value.none))) (tk := s₃.toks) (o' := listOf #[.none] 1) (fun b o hb e => (Heap.get?_update_ne _ _ _ _ hb).trans e) (Heap.get?_update_self (Obj.mapSeq (·.push Value.none)) S₃.mu0 rfl) S₃.tpos
  refine wpAny_updateSeq (hz := by seq_fits) S₄.mu0 rfl ?_
  have S₅ := S₄.changed (h' := (s₃.heap.update s.heap.objs.size (Obj.mapSeq (·.push Value.none))).update s.heap.objs.size (Obj.mapSeq (·.pop))) (tk := s₃.toks) (o' := listOf #[] 2) (fun b o hb e => (Heap.get?_update_ne _ _ _ _ hb).trans e) (Heap.get?_update_self (Obj.mapSeq (·.pop)) S₄.mu0 rfl) S₄.tpos
  refine wpAny_pure ⟨plainId_quiet PySem.F.plain_extend_loop _, ?_⟩
  refine ff_loop (A := A.in1) Dg hh (by show A.depth + 4 < _; omega) f hl hc hd hz hsz hfr hF (fun s' acc c S' hacc => ?_) items.size 0 _ #[] 2 (itObj l 0) (by omega) (Nat.zero_le _) S₅.swap ⟨_, S₅.swap.mu0, rfl, rfl⟩ .nil
  exact ⟨rfl, hQ _ s' acc c S' hacc⟩
end
end Mine

end

/-! ### part F9 -/
section
open PySem PySem.W PyProof.Rows
set_option maxRecDepth 100000
set_option maxHeartbeats 1000000
set_option linter.unusedVariables false
namespace Mine

section
variable {s₀ s s' : Shared} {ns : NsL} {mu : MuL} {gn : Heap} {q : Nat × (Str → Option Value)}
/-- all that a call made is seen -/
theorem St.take (S : St s₀ (q :: ns) mu gn s) (k : Keeps s s') (hp : 0 < s'.toks) : ∃ gn', Sub gn gn' ∧ (∀ (b : Nat) o, s'.heap.get? b = some o → s.heap.objs.size ≤ b → gn'.get? b = some o) ∧ St s₀ (q :: ns) mu gn' s' := by
  obtain ⟨gn', h1, h2, h3⟩ := (S.keeps k hp).freeze
  refine ⟨gn', h1, fun b o e hb => h2 b o e (Nat.le_trans S.le hb) fun hm => ?_, h3⟩
  have := S.lt b hm
  omega
theorem St.add {a : Nat} {o : Obj} (S : St s₀ ns mu gn s) (ho : s.heap.get? a = some o) (ha : s₀.heap.objs.size ≤ a) (hg : gn.get? a = none) (hn : a ∉ ns.map (·.1) ++ mu.map (·.1)) : St s₀ ns ((a, o) :: mu) gn s where
  same := S.same
  tpos := S.tpos
  keep := S.keep
  nsOk := S.nsOk
  sub := S.sub
  gnew := S.gnew
  gns := S.gns
  muOk := fun p hp => by
    rcases List.mem_cons.mp hp with rfl | hp
    · exact ho
    · exact S.muOk p hp
  gmu := fun p hp => by
    rcases List.mem_cons.mp hp with rfl | hp
    · exact hg
    · exact S.gmu p hp
  anew := fun b hb => by
    rcases List.mem_append.mp hb with h | h
    · exact S.anew b (List.mem_append_left _ h)
    · rcases List.mem_cons.mp h with rfl | h
      · exact ha
      · exact S.anew b (List.mem_append_right _ h)
  nd := by
    have hd := S.nd
    rw [List.mem_append, not_or] at hn
    rw [List.map_cons]
    rw [List.nodup_append] at hd ⊢
    refine ⟨hd.1, List.nodup_cons.mpr ⟨hn.2, hd.2.1⟩, fun x hx y hy => ?_⟩
    rcases List.mem_cons.mp hy with rfl | hy
    · intro e
      subst e
      exact hn.1 hx
    · exact hd.2.2 x hx y hy
theorem paired_of_get {α β : Type} {F : α → β → Prop} : ∀ {l₁ : List α} {l₂ : List β}, l₁.length = l₂.length → (∀ (i : Nat) a b, l₁[i]? = some a → l₂[i]? = some b → F a b) → Paired F l₁ l₂
  | [], [], _, _ => .nil
  | [], _ :: _, h, _ => by simp at h
  | _ :: _, [], h, _ => by simp at h
  | a :: r, b :: t, h, k => .cons (k 0 a b rfl rfl) (paired_of_get (by simpa using h) fun i x y h1 h2 => k (i + 1) x y (by simpa using h1) (by simpa using h2))
theorem reads_strs {h : Heap} : ∀ {vs : List Value} {ys : List Str}, StrsAre vs ys → ∃ as, ReadsAll h vs (ys.map PyData.str) as
  | _, _, .nil => ⟨_, .nil⟩
  | _, _, .cons y t r => let ⟨as, e⟩ := reads_strs r; ⟨_, .cons (.str y t) e⟩
theorem lay_strs : ∀ ys : List Str, (∀ y ∈ ys, PyData.strOk y = true) → PyData.canLayAll0 (ys.map PyData.str) = true
  | [], _ => rfl
  | y :: r, h => by simp [PyData.canLayAll0, PyData.canLay0, lay_strs r fun z hz => h z (.tail _ hz), h y (.head _)]
theorem depth_strs : ∀ ys : List Str, PyData.depthAll (ys.map PyData.str) = 0
  | [] => rfl
  | _ :: r => by simp [PyData.depthAll, PyData.depth, depth_strs r]
theorem shaped_strs (ys : List Str) (h : ∀ y ∈ ys, PyData.strOk y = true) : SeqAt.shaped (.list (ys.map PyData.str)) = true := by
  simp [SeqAt.shaped, PyData.canLay0, PyData.depth, lay_strs ys h, depth_strs]
end

section
variable {prog : Program} {w : World} {A : Around} {s₀ s : Shared} {ns : NsL} {mu : MuL} {gn : Heap} {q : Nat × (Str → Option Value)} {E : Value → Shared → Prop} {env : Env} {K : Frag} {R : Result → Shared → Prop}

/-- a def with one cell, called -/
theorem enterInC {name : Str} {params : Arguments} {body : List Stmt} {scope : Scope} {pm cd doc oc : Value} {od : Option Addr} {osl : Array (Option Value)} {a : Addr} {args : List Value} {binds : List (Str × Value)} {x : Str}
    (S : St s₀ (q :: ns) mu gn s) (D : Gd K s₀.heap) (hroom : A.depth < recursionLimit) (ho : K.lookup a = some ⟨oc, od, .func (Calls.docDef name params body scope pm cd doc), osl⟩) (hcd : codeIn K cd name = true)
    (hbind : bindArgs (Calls.docDef name params body scope pm cd doc) ⟨args, []⟩ = pure binds)
    (hkind : (binds.all fun y => scope.names.lookup y.1 == some .local || scope.names.lookup y.1 == some .cell) = true)
    (hone : ∀ n, cellsFrom n scope.names [] = [(x, n)])
    (h : ∀ (L : Nat) (o : Obj) (s' : Shared), o.data = .cell (bindC (envOfC name scope L a cd).kindOf binds (fun _ => none) x) → St s₀ ((L, bindL (envOfC name scope L a cd).kindOf binds fun _ => none) :: q :: ns) ((L + 1, o) :: mu) gn s' →
      wpAny (model prog w) (A.deeper (envOfC name scope L a cd)) (execs body (envOfC name scope L a cd)) (fun f s' => R (.ok (.ret (match f with | .ret v => v | _ => .none))) s') NoE s')
    (hco : scope.isCoroutine = false := by rfl) (hgen : scope.isGenerator = false := by rfl) (hk : scope.kind = .function := by rfl) :
    codeAny (model prog w) A (.call (.ref a) ⟨args, []⟩) R s := by
  have D' := S.gd D
  refine codeAny_call_function (fd := Calls.docDef name params body scope pm cd doc) hroom (D'.X a _ ho) rfl hco hgen rfl (codeRec_of D'.X hcd) ?_
  rw [hbind]
  refine wpAny_pure (wpAny_with_toks (n := 1) S.tpos (wpAny_newFunctionEnv_cells hk (kindsX hkind _) fun env he s' y => ?_))
  intro hp'
  subst he
  refine ⟨D'.lim.keeps y.toInCall.keep, codeAny_func ?_⟩
  obtain ⟨h₁, tk, rfl, _⟩ := y.done
  obtain ⟨o, ho', hd⟩ := y.cell x (s.heap.objs.size + 1) (by show (cellsFrom (s.heap.objs.size + 1) scope.names []).lookup x = _; rw [hone]; simp)
  have S₁ := S.newNs (tk := tk) y.toInCall.ns y.toInCall.keep (Nat.le_refl _) hp'
  have S₂ := S₁.add (a := s.heap.objs.size + 1) (o := o) ho' (by have := S.le; omega) (by
    cases hg : gn.get? (s.heap.objs.size + 1) with
    | none => rfl
    | some o' => have := get_lt (S.sub _ _ hg); omega) (by
    intro hm
    rw [List.map_cons, List.cons_append] at hm
    rcases List.mem_cons.mp hm with h | h
    · have : s.heap.objs.size + 1 = s.heap.objs.size := h
      omega
    · have := S.lt _ h
      omega)
  exact wpAny_mono (show wpAny (model prog w) (A.deeper (envOfC name scope s.heap.objs.size a cd)) (execs body (envOfC name scope s.heap.objs.size a cd)) (fun f s' => R (.ok (.ret (match f with | .ret v => v | _ => .none))) s') NoE _ from h _ _ _ hd S₂) (fun _ _ x => x) (fun _ _ x => x.elim)

theorem f_len {l : Nat} {items : Array Value} {Q : Value → Shared → Prop} (S : St s₀ ns mu gn s) (hl : s.heap.IsList l items) (hz : items.size ≤ 100000) (h : ∀ s' t, St s₀ ns mu gn s' → Q (.int items.size t) s') : wpAny (model prog w) A (call (.builtin "len") [.ref l]) Q E s :=
  Calls.call_len_list hl (by omega) (h _ _ (S.tok _ (Nat.succ_pos _)))
theorem f_range {n : Nat} {t : Tok} {Q : Value → Shared → Prop} (S : St s₀ (q :: ns) mu gn s) (h : ∀ (r : Nat) s' t u v, IsRange s'.heap r 0 n 1 t u v → St s₀ (q :: ns) mu gn s' → Q (.ref r) s') : wpAny (model prog w) A (call (.type "range") [.int n t]) Q E s :=
  call_range_1 (h _ _ _ _ _ (Heap.get?_push_size _ rfl) ((S.push _).drop.tok _ (Nat.succ_pos _)))
theorem f_ne_nil {l a : Nat} {items : Array Value} {ol : Obj} {ys : List Str} {Q : Value → Shared → Prop} (hl : s.heap.get? l = some ol) (hc : ol.cls = .type "list") (hd : ∃ n, ol.data = .seq items n) (hy : StrsAre items.toList ys) (he : s.heap.get? a = some (listOf #[] 0)) (hu : A.units + 64 < cLine) (hok : ∀ y ∈ ys, PyData.strOk y = true)
    (h : Q (.bool (!decide (ys = []))) s) : wpAny (model prog w) A (compareOp .NotEq (.ref l) (.ref a)) Q E s := by
  obtain ⟨n, hd⟩ := hd
  obtain ⟨as, hr⟩ := reads_strs (h := s.heap) hy
  refine ne_dataH (reads_list_at hl hc hd hr) (reads_list_at (xs := []) he rfl rfl .nil) (shaped_strs ys hok) rfl hu ?_
  have e : PyData.eqv (.list (ys.map PyData.str)) (.list []) = decide (ys = []) := by
    cases ys with
    | nil => rfl
    | cons y r => rfl
  rw [e]
  exact h
theorem m_items {d : Nat} {o : Obj} {kvs : List (Str × Value)} {pl : Sem Bool} {Q : Value × List Value → Shared → Prop} (ho : s.heap.get? d = some o) (hd : o.IsDictOf (strKind prog w) kvs) (h : Q (.builtin "dict.items", [.ref d]) s) : wpAny (model prog w) A (getMethod (.ref d) "items" pl) Q E s :=
  have hD : s.heap.DictOf (strKind prog w) d kvs := Heap.dictOf_iff.mpr ⟨o, ho, hd⟩
  getMethod_builtin hD.typeIs PySem.F.plainAttrs_dict PySem.F.slot_dict_items PySem.F.type_dict_items hD.mapOf.noDict h
theorem f_items {d : Nat} {o : Obj} {kvs : List (Str × Value)} {Q : Value → Shared → Prop} (S : St s₀ (q :: ns) mu gn s) (ho : s.heap.get? d = some o) (hd : o.IsDictOf (strKind prog w) kvs) (hds : (d == sysModules) = false)
    (h : ∀ (v : Nat) s', s'.heap.IsItemsView v d → Sub s.heap s'.heap → St s₀ (q :: ns) mu gn s' → Q (.ref v) s') : wpAny (model prog w) A (call (.builtin "dict.items") [.ref d]) Q E s := by
  have hD : s.heap.DictOf (strKind prog w) d kvs := Heap.dictOf_iff.mpr ⟨o, ho, hd⟩
  exact call_meetsIn PySem.F.slot_dict_items hD.typeIs PySem.F.entry_dict_items (PySem.F.args_dict_items_1 _) (meets_dict_items (strKind prog w) d hds) ⟨⟨kvs, hD⟩, h _ _ ⟨_, Heap.get?_push_size _ rfl, rfl, rfl⟩ (fun b x e => Heap.get?_push_of_some _ e) (S.push _).drop⟩
theorem f_list_items {v d : Nat} {o : Obj} {kvs : List (Str × Value)} {kv : List (Str × Str)} {Q : Value → Shared → Prop} (S : St s₀ (q :: ns) mu gn s) (hh : A.handled = none) (hv : s.heap.IsItemsView v d) (ho : s.heap.get? d = some o) (hd : o.IsDictOf (strKind prog w) kvs) (hk : Paired KV kvs kv) (hn : kv.length ≤ 1000)
    (h : ∀ (D : Nat) gn' s', Sub gn gn' → St s₀ (q :: ns) mu gn' s' → PairsL gn' D kv → Q (.ref D) s') : wpAny (model prog w) A (call (.type "list") [.ref v]) Q E s := by
  obtain ⟨ep, ha⟩ := KdkAt.of hd
  have hkl := paired_len hk
  refine wp_pos S (kdx_call (knd := strKind prog w) (kvs := kvs) (ep := ep) hh hv (ha.dictAt ho) (by rw [sizeLine_eq]; omega) fun h' tk acc c as hk' hS hl hG hacc => ?_)
  intro hp
  obtain ⟨gn', g1, g2, S'⟩ := S.take (s' := { s with heap := h', toks := tk }) ⟨h', tk, rfl, hk'⟩ hp
  refine h _ gn' _ g1 S' ⟨acc, c, g2 _ _ hS (Nat.le_refl _), ?_⟩
  rw [hacc]
  refine paired_of_get (by rw [List.length_map, hl, hkl]) fun i x y h1 h2 => ?_
  rw [List.getElem?_map] at h1
  obtain ⟨a, h1', rfl⟩ := Option.map_eq_some_iff.mp h1
  obtain ⟨key, k, x', e1, e2, e3⟩ := hG.pairs i a h1'
  obtain ⟨t, rfl⟩ := PySem.Value.isStrOf_shape e2
  obtain ⟨p, hp2, hkv, t', ht'⟩ := Paired.get hk i _ e1
  rw [h2] at hp2
  cases hp2
  dsimp only at hkv ht'
  subst hkv
  subst ht'
  exact ⟨a, rfl, t, t', g2 _ _ e3 (Nat.le_of_lt (hG.above a (List.mem_of_getElem? h1')))⟩
theorem ld_free {x : Str} {pos : Pos} {v : Value} {c : Nat} {o : Obj} {Q : Value → Shared → Prop} (S : St s₀ ns mu gn s) (hm : (c, o) ∈ mu) (ho : o.data = .cell (some v)) (hc : env.cells.lookup x = some c) (h : Q v s)
    (hk : env.scope.kind = .function := by rfl) (hl : env.kindOf x = some .free := by rfl) (hd : (x == ("__debug__" : Str)) = false := by decide) (hn : (x == ("__classdict__" : Str)) = false := by decide) :
    wpAny (model prog w) A (eval (.Name x pos) env) Q E s := wpAny_Name (wpAny_loadName_free hk hl hc ⟨o, S.muOk _ hm, ho⟩ h hn) hd
theorem sub_dict {value slice : Expr} {d : Nat} {o : Obj} {kvs : List (Str × Value)} {k : Str} {t : Tok} {v : Value} {Q : Value → Shared → Prop} (S : St s₀ ns mu gn s) (ho : s.heap.get? d = some o) (hd : o.IsDictOf (strKind prog w) kvs) (hv : valueAt kvs k = some v)
    (h : ∀ s', St s₀ ns mu gn s' → Q v s') (hs : subscripted slice false (.ref d) (.str k t) = operate [.ref d, .str k t] (getItem (.ref d) (.str k t)) := by with_unfolding_all rfl) : wpAny (model prog w) A (subscriptTail value slice (.ref d) (.str k t)) Q E s := by
  have hD : s.heap.DictOf (strKind prog w) d kvs := Heap.dictOf_iff.mpr ⟨o, ho, hd⟩
  exact tail_any hD.typeIs slot_dict_getitem.lookup (wpAny_getItem_of (strKind_is prog w k t) hD.mapOf hv (h _ (S.tok _ (Nat.succ_pos _)))) hs
theorem it_dict {d : Nat} {o : Obj} {kvs : List (Str × Value)} {Q : Value → Shared → Prop} (S : St s₀ (q :: ns) mu gn s) (hl : s₀.heap.get? d = some o ∨ gn.get? d = some o) (hd : o.IsDictOf (strKind prog w) kvs) (hds : (d == sysModules) = false) (hh : A.handled = none)
    (h : ∀ (I : Nat) oI s' T, St s₀ (q :: ns) ((I, oI) :: mu) gn s' → T 0 s'.heap → Itr prog w A s₀ gn I kvs.length (fun i v => ∃ k x, kvs[i]? = some (k, x) ∧ (strKind prog w).is k v = true) T → Q (.ref I) s') :
    wpAny (model prog w) A (pyIter (.ref d)) Q E s := by
  obtain ⟨ep, ha⟩ := KdkAt.of hd
  have hlh : s.heap.get? d = some o := hl.elim (fun e => S.keep d o e) fun e => S.sub d o e
  have hD := ha.dictAt hlh
  have hdI : d ≠ s.heap.objs.size := by have := get_lt hlh; omega
  refine wpAny_pyIter_dict hds hD (h _ _ _ _ (S.push _) (show ((_ : Heap).IsKeyIter _ d 0 kvs.length ep ∧ (_ : Heap).DictAt (strKind prog w) d kvs ep) from ⟨⟨_, Heap.get?_push_size _ rfl, rfl, rfl⟩, hD.push _⟩)
    ⟨⟨_, _, Walks.dictKeys hh _ d hdI kvs ep, by simp, fun b hb => ?_⟩, fun i h x => let ⟨o, ho, _⟩ := x.1; ⟨o, ho⟩⟩)
  simp only [List.mem_cons, List.not_mem_nil, or_false] at hb
  rcases hb with rfl | rfl
  · exact .inl rfl
  · exact .inr ⟨o, hl⟩
theorem f_notin {l : Nat} {items : Array Value} {ys : List Str} {k : Str} {t : Tok} {Q : Value → Shared → Prop} (hl : s.heap.IsList l items) (hi : StrsAre items.toList ys) (h : Q (.bool (!(ys.any (· == k)))) s) : wpAny (model prog w) A (compareOp .NotIn (.str k t) (.ref l)) Q E s :=
  notin_list_strs (vs := items.toList) (by simpa using hl) hi h
theorem f_in {l : Nat} {items : Array Value} {ys : List Str} {k : Str} {t : Tok} {Q : Value → Shared → Prop} (hl : s.heap.IsList l items) (hi : StrsAre items.toList ys) (h : Q (.bool (ys.any (· == k))) s) : wpAny (model prog w) A (compareOp .In (.str k t) (.ref l)) Q E s :=
  in_list_strs (vs := items.toList) (by simpa using hl) hi h
theorem Gd.low {h : Heap} (D : Gd K h) {d : Nat} (hd : h.objs.size ≤ d) : (d == sysModules) = false := by
  have := modules_low D.lim
  exact beq_eq_false_iff_ne.mpr (fun e => by
    have h2 : @Eq Nat d sysModules := e
    have h3 : @LT.lt Nat _ sysModules h.objs.size := this
    omega)
end
end Mine

end

/-! ### part G9 -/
section
open PySem PySem.W PyProof.Rows
set_option maxRecDepth 100000
set_option maxHeartbeats 4000000
set_option linter.unusedVariables false
namespace Mine

local macro_rules | `(tactic| walk_at "m") => `(tactic| first
  | ((with_reducible show wpAny _ _ (execs (_ :: _) _) _ _ _); refine wpAny_execs_cons ?_)
  | ((with_reducible show wpAny _ _ (execs [] _) _ _ _); refine wpAny_execs_nil ?_)
  | ((with_reducible show wpAny _ _ (exec (Stmt.Assign [PySem.Expr.Name _ _] _ _) _) _ _ _); refine wpAny_Assign_Name ?_)
  | ((with_reducible show wpAny _ _ (exec (Stmt.AugAssign (PySem.Expr.Name _ _) _ _ _) _) _ _ _); refine wpAny_AugAssign_Name ?_)
  | ((with_reducible show wpAny _ _ (exec (Stmt.Return (some _) _) _) _ _ _); refine wpAny_Return_some ?_)
  | ((with_reducible show wpAny _ _ (exec (Stmt.If _ _ _ _) _) _ _ _); refine wpAny_If ?_)
  | ((with_reducible show wpAny _ _ (exec (Stmt.Continue _) _) _ _ _); refine wpAny_Continue ?_)
  | ((with_reducible show wpAny _ _ (eval (PySem.Expr.BinOp _ _ _ _) _) _ _ _); refine wpAny_BinOp ?_)
  | ((with_reducible show wpAny _ _ (isTrue (PySem.Expr.Name _ _) _ _) _ _ _); refine isTrue_plain ?_)
  | ((with_reducible show wpAny _ _ (isTrue (PySem.Expr.Compare _ [_] [_] _) _ _) _ _ _); refine wpAny_isTrue_Compare1 ?_)
  | ((with_reducible show wpAny _ _ (eval (PySem.Expr.Compare _ [_] [_] _) _) _ _ _); refine wpAny_Compare1 ?_)
  | ((with_reducible show wpAny _ _ (truthy (Value.bool _)) _ _ _); refine wpAny_truthy_bool ?_)
  | ((with_reducible show wpAny _ _ (eval (PySem.Expr.Constant (PySem.Const.int _) _ _) _) _ _ _); refine c_int (by assumption) ?_; intro s' t' S')
  | ((with_reducible show wpAny _ _ (eval (PySem.Expr.Constant (PySem.Const.str _) _ _) _) _ _ _); refine c_str (by assumption) ?_; intro s' t' S')
  | ((with_reducible show wpAny _ _ (eval (PySem.Expr.Constant (PySem.Const.bool _) _ _) _) _ _ _); refine c_bool ?_)
  | ((with_reducible show wpAny _ _ (eval (PySem.Expr.Constant PySem.Const.none _ _) _) _ _ _); refine c_none ?_)
  | ((with_reducible show wpAny _ _ (eval (PySem.Expr.Name _ _) _) _ _ _); refine ld_loc (by assumption) rfl (by first | rfl | assumption) ?_)
  | ((with_reducible show wpAny _ _ (loadName _ _) _ _ _); refine ldn_loc (by assumption) rfl (by first | rfl | assumption) ?_)
  | ((with_reducible show wpAny _ _ (eval (PySem.Expr.List _ _) _) _ _ _); refine List_ ?_)
  | ((with_reducible show wpAny _ _ (eval (PySem.Expr.Tuple _ _ _) _) _ _ _); refine Tuple_ ?_)
  | ((with_reducible show wpAny _ _ (eval (PySem.Expr.Subscript _ _ _) _) _ _ _); refine Subscript_ ?_)
  | ((with_reducible show wpAny _ _ (eval (PySem.Expr.Call (PySem.Expr.Name _ _) _ [] _) _) _ _ _); refine Call_ ?_)
  | ((with_reducible show wpAny _ _ (eval (PySem.Expr.Call (PySem.Expr.Attribute _ _ _) _ [] _) _) _ _ _); refine MethodCall_ ?_)
  | ((with_reducible show wpAny _ _ (spliced (backTo _ (starEach [] _))) _ _ _); refine args_nil ?_)
  | ((with_reducible show wpAny _ _ (spliced (backTo _ (starEach (_ :: _) _))) _ _ _); refine args_cons ?_)
  | ((with_reducible show wpAny _ _ (newList _) _ _ _); refine n_list (by assumption) (Nat.le_of_ble_eq_true rfl) ?_; intro s' a' ha' S')
  | ((with_reducible show wpAny _ _ (newTuple _) _ _ _); refine n_tuple (by assumption) (Nat.le_of_ble_eq_true rfl) ?_; intro s' a' ha' S')
  | ((with_reducible show wpAny _ _ (compareOp PySem.CmpOp.Eq (Value.str _ _) (Value.str _ _)) _ _ _); refine PyProof.Rows.eq_str ?_)
  | ((with_reducible show wpAny _ _ (binaryOp PySem.Operator.Mod (Value.int _ _) (Value.int _ _)) _ _ _); refine b_mod (by assumption) (by decide) ?_; intro s' t' S')
  | ((with_reducible show wpAny _ _ (binaryOp PySem.Operator.FloorDiv (Value.int _ _) (Value.int _ _)) _ _ _); refine b_div (by assumption) (by decide) (PyProof.noPylong_of_log2 (by decide +kernel)) ?_; intro s' t' S')
  | ((with_reducible show wpAny _ _ (storeName _ _ _) _ _ _); refine st_loc (by assumption) rfl ?_; intro s' S'))
def peelF (tb : List (Str × Str)) : Str → Bool := fun k => (tb.map quoteOf).any fun y => decide (k = y)
def peelStep (st : List (List (Str × Str)) × List (Str × Str)) : List (List (Str × Str)) × List (Str × Str) :=
  if st.2 = [] then st else (st.1 ++ [keqv st.2], st.2.filter fun p => !(peelF (keqv st.2) (quoteOf p)))
def peelN (ps : List (Str × Str)) : Nat → List (List (Str × Str)) × List (Str × Str)
  | 0 => ([], ps)
  | n + 1 => peelStep (peelN ps n)
theorem memF_all {ys : List Str} {n : Nat} (h : n = ys.length) : memF ys n = fun k => ys.any fun y => decide (k = y) := by
  subst h
  funext k
  unfold memF
  rw [List.take_length]
def RowV (h : Heap) (v : Value) (row : List (Str × Str)) : Prop := ∃ r : Nat, v = .ref r ∧ PairsL h r row
def RowsL (h : Heap) (a : Nat) (rows : List (List (Str × Str))) : Prop := ∃ vs n, h.get? a = some (listOf vs n) ∧ Paired (RowV h) vs.toList rows
theorem RowV.mono {h h' : Heap} {v : Value} {row : List (Str × Str)} (k : Sub h h') (x : RowV h v row) : RowV h' v row := let ⟨r, e, y⟩ := x; ⟨r, e, y.mono k⟩
theorem RowsL.mono {h h' : Heap} {a : Nat} {rows : List (List (Str × Str))} (k : Sub h h') (x : RowsL h a rows) : RowsL h' a rows := let ⟨vs, n, e, y⟩ := x; ⟨vs, n, k _ _ e, Paired.mono' (fun _ _ => RowV.mono k) y⟩
def PairOk (p : Str × Str) : Prop := KeyOk p ∧ PyData.strOk p.1 = true ∧ PyData.strOk p.2 = true
theorem strOk_append {x y : Str} (hx : PyData.strOk x = true) (hy : PyData.strOk y = true) : PyData.strOk (x ++ y) = true := by
  unfold PyData.strOk at *
  rw [← Array.all_toList, List.all_eq_true] at *
  intro c hc
  rw [Str.cps_append, Array.toList_append, List.mem_append] at hc
  rcases hc with h | h
  · exact hx c h
  · exact hy c h
theorem quote_ok {p : Str × Str} (h : PairOk p) : PyData.strOk (quoteOf p) = true := by
  unfold quoteOf
  have h1 : PyData.strOk ⟨#[61]⟩ = true := by simp [PyData.strOk]
  have h2 : PyData.strOk ⟨#[34]⟩ = true := by simp [PyData.strOk]
  exact strOk_append (strOk_append h.2.1 h1) (strOk_append (strOk_append h2 h.2.2) h2)
theorem peel_sub (ps : List (Str × Str)) : ∀ n, (peelN ps n).2 ⊆ ps ∧ (peelN ps n).2.length ≤ ps.length ∧ (peelN ps n).1.length ≤ n
  | 0 => ⟨fun _ h => h, Nat.le_refl _, Nat.le_refl _⟩
  | n + 1 => by
    obtain ⟨h1, h2, h3⟩ := peel_sub ps n
    have e : peelN ps (n + 1) = peelStep (peelN ps n) := rfl
    rw [e]
    generalize peelN ps n = st at *
    unfold peelStep
    split
    · exact ⟨h1, h2, by omega⟩
    · refine ⟨fun x hx => h1 (List.mem_filter.mp hx).1, Nat.le_trans (List.length_filter_le _ _) h2, ?_⟩
      simp only [List.length_append, List.length_singleton]; omega
theorem item_quote (k v : Str) : ((k ++ Str.ofString "=\"") ++ v) ++ Str.ofString "\"" = quoteOf (k, v) := by
  apply str_ext
  rw [show Str.ofString "=\"" = ⟨#[61, 34]⟩ from by decide, show Str.ofString "\"" = ⟨#[34]⟩ from by decide]
  simp [quoteOf, Str.cps_append]
theorem put_sub {d : List (Str × Str)} {k v : Str} : ∀ p ∈ put d k v, p ∈ d ∨ p = (k, v) := by
  intro p hp
  unfold put at hp
  split at hp
  · obtain ⟨x, hx, rfl⟩ := List.mem_map.mp hp
    split
    · next h => exact .inr (by rw [h])
    · exact .inl hx
  · rcases List.mem_append.mp hp with h | h
    · exact .inl h
    · exact .inr (List.mem_singleton.mp h)
theorem keqv_sub' : ∀ (ps d : List (Str × Str)), ∀ p ∈ ps.foldl (fun d p => put d p.1 p.2) d, p ∈ d ∨ p ∈ ps
  | [], d, p, h => .inl h
  | x :: r, d, p, h => by
    rcases keqv_sub' r (put d x.1 x.2) p h with h | h
    · rcases put_sub p h with h | h
      · exact .inl h
      · exact .inr (by rw [h]; exact .head _)
    · exact .inr (.tail _ h)
theorem keqv_sub {ps : List (Str × Str)} {p : Str × Str} (h : p ∈ keqv ps) : p ∈ ps := (keqv_sub' ps [] p h).resolve_left (fun h => nomatch h)
/-- what stands between two rounds -/
def PJ (ps : List (Str × Str)) (L l : Nat) (q : Nat × (Str → Option Value)) (ns : NsL) (mu : MuL) (s₀ : Shared) (i : Nat) (ns' : NsL) (mu' : MuL) (gn' : Heap) : Prop :=
  ∃ (m' : Str → Option Value) (o : Obj) (cv : Option Value) (D : Nat) (its : Array Value) (n lf : Nat) (vs : Array Value) (k : Nat), ns' = (L, m') :: q :: ns ∧ mu' = (L + 1, o) :: (D, listOf its n) :: mu ∧ o.data = .cell cv ∧
    m' (Str.ofString "rounds") = some (.ref D) ∧ m' (Str.ofString "left") = some (.ref lf) ∧ m' (Str.ofString "items") = some (.ref l) ∧ (s₀.heap.get? lf = some (listOf vs k) ∨ gn'.get? lf = some (listOf vs k)) ∧
    StrsAre vs.toList ((peelN ps i).2.map quoteOf) ∧ Paired (RowV gn') its.toList (peelN ps i).1
section
variable (P : Params)
theorem k_kp65 : keepIn (KK P) (.ref 65) = true := by kernel_rfl
theorem k_kp58 : keepIn (KK P) (.ref 58) = true := by kernel_rfl
end
section
variable {prog : Program} {w : World} {A : Around} {s₀ s : Shared} {ns : NsL} {mu : MuL} {gn : Heap} {q : Nat × (Str → Option Value)}
theorem peeled_spec {l : Nat} {ps : List (Str × Str)} {vs : Array Value} {n : Nat} {outer : List Env} {R : Result → Shared → Prop} (S : St s₀ (q :: ns) mu gn s) (D : Gd (KK w.params) s₀.heap) (hh : A.handled = none) (hroom : A.depth + 30 < recursionLimit) (hu : A.units + 300 < cLine)
    (hl : s₀.heap.get? l = some (listOf vs n) ∨ gn.get? l = some (listOf vs n)) (hv : StrsAre vs.toList (ps.map quoteOf)) (hs : ∀ p ∈ ps, PairOk p) (hn : ps.length ≤ 100)
    (hfr : A.frames = some outer) (hF : Frames (q :: ns) outer)
    (h : ∀ (r : Nat) gn' s', Sub gn gn' → St s₀ (q :: ns) mu gn' s' → RowsL gn' r (peelN ps ps.length).1 → R (.ok (.ret (.ref r))) s') :
    codeAny (model prog w) A (.call (.ref 89) ⟨[.ref l], []⟩) R s := by
  have hlen : vs.size = ps.length := by have := StrsAre.length hv; rwa [Array.length_toList, List.length_map] at this
  refine enterInC S D (by omega) (binds := [(Str.ofString "items", .ref l)]) (x := Str.ofString "table") rfl rfl rfl rfl (fun _ => rfl) fun L o s' ho S' => ?_
  repeat walk_at "m"
  refine exec_for ?_
  walk_at "m"
  refine ld_B (St.gd (by assumption) D) (by kernel_rfl) Boot.«range» ?_
  refine Pv.callWith_type1 ?_
  walk_at "m"
  walk_at "m"
  refine ld_B (St.gd (by assumption) D) (by kernel_rfl) Boot.«len» ?_
  refine PyProof.Rows.callWith_builtin1 ?_
  repeat walk_at "m"
  rename St _ _ ((_, PySem.W.listOf #[] 0) :: _) _ _ => S₁
  have hll : ∀ {s' : Shared} {ns' : NsL} {mu' : MuL} {gn' : Heap}, Sub gn gn' → St s₀ ns' mu' gn' s' → s'.heap.IsList l vs := fun hg S' => ⟨_, hl.elim (fun e => S'.keep l _ e) fun e => S'.sub l _ (hg _ _ e), rfl, _, rfl⟩
  refine f_len S₁ (hll (Sub.refl _) S₁) (by omega) fun s₂ t₂ S₂ => ?_
  walk_at "m"
  refine f_range S₂ fun r s₃ t₃ u₃ v₃ hr S₃ => ?_
  have hsmall : Builtin.Range.small 0 (vs.size : Int) 1 = true := small_one (by decide) (by decide) (by omega) (by omega)
  have hrs : Builtin.Range.rangeSize 0 (vs.size : Int) 1 = (vs.size : Int) := by rw [rangeSize_one]; split <;> omega
  refine it_range S₃ hr hsmall hrs (fun I oI s₄ S₄ hT W => ?_) hh
  have S₅ := S₄.perm (List.Perm.cons _ (List.Perm.swap _ _ _))
  clear S₁ S₂ S₃ S₄
  refine for_st W goOk_name (PJ ps L l q ns mu s₀) S₅ hT ⟨_, o, _, _, #[], 0, l, vs, n, rfl, rfl, ho, rfl, rfl, rfl, hl, hv, .nil⟩ ?_ ?_
  · clear S₅ hT W
    rintro i v ns' mu' gn' oI' s₅ hi ⟨ti, rfl⟩ hg ⟨m', o', cv, Dr, its, nr, lf, vsl, k, rfl, rfl, ho', hm1, hm2, hm3, hlf, hvf, hrows⟩ S₆
    unfold forGo
    refine as_loc S₆ rfl fun s₇ S₇ => ?_
    clear S₆
    repeat walk_at "m"
    rename St _ _ ((_, PySem.W.listOf _ _) :: (I, oI') :: _) _ _ => S₈
    obtain ⟨hsub, hsl, hrl⟩ := peel_sub ps i
    have hokl : ∀ p ∈ (peelN ps i).2, PairOk p := fun p hp => hs p (hsub hp)
    have hlfh : ∀ {s' : Shared} {ns' : NsL} {mu' : MuL} {g : Heap}, Sub gn' g → St s₀ ns' mu' g s' → s'.heap.get? lf = some (listOf vsl k) := fun hg S' => hlf.elim (fun e => S'.keep lf _ e) fun e => S'.sub lf _ (hg _ _ e)
    refine f_ne_nil (hlfh (Sub.refl _) S₈) rfl ⟨k, rfl⟩ hvf (S₈.mu0) (by show A.units + 3 + 64 < _; omega) (fun y hy => by
      obtain ⟨p, hp, rfl⟩ := List.mem_map.mp hy
      exact quote_ok (hokl p hp)) ?_
    have S₉ := S₈.drop
    clear S₈ S₇
    repeat walk_at "m"
    have hstep : peelN ps (i + 1) = peelStep (peelN ps i) := rfl
    have hilen : i < ps.length := by omega
    refine split_bool (fun hb => ?_) (fun hb => ?_)
    · have hne : (peelN ps i).2 ≠ [] := fun e => by rw [e] at hb; exact absurd hb (by decide)
      have hstep' : peelN ps (i + 1) = ((peelN ps i).1 ++ [keqv (peelN ps i).2], (peelN ps i).2.filter fun p => !(peelF (keqv (peelN ps i).2) (quoteOf p))) := by
        rw [hstep]; unfold peelStep; rw [if_neg hne]
      generalize peelN ps i = st at *
      obtain ⟨rows, left⟩ := st
      dsimp only at *
      walk_at "m"
      walk_at "m"
      walk_at "m"
      refine ld_K (v := .ref 65) (S₉.gd D) (by kernel_rfl) ?_
      refine callWith_K (S₉.gd D).X (k_kp65 _) ?_
      repeat walk_at "m"
      refine ⟨(S₉.gd D).X, wp_pos S₉ (wpAny_call (codeAny_mono (keqv_spec (ps := left) hh (by show A.depth + 1 < _; omega) (S₉.gd D) ⟨vsl, k, ?_, hvf⟩ (fun p hp => (hokl p hp).1) (by omega)) fun r s₁₀ hr => ?_))⟩
      · exact hlfh (Sub.refl _) S₉
      · obtain ⟨d, rfl, hk₁₀, hdz, od, kvs, hod, hodd, hkv⟩ := hr
        intro hp₁₀
        obtain ⟨g₁, hg₁, hgt, S₁₀⟩ := S₉.take hk₁₀ hp₁₀
        have hod₁ := hgt d _ hod hdz
        have hds : (d == sysModules) = false := D.low (S₁₀.gnew d _ hod₁)
        have hkl := keqv_len left
        have hkvl := paired_len hkv
        have hkok : ∀ p ∈ keqv left, PairOk p := fun p hp => hokl p (keqv_sub hp)
        have S₁₁ := S₁₀.swap
        clear S₉ S₁₀ hgt hod hk₁₀ hp₁₀
        dsimp only
        refine st_cell S₁₁ ho' rfl fun s₁₂ o₁₂ ho₁₂ S₁₂ => ?_
        clear S₁₁
        walk_at "m"
        refine wpAny_Expr ?_
        walk_at "m"
        walk_at "m"
        refine m_append (S₁₂.rot3.mu0) ?_
        refine callWith_method1 ?_
        walk_at "m"
        walk_at "m"
        refine ld_B (S₁₂.gd D) (by kernel_rfl) Boot.«list» ?_
        refine Pv.callWith_type1 ?_
        walk_at "m"
        walk_at "m"
        refine ld_cell S₁₂ (.head _) ho₁₂ rfl ?_
        refine m_items (S₁₂.sub _ _ hod₁) hodd ?_
        refine callWith_method0 ?_
        refine f_items S₁₂ (S₁₂.sub _ _ hod₁) hodd hds fun vw s₁₃ hvw _ S₁₃ => ?_
        walk_at "m"
        refine f_list_items S₁₃ hh hvw (S₁₃.sub _ _ hod₁) hodd hkv (by omega) fun Dl g₂ s₁₄ hg₂ S₁₄ hDl => ?_
        walk_at "m"
        have hits := paired_len hrows
        rw [Array.length_toList] at hits
        refine f_append S₁₄.rot3 (by rw [sizeLine_eq]; omega) fun s₁₅ S₁₅ => ?_
        clear S₁₂ S₁₃ S₁₄
        have S₁₆ := S₁₅.rot3
        clear S₁₅
        walk_at "m"
        walk_at "m"
        walk_at "m"
        refine ld_B (S₁₆.gd D) (by kernel_rfl) Boot.«list» ?_
        refine Pv.callWith_type1 ?_
        walk_at "m"
        walk_at "m"
        refine ld_K (v := .ref 58) (S₁₆.gd D) (by kernel_rfl) ?_
        refine callWith_K (S₁₆.gd D).X (k_kp58 _) ?_
        walk_at "m"
        walk_at "m"
        walk_at "m"
        refine comp_eval (s₀ := s₀) (cl := [(Str.ofString "table", L + 1)]) (by kernel_rfl) rfl (by decide) (by decide) ?_
        refine ld_cell S₁₆ (by simp) ho₁₂ rfl ?_
        refine it_dict S₁₆ (.inr (hg₂ _ _ hod₁)) hodd hds hh fun I₂ oI₂ s₁₇ T₂ S₁₇ hT₂ W₂ => ?_
        refine ⟨I₂, _, oI₂, _, _, _, _, _, _, fun j ys g => StrsAre ys (((keqv left).take j).map quoteOf), rfl, W₂, goOk_name, S₁₇, hT₂, .nil, by rw [sizeLine_eq]; omega, ?_, ?_⟩
        · intro j v ys g oI₃ s₁₈ C mC D₂ oD hj hP hg₃ hJ S₁₈
          obtain ⟨key, x, hkx, hkis⟩ := hP
          obtain ⟨tk, rfl⟩ := PySem.Value.isStrOf_shape hkis
          obtain ⟨p, hpj, hp1, tv, htv⟩ := Paired.get hkv j _ hkx
          dsimp only at hp1 htv
          subst hp1
          subst htv
          obtain ⟨⟨hk61, hk1, hk2⟩, _, _⟩ := hkok p (List.mem_of_getElem? hpj)
          obtain ⟨es, ep, _, _, _, _, hnod⟩ := id hodd
          refine as_loc S₁₈ rfl fun s₁₉ S₁₉ => ?_
          repeat walk_at "m"
          refine b_add (by assumption) (by rw [sizeLine_eq, l1]; omega) ?_; intro s' t' S'
          refine Subscript_ ?_
          refine ld_cell S' (by simp) ho₁₂ rfl ?_
          walk_at "m"
          refine sub_dict S' (S'.sub _ _ (hg₃ _ _ (hg₂ _ _ hod₁))) hodd (valueAt_of_get hnod hkx) fun s₂₀ S₂₀ => ?_
          refine b_add (by assumption) (by rw [sizeLine_eq, Str.length_append, l1]; omega) ?_; intro s' t' S'
          repeat walk_at "m"
          refine b_add (by assumption) (by rw [sizeLine_eq, Str.length_append, Str.length_append, l1, l2]; omega) ?_; intro s' t' S'
          refine ⟨_, _, Sub.refl _, ?_, S'⟩
          have e : ((keqv left).take (j + 1)).map quoteOf = ((keqv left).take j).map quoteOf ++ [quoteOf p] := by rw [List.take_add_one, hpj]; simp
          show StrsAre _ (((keqv left).take (j + 1)).map quoteOf)
          rw [e, item_quote]
          exact StrsAre.snoc hJ
        · intro ys g s₁₈ D₂ kk hg₃ hJ hl₂ S₁₈
          obtain ⟨g₄, hg₄, hD₂, S₁₉⟩ := S₁₈.freeze1
          have hJ' : StrsAre ys ((keqv left).map quoteOf) := by
            have hx : StrsAre ys (((keqv left).take kvs.length).map quoteOf) := hJ
            rw [hkvl, List.take_length] at hx
            exact hx
          have hgg : Sub gn' g₄ := hg₁.trans (hg₂.trans (hg₃.trans hg₄))
          walk_at "m"
          refine ⟨(S₁₉.gd D).X, wpAny_call ?_⟩
          refine diff_spec S₁₉ D hh (by show A.depth + 1 + 4 < _; omega) (hlf.imp id fun e => hgg _ _ e) rfl ⟨k, rfl⟩ (.inr hD₂) rfl ⟨kk, rfl⟩ (by simpa using hJ') (by simp; omega) fun x I₅ g₅ s₂₁ hg₅ hff S₂₁ => ?_
          walk_at "m"
          have hvsz : vsl.size ≤ 1000 := by
            have := StrsAre.length hvf
            rw [Array.length_toList, List.length_map] at this
            omega
          refine list_ff (outer := _ :: outer) S₂₁ D hh (by show A.depth + 1 + 8 < _; omega) hff (hlf.imp id fun e => hg₅ _ _ (hgg _ _ e)) rfl ⟨k, rfl⟩ hvf hvsz (Around.frames_deeper hfr) (fun e he => ?_) fun Dn s₂₂ acc cc S₂₂ hacc => ?_
          · rcases List.mem_cons.mp he with rfl | he
            · exact ⟨(show ScopeKind.function ≠ ScopeKind.module from by decide), L, rfl, .head _⟩
            · exact hF.cons e he
          · refine st_loc S₂₂ rfl fun s₂₃ S₂₃ => ?_
            repeat walk_at "m"
            obtain ⟨g₆, hg₆, hDn, S₂₄⟩ := S₂₃.freeze1
            have hga : Sub gn' g₆ := hgg.trans (hg₅.trans hg₆)
            have S₂₅ := S₂₄.perm (List.Perm.cons _ (List.Perm.swap _ _ _))
            refine ⟨_, _, g₆, hga, ?_, S₂₅⟩
            refine ⟨_, o₁₂, _, Dr, _, _, Dn, acc, cc, rfl, rfl, ho₁₂, ?_, rfl, ?_, .inr hDn, ?_, ?_⟩
            · exact hm1
            · exact hm3
            · rw [hstep']
              dsimp only
              have e1 : memF ((keqv left).map quoteOf) ys.toArray.size = peelF (keqv left) := by
                rw [memF_all (by rw [List.size_toArray, StrsAre.length hJ'])]
                rfl
              rw [e1] at hacc
              have e2 : (left.map quoteOf).filter (fun z => !(peelF (keqv left) z)) = (left.filter fun p => !(peelF (keqv left) (quoteOf p))).map quoteOf := by
                rw [List.filter_map]; rfl
              rw [e2] at hacc
              exact hacc
            · rw [hstep']
              rw [Array.toList_push]
              exact paired_snoc ⟨Dl, rfl, hDl.mono (hg₃.trans (hg₄.trans (hg₅.trans hg₆)))⟩ (Paired.mono' (fun _ _ => RowV.mono hga) hrows)
    · have he : (peelN ps i).2 = [] := by
        cases hq : (peelN ps i).2 with
        | nil => rfl
        | cons a b => rw [hq] at hb; simp at hb
      repeat walk_at "m"
      refine ⟨_, _, gn', Sub.refl _, ?_, S₉⟩
      refine ⟨_, o', cv, Dr, its, nr, lf, vsl, k, rfl, rfl, ho', hm1, hm2, hm3, hlf, ?_, ?_⟩
      · rw [hstep]; unfold peelStep; rw [if_pos he]; exact hvf
      · rw [hstep]; unfold peelStep; rw [if_pos he]; exact hrows
  · rintro ns' mu' gn' s₅ hg ⟨m', o', cv, Dr, its, nr, lf, vsl, k, rfl, rfl, ho', hm1, hm2, hm3, hlf, hvf, hrows⟩ S₆
    repeat walk_at "m"
    obtain ⟨g₁, hg₁, hD, S₇⟩ := S₆.swap.freeze1
    refine h Dr g₁ _ (hg.trans hg₁) S₇.drop.dropNs ⟨its, nr, hD, ?_⟩
    rw [hlen] at hrows
    exact Paired.mono' (fun _ _ => RowV.mono hg₁) hrows
end
end Mine

end

/-! ### part G10 -/
section
open PySem PySem.W PyProof.Rows
set_option maxRecDepth 100000
set_option maxHeartbeats 4000000
set_option linter.unusedVariables false
namespace Mine

local macro_rules | `(tactic| walk_at "m") => `(tactic| first
  | ((with_reducible show wpAny _ _ (execs (_ :: _) _) _ _ _); refine wpAny_execs_cons ?_)
  | ((with_reducible show wpAny _ _ (execs [] _) _ _ _); refine wpAny_execs_nil ?_)
  | ((with_reducible show wpAny _ _ (exec (Stmt.Assign [PySem.Expr.Name _ _] _ _) _) _ _ _); refine wpAny_Assign_Name ?_)
  | ((with_reducible show wpAny _ _ (exec (Stmt.AugAssign (PySem.Expr.Name _ _) _ _ _) _) _ _ _); refine wpAny_AugAssign_Name ?_)
  | ((with_reducible show wpAny _ _ (exec (Stmt.Return (some _) _) _) _ _ _); refine wpAny_Return_some ?_)
  | ((with_reducible show wpAny _ _ (exec (Stmt.If _ _ _ _) _) _ _ _); refine wpAny_If ?_)
  | ((with_reducible show wpAny _ _ (exec (Stmt.Continue _) _) _ _ _); refine wpAny_Continue ?_)
  | ((with_reducible show wpAny _ _ (eval (PySem.Expr.BinOp _ _ _ _) _) _ _ _); refine wpAny_BinOp ?_)
  | ((with_reducible show wpAny _ _ (isTrue (PySem.Expr.Name _ _) _ _) _ _ _); refine isTrue_plain ?_)
  | ((with_reducible show wpAny _ _ (isTrue (PySem.Expr.Compare _ [_] [_] _) _ _) _ _ _); refine wpAny_isTrue_Compare1 ?_)
  | ((with_reducible show wpAny _ _ (eval (PySem.Expr.Compare _ [_] [_] _) _) _ _ _); refine wpAny_Compare1 ?_)
  | ((with_reducible show wpAny _ _ (truthy (Value.bool _)) _ _ _); refine wpAny_truthy_bool ?_)
  | ((with_reducible show wpAny _ _ (eval (PySem.Expr.Constant (PySem.Const.int _) _ _) _) _ _ _); refine c_int (by assumption) ?_; intro s' t' S')
  | ((with_reducible show wpAny _ _ (eval (PySem.Expr.Constant (PySem.Const.str _) _ _) _) _ _ _); refine c_str (by assumption) ?_; intro s' t' S')
  | ((with_reducible show wpAny _ _ (eval (PySem.Expr.Constant (PySem.Const.bool _) _ _) _) _ _ _); refine c_bool ?_)
  | ((with_reducible show wpAny _ _ (eval (PySem.Expr.Constant PySem.Const.none _ _) _) _ _ _); refine c_none ?_)
  | ((with_reducible show wpAny _ _ (eval (PySem.Expr.Name _ _) _) _ _ _); refine ld_loc (by assumption) rfl (by first | rfl | assumption) ?_)
  | ((with_reducible show wpAny _ _ (loadName _ _) _ _ _); refine ldn_loc (by assumption) rfl (by first | rfl | assumption) ?_)
  | ((with_reducible show wpAny _ _ (eval (PySem.Expr.List _ _) _) _ _ _); refine List_ ?_)
  | ((with_reducible show wpAny _ _ (eval (PySem.Expr.Tuple _ _ _) _) _ _ _); refine Tuple_ ?_)
  | ((with_reducible show wpAny _ _ (eval (PySem.Expr.Subscript _ _ _) _) _ _ _); refine Subscript_ ?_)
  | ((with_reducible show wpAny _ _ (eval (PySem.Expr.Call (PySem.Expr.Name _ _) _ [] _) _) _ _ _); refine Call_ ?_)
  | ((with_reducible show wpAny _ _ (eval (PySem.Expr.Call (PySem.Expr.Attribute _ _ _) _ [] _) _) _ _ _); refine MethodCall_ ?_)
  | ((with_reducible show wpAny _ _ (spliced (backTo _ (starEach [] _))) _ _ _); refine args_nil ?_)
  | ((with_reducible show wpAny _ _ (spliced (backTo _ (starEach (_ :: _) _))) _ _ _); refine args_cons ?_)
  | ((with_reducible show wpAny _ _ (newList _) _ _ _); refine n_list (by assumption) (Nat.le_of_ble_eq_true rfl) ?_; intro s' a' ha' S')
  | ((with_reducible show wpAny _ _ (newTuple _) _ _ _); refine n_tuple (by assumption) (Nat.le_of_ble_eq_true rfl) ?_; intro s' a' ha' S')
  | ((with_reducible show wpAny _ _ (compareOp PySem.CmpOp.Eq (Value.str _ _) (Value.str _ _)) _ _ _); refine PyProof.Rows.eq_str ?_)
  | ((with_reducible show wpAny _ _ (binaryOp PySem.Operator.Mod (Value.int _ _) (Value.int _ _)) _ _ _); refine b_mod (by assumption) (by decide) ?_; intro s' t' S')
  | ((with_reducible show wpAny _ _ (binaryOp PySem.Operator.FloorDiv (Value.int _ _) (Value.int _ _)) _ _ _); refine b_div (by assumption) (by decide) (PyProof.noPylong_of_log2 (by decide +kernel)) ?_; intro s' t' S')
  | ((with_reducible show wpAny _ _ (storeName _ _ _) _ _ _); refine st_loc (by assumption) rfl ?_; intro s' S'))
theorem paired_rev {α β : Type} {F : α → β → Prop} : ∀ {l₁ : List α} {l₂ : List β}, Paired F l₁ l₂ → Paired F l₁.reverse l₂.reverse
  | _, _, .nil => .nil
  | _, _, .cons h t => by rw [List.reverse_cons, List.reverse_cons]; exact paired_snoc h (paired_rev t)
section
variable {prog : Program} {w : World} {A : Around} {s₀ s : Shared} {ns : NsL} {mu : MuL} {gn : Heap} {q : Nat × (Str → Option Value)} {E : Value → Shared → Prop}
theorem sl_list {value slice : PySem.Expr} {l : Nat} {items : Array Value} {vl vu vk : Value} {lo hi st : Option Int} {ops : List Value} {Q : Value → Shared → Prop} (S : St s₀ (q :: ns) mu gn s) (hl : s.heap.IsList l items) (pl : IsPart vl lo) (pu : IsPart vu hi) (pk : IsPart vk st) (h0 : st ≠ some 0) (hsz : items.size ≤ 1000)
    (h : ∀ (D : Nat) s', St s₀ (q :: ns) ((D, listOf (slicePick items lo hi st) 0) :: mu) gn s' → Q (.ref D) s')
    (hs : subscripted slice false (.ref l) (.ref s.heap.objs.size) = operate ops (getItem (.ref l) (.ref s.heap.objs.size)) := by with_unfolding_all rfl) :
    wpAny (model prog w) A (subscriptTail value slice (.ref l) (.ref s.heap.objs.size)) Q E { s with heap := s.heap.push { cls := .type "slice", data := .fields #[vl, vu, vk] } } := by
  have S₁ := (S.push { cls := .type "slice", data := .fields #[vl, vu, vk] }).drop
  exact tail_any (Heap.IsList.typeIs (s := { s with heap := s.heap.push { cls := .type "slice", data := .fields #[vl, vu, vk] } }) (hl.push _)) slot_list_getitem.lookup
    (wpAny_getItem_list_slice (hl.push _) (Heap.IsSliceOf.new ..) pl pu pk h0 (h _ _ (S₁.push _)) (by rw [sizeLine_eq]; omega)) hs
end
def wstep (k : Str) (acc : List Str) (p : Str × Str) : List Str := if (p.1 == k && !(acc.any (· == p.2))) = true then acc ++ [p.2] else acc
theorem wstep_yes {k : Str} {acc : List Str} {p : Str × Str} (h1 : (p.1 == k) = true) (h2 : (!(acc.any (· == p.2))) = true) : wstep k acc p = acc ++ [p.2] := by unfold wstep; rw [if_pos (by rw [h1, h2]; rfl)]
theorem wstep_no1 {k : Str} {acc : List Str} {p : Str × Str} (h1 : (p.1 == k) = false) : wstep k acc p = acc := by unfold wstep; rw [if_neg (by rw [h1]; simp)]
theorem wstep_no2 {k : Str} {acc : List Str} {p : Str × Str} (h2 : (!(acc.any (· == p.2))) = false) : wstep k acc p = acc := by unfold wstep; rw [if_neg (by rw [h2]; simp)]
def wordsOf (ps : List (Str × Str)) (k : Str) : List Str := ps.reverse.foldl (wstep k) []
theorem wfold_len (k : Str) : ∀ (l : List (Str × Str)) (acc : List Str), (l.foldl (wstep k) acc).length ≤ acc.length + l.length
  | [], acc => Nat.le_refl _
  | p :: r, acc => by
    have h1 := wfold_len k r (wstep k acc p)
    have h2 : (wstep k acc p).length ≤ acc.length + 1 := by
      unfold wstep
      split
      · simp
      · omega
    rw [List.foldl_cons, List.length_cons]; omega
abbrev WJ (ps : List (Str × Str)) (k : Str) (L : Nat) (i : Nat) (ns : NsL) (mu : MuL) (gn : Heap) : Prop :=
  ∃ (m : Str → Option Value) (D : Nat) (its : Array Value) (n : Nat) (tk : Tok), ns = [(L, m)] ∧ mu = [(D, listOf its n)] ∧ m (Str.ofString "words") = some (.ref D) ∧ m (Str.ofString "key") = some (.str k tk) ∧
    StrsAre its.toList ((ps.reverse.take i).foldl (wstep k) [])
section
variable {prog : Program} {w : World} {A : Around} {s : Shared}
theorem words_spec {l : Nat} {ps : List (Str × Str)} {k : Str} {tk : Tok} (hh : A.handled = none) (hroom : A.depth < recursionLimit) (D : Gd (KK w.params) s.heap) (hp : PairsL s.heap l ps) (hn : ps.length ≤ 100) :
    codeAny (model prog w) A (.call (.ref 96) ⟨[.ref l, .str k tk], []⟩) (fun r s' => ∃ a : Nat, r = .ok (.ret (.ref a)) ∧ Keeps s s' ∧ s.heap.objs.size ≤ a ∧ StrsL s'.heap a (wordsOf ps k)) s := by
  obtain ⟨vs, n, hl, hv⟩ := hp
  have hvl := paired_len hv
  rw [Array.length_toList] at hvl
  refine enter (binds := [(Str.ofString "pairs", .ref l), (Str.ofString "key", .str k tk)]) D hroom rfl rfl rfl rfl (Nat.succ_pos _) fun L s' S => ?_
  repeat walk_at "m"
  refine exec_for ?_
  walk_at "m"
  walk_at "m"
  rename St _ _ _ _ _ => S₁
  refine wpAny_Slice ?_
  refine wpAny_evalPart_none ?_
  refine wpAny_evalPart_none ?_
  refine wpAny_evalPart_some ?_
  refine wpAny_UnaryOp ?_
  refine c_int S₁ fun s₂ t₂ S₂ => ?_
  refine u_neg S₂ fun s₃ t₃ S₃ => ?_
  refine sl_list S₃ ⟨_, S₃.keep _ _ hl, rfl, _, rfl⟩ .none .none (.int _ _) (by decide) (by omega) fun Dr s₄ S₄ => ?_
  rw [krv_pick] at S₄
  obtain ⟨g₁, hg₁, hDr, S₅⟩ := S₄.freeze1
  have hvr : Paired (PairV s.heap) vs.toList.reverse.toArray.toList ps.reverse := paired_rev hv
  refine it_list S₅ (.inr hDr) rfl ⟨_, rfl⟩ ?_ hh
  intro I oI s₆ hh' S₆ hT W
  refine for_st W (goOk_list fun i v e => let ⟨_, _, t, e', _⟩ := Paired.get hvr i v (by rw [Array.getElem?_toList]; exact e); ⟨t, e'⟩) (WJ ps k L) S₆ hT ⟨_, _, _, _, tk, rfl, rfl, rfl, rfl, .nil⟩ ?_ ?_
  · rintro i v ns' mu' gn' oI' s₇ hi hP hg ⟨m', D', its, n', tk', rfl, rfl, hm1, hm2, hits⟩ S₇
    obtain ⟨p, hp, t, rfl, t₁, t₂, ht⟩ := Paired.get hvr i v (by rw [Array.getElem?_toList]; exact hP)
    have htu := isTuple_of (S₇.keep _ _ ht)
    have hlen := StrsAre.length hits
    rw [Array.length_toList] at hlen
    have hfl := wfold_len k (ps.reverse.take i) []
    have hstep : (ps.reverse.take (i + 1)).foldl (wstep k) [] = wstep k ((ps.reverse.take i).foldl (wstep k) []) p := by rw [List.take_add_one, hp, List.foldl_append]; rfl
    unfold forGo
    refine as_two hh S₇ rfl htu fun s₈ S₈ => ?_
    walk_at "m"
    walk_at "m"
    refine isTrue_and ?_
    repeat walk_at "m"
    have hfl2 : ((ps.reverse.take i).foldl (wstep k) []).length ≤ ps.length := by
      have h3 : (ps.reverse.take i).length ≤ ps.length := by simp; omega
      simp only [List.length_nil, Nat.zero_add] at hfl
      omega
    refine split_bool (fun hb => ?_) (fun hb => ?_)
    · refine isTrue_and ?_
      repeat walk_at "m"
      refine f_notin (isList_of (S₈.swap.mu0)) hits ?_
      repeat walk_at "m"
      refine split_bool (fun hb2 => ?_) (fun hb2 => ?_)
      · refine isTrue_and_nil ?_
        refine ite_pos rfl ?_
        walk_at "m"
        refine wpAny_Expr ?_
        walk_at "m"
        walk_at "m"
        refine m_append (S₈.swap.mu0) ?_
        refine callWith_method1 ?_
        repeat walk_at "m"
        refine f_append S₈.swap (by rw [sizeLine_eq]; omega) fun s₉ S₉ => ?_
        repeat walk_at "m"
        have S₁₀ := S₉.swap
        refine ⟨_, _, gn', Sub.refl _, ?_, S₁₀⟩
        refine ⟨_, D', _, _, tk', rfl, rfl, hm1, hm2, ?_⟩
        rw [hstep, wstep_yes hb hb2, Array.toList_push]
        exact StrsAre.snoc hits
      · refine ite_neg (by decide) ?_
        repeat walk_at "m"
        refine ⟨_, _, gn', Sub.refl _, ?_, S₈⟩
        refine ⟨_, D', _, _, tk', rfl, rfl, hm1, hm2, ?_⟩
        rw [hstep, wstep_no2 hb2]
        exact hits
    · refine ite_neg (by decide) ?_
      repeat walk_at "m"
      refine ⟨_, _, gn', Sub.refl _, ?_, S₈⟩
      refine ⟨_, D', _, _, tk', rfl, rfl, hm1, hm2, ?_⟩
      rw [hstep, wstep_no1 hb]
      exact hits
  · rintro ns' mu' gn' s₇ hg ⟨m', D', its, n', tk', rfl, rfl, hm1, hm2, hits⟩ S₇
    repeat walk_at "m"
    refine ⟨D', rfl, S₇.keepsAll, S₇.anew _ (by simp), its, n', S₇.mu0, ?_⟩
    have e : (ps.reverse.take vs.toList.reverse.toArray.size) = ps.reverse := List.take_of_length_le (by simp; omega)
    rw [e] at hits
    exact hits
end
end Mine

end

/-! ### part G11 -/
section
open PySem PySem.W PyProof.Rows
set_option maxRecDepth 100000
set_option maxHeartbeats 4000000
set_option linter.unusedVariables false
namespace Mine

local macro_rules | `(tactic| walk_at "m") => `(tactic| first
  | ((with_reducible show wpAny _ _ (execs (_ :: _) _) _ _ _); refine wpAny_execs_cons ?_)
  | ((with_reducible show wpAny _ _ (execs [] _) _ _ _); refine wpAny_execs_nil ?_)
  | ((with_reducible show wpAny _ _ (exec (Stmt.Assign [PySem.Expr.Name _ _] _ _) _) _ _ _); refine wpAny_Assign_Name ?_)
  | ((with_reducible show wpAny _ _ (exec (Stmt.AugAssign (PySem.Expr.Name _ _) _ _ _) _) _ _ _); refine wpAny_AugAssign_Name ?_)
  | ((with_reducible show wpAny _ _ (exec (Stmt.Return (some _) _) _) _ _ _); refine wpAny_Return_some ?_)
  | ((with_reducible show wpAny _ _ (exec (Stmt.If _ _ _ _) _) _ _ _); refine wpAny_If ?_)
  | ((with_reducible show wpAny _ _ (exec (Stmt.Continue _) _) _ _ _); refine wpAny_Continue ?_)
  | ((with_reducible show wpAny _ _ (eval (PySem.Expr.BinOp _ _ _ _) _) _ _ _); refine wpAny_BinOp ?_)
  | ((with_reducible show wpAny _ _ (isTrue (PySem.Expr.Name _ _) _ _) _ _ _); refine isTrue_plain ?_)
  | ((with_reducible show wpAny _ _ (isTrue (PySem.Expr.Compare _ [_] [_] _) _ _) _ _ _); refine wpAny_isTrue_Compare1 ?_)
  | ((with_reducible show wpAny _ _ (eval (PySem.Expr.Compare _ [_] [_] _) _) _ _ _); refine wpAny_Compare1 ?_)
  | ((with_reducible show wpAny _ _ (truthy (Value.bool _)) _ _ _); refine wpAny_truthy_bool ?_)
  | ((with_reducible show wpAny _ _ (eval (PySem.Expr.Constant (PySem.Const.int _) _ _) _) _ _ _); refine c_int (by assumption) ?_; intro s' t' S')
  | ((with_reducible show wpAny _ _ (eval (PySem.Expr.Constant (PySem.Const.str _) _ _) _) _ _ _); refine c_str (by assumption) ?_; intro s' t' S')
  | ((with_reducible show wpAny _ _ (eval (PySem.Expr.Constant (PySem.Const.bool _) _ _) _) _ _ _); refine c_bool ?_)
  | ((with_reducible show wpAny _ _ (eval (PySem.Expr.Constant PySem.Const.none _ _) _) _ _ _); refine c_none ?_)
  | ((with_reducible show wpAny _ _ (eval (PySem.Expr.Name _ _) _) _ _ _); refine ld_loc (by assumption) rfl (by first | rfl | assumption) ?_)
  | ((with_reducible show wpAny _ _ (loadName _ _) _ _ _); refine ldn_loc (by assumption) rfl (by first | rfl | assumption) ?_)
  | ((with_reducible show wpAny _ _ (eval (PySem.Expr.List _ _) _) _ _ _); refine List_ ?_)
  | ((with_reducible show wpAny _ _ (eval (PySem.Expr.Tuple _ _ _) _) _ _ _); refine Tuple_ ?_)
  | ((with_reducible show wpAny _ _ (eval (PySem.Expr.Subscript _ _ _) _) _ _ _); refine Subscript_ ?_)
  | ((with_reducible show wpAny _ _ (eval (PySem.Expr.Call (PySem.Expr.Name _ _) _ [] _) _) _ _ _); refine Call_ ?_)
  | ((with_reducible show wpAny _ _ (eval (PySem.Expr.Call (PySem.Expr.Attribute _ _ _) _ [] _) _) _ _ _); refine MethodCall_ ?_)
  | ((with_reducible show wpAny _ _ (spliced (backTo _ (starEach [] _))) _ _ _); refine args_nil ?_)
  | ((with_reducible show wpAny _ _ (spliced (backTo _ (starEach (_ :: _) _))) _ _ _); refine args_cons ?_)
  | ((with_reducible show wpAny _ _ (newList _) _ _ _); refine n_list (by assumption) (Nat.le_of_ble_eq_true rfl) ?_; intro s' a' ha' S')
  | ((with_reducible show wpAny _ _ (newTuple _) _ _ _); refine n_tuple (by assumption) (Nat.le_of_ble_eq_true rfl) ?_; intro s' a' ha' S')
  | ((with_reducible show wpAny _ _ (compareOp PySem.CmpOp.Eq (Value.str _ _) (Value.str _ _)) _ _ _); refine PyProof.Rows.eq_str ?_)
  | ((with_reducible show wpAny _ _ (binaryOp PySem.Operator.Mod (Value.int _ _) (Value.int _ _)) _ _ _); refine b_mod (by assumption) (by decide) ?_; intro s' t' S')
  | ((with_reducible show wpAny _ _ (binaryOp PySem.Operator.FloorDiv (Value.int _ _) (Value.int _ _)) _ _ _); refine b_div (by assumption) (by decide) (PyProof.noPylong_of_log2 (by decide +kernel)) ?_; intro s' t' S')
  | ((with_reducible show wpAny _ _ (storeName _ _ _) _ _ _); refine st_loc (by assumption) rfl ?_; intro s' S'))
section
variable {prog : Program} {w : World} {A : Around} {s₀ s : Shared} {ns : NsL} {mu : MuL} {gn : Heap} {q : Nat × (Str → Option Value)} {E : Value → Shared → Prop}
theorem f_max {l : Nat} {items : Array Value} {xs : List Int} {Q : Value → Shared → Prop} (S : St s₀ ns mu gn s) (hh : A.handled = none) (hl : s.heap.IsList l items) (hi : IntsAre items.toList xs) (hne : 0 < xs.length)
    (h : ∀ M t s', M ∈ xs → (∀ a, a ∈ xs → a ≤ M) → St s₀ ns mu gn s' → Q (.int M t) s') : wpAny (model prog w) A (call (.builtin "max") [.ref l]) Q E s := by
  have hlen := IntsAre.length hi
  obtain ⟨ys, hys⟩ := (show AllInts items from by simpa using hi.allInts).items
  subst hys
  have hnum : xs = ys.toList.map (·.1) := by rw [← IntsAre.numsOf hi, nums_intItems]
  have hsz : 0 < ys.size := by
    rw [hnum] at hne
    simpa using hne
  refine wp_pos S (max_intList hh hl hsz fun v h' tk hv hk => ?_)
  intro hp
  obtain ⟨t, rfl⟩ := intItems_at hv
  obtain ⟨h1, h2⟩ := argBest_gt (numAt ys) (ys.size - 1)
  refine h _ _ _ ?_ (fun a ha => ?_) (S.keeps (s' := { s with heap := h', toks := tk }) ⟨h', tk, rfl, hk⟩ hp)
  · rw [hnum, numAt_eq]; exact getD_mem (by rw [List.length_map, Array.length_toList]; omega)
  · rw [hnum] at ha
    obtain ⟨j, hj, rfl⟩ := mem_getD ha
    rw [List.length_map, Array.length_toList] at hj
    rw [← numAt_eq]; exact h2 j (by omega)
theorem enterC' {s : Shared} {K : Frag} {R : Result → Shared → Prop} {name : Str} {params : Arguments} {body : List Stmt} {scope : Scope} {pm cd doc oc : Value} {od : Option Addr} {osl : Array (Option Value)} {a : Addr} {args : List Value} {binds : List (Str × Value)} {x : Str}
    (D : Gd K s.heap) (hroom : A.depth < recursionLimit) (ho : K.lookup a = some ⟨oc, od, .func (Calls.docDef name params body scope pm cd doc), osl⟩) (hcd : codeIn K cd name = true)
    (hbind : bindArgs (Calls.docDef name params body scope pm cd doc) ⟨args, []⟩ = pure binds)
    (hkind : (binds.all fun y => scope.names.lookup y.1 == some .local || scope.names.lookup y.1 == some .cell) = true)
    (hone : ∀ n, cellsFrom n scope.names [] = [(x, n)]) (hpos : 0 < s.toks)
    (h : ∀ (L : Nat) (o : Obj) (s' : Shared), o.data = .cell (bindC (envOfC name scope L a cd).kindOf binds (fun _ => none) x) → St s [(L, bindL (envOfC name scope L a cd).kindOf binds fun _ => none)] [(L + 1, o)] { objs := #[] } s' →
      wpAny (model prog w) (A.deeper (envOfC name scope L a cd)) (execs body (envOfC name scope L a cd)) (fun f s' => R (.ok (.ret (match f with | .ret v => v | _ => .none))) s') NoE s')
    (hco : scope.isCoroutine = false := by rfl) (hgen : scope.isGenerator = false := by rfl) (hk : scope.kind = .function := by rfl) :
    codeAny (model prog w) A (.call (.ref a) ⟨args, []⟩) R s :=
  enterC D hroom ho hcd hbind hkind hone hpos (fun L c o s' e hd S => by subst e; exact h L o s' hd S) hco hgen hk
end
theorem ints_snoc {i : Int} {t : Tok} : ∀ {vs : List Value} {xs : List Int}, IntsAre vs xs → IntsAre (vs ++ [.int i t]) (xs ++ [i])
  | _, _, .nil => .cons i t .nil
  | _, _, .cons z u h => .cons z u (ints_snoc h)
def lensOf (ps : List (Str × Str)) : List Nat := ps.map fun p => (wordsOf ps p.1).length
def maxLen (ps : List (Str × Str)) : Nat := (lensOf ps).foldr max 0
theorem foldr_max {l : List Nat} {N : Nat} (h1 : N ∈ l) (h2 : ∀ a ∈ l, a ≤ N) : l.foldr max 0 = N := by
  have ub : ∀ l : List Nat, (∀ a ∈ l, a ≤ N) → l.foldr max 0 ≤ N := by
    intro l
    induction l with
    | nil => intro _; exact Nat.zero_le _
    | cons a r ih =>
      intro h
      have := ih fun b hb => h b (.tail _ hb)
      have := h a (.head _)
      show max a (r.foldr max 0) ≤ N
      omega
  have lb : ∀ l : List Nat, N ∈ l → N ≤ l.foldr max 0 := by
    intro l
    induction l with
    | nil => intro h; cases h
    | cons a r ih =>
      intro h
      show N ≤ max a (r.foldr max 0)
      rcases List.mem_cons.mp h with rfl | h
      · omega
      · have := ih h
        omega
  exact Nat.le_antisymm (ub l h2) (lb l h1)
def rstep (ps : List (Str × Str)) (t : Nat) (row : List (Str × Str)) (p : Str × Str) : List (Str × Str) :=
  if (((wordsOf ps p.1).drop t).any (· == p.2)) = true then
    if (!((row.map (·.1)).any (· == p.1))) = true then row ++ [(p.1, ((wordsOf ps p.1).drop t).headD (Str.ofString ""))] else row
  else row
theorem rstep_yes {ps : List (Str × Str)} {t : Nat} {row : List (Str × Str)} {p : Str × Str} (h1 : (((wordsOf ps p.1).drop t).any (· == p.2)) = true) (h2 : (!((row.map (·.1)).any (· == p.1))) = true) : rstep ps t row p = row ++ [(p.1, ((wordsOf ps p.1).drop t).headD (Str.ofString ""))] := by
  unfold rstep; rw [if_pos h1, if_pos h2]
theorem rstep_no1 {ps : List (Str × Str)} {t : Nat} {row : List (Str × Str)} {p : Str × Str} (h1 : (((wordsOf ps p.1).drop t).any (· == p.2)) = false) : rstep ps t row p = row := by
  unfold rstep; rw [if_neg (by rw [h1]; decide)]
theorem rstep_no2 {ps : List (Str × Str)} {t : Nat} {row : List (Str × Str)} {p : Str × Str} (h2 : (!((row.map (·.1)).any (· == p.1))) = false) : rstep ps t row p = row := by
  unfold rstep
  split
  · rw [if_neg (by rw [h2]; decide)]
  · rfl
def rowOf (ps : List (Str × Str)) (t : Nat) : List (Str × Str) := ps.foldl (rstep ps t) []
def roundsOf (ps : List (Str × Str)) : List (List (Str × Str)) := (List.range (maxLen ps)).map (rowOf ps)
theorem rfold_len (ps : List (Str × Str)) (t : Nat) : ∀ (l acc : List (Str × Str)), (l.foldl (rstep ps t) acc).length ≤ acc.length + l.length
  | [], acc => Nat.le_refl _
  | p :: r, acc => by
    have h1 := rfold_len ps t r (rstep ps t acc p)
    have h2 : (rstep ps t acc p).length ≤ acc.length + 1 := by
      unfold rstep
      split
      · split
        · simp
        · omega
      · omega
    rw [List.foldl_cons, List.length_cons]; omega
theorem words_le (ps : List (Str × Str)) (k : Str) : (wordsOf ps k).length ≤ ps.length := by
  have := wfold_len k ps.reverse []
  simp only [List.length_nil, Nat.zero_add, List.length_reverse] at this
  exact this
def WordsV (ps : List (Str × Str)) (g : Heap) (v : Value) (p : Str × Str) : Prop := ∃ a : Nat, v = .ref a ∧ StrsL g a (wordsOf ps p.1)
theorem StrsL.mono {h h' : Heap} {l : Nat} {ys : List Str} (k : Sub h h') (x : StrsL h l ys) : StrsL h' l ys := let ⟨vs, n, e, y⟩ := x; ⟨vs, n, k _ _ e, y⟩
theorem WordsV.mono {ps : List (Str × Str)} {g g' : Heap} {v : Value} {p : Str × Str} (k : Sub g g') (x : WordsV ps g v p) : WordsV ps g' v p := let ⟨a, e, y⟩ := x; ⟨a, e, y.mono k⟩
abbrev LJ (ps : List (Str × Str)) (q₀ : Nat) (L l D₁ : Nat) (i : Nat) (ns : NsL) (mu : MuL) (gn : Heap) : Prop :=
  ∃ (m : Str → Option Value) (o : Obj) (D : Nat) (its : Array Value) (n : Nat), ns = [(L, m)] ∧ mu = [(D, listOf its n), (L + 1, o)] ∧ o.data = .cell (some (.ref l)) ∧ m (Str.ofString "lists") = some (.ref D₁) ∧ m (Str.ofString "rounds") = some (.ref D) ∧
    Paired (RowV gn) its.toList ((List.range i).map (rowOf ps))
abbrev RJ (ps : List (Str × Str)) (t : Nat) (L l D₁ Rw I₃ : Nat) (oI' : Obj) (Dr : Nat) (od o₃ : Obj) (i : Nat) (ns : NsL) (mu : MuL) (gn : Heap) : Prop :=
  ∃ (m : Str → Option Value) (rits : Array Value) (rn : Nat) (tt : Tok), ns = [(L, m)] ∧ mu = [(Rw, listOf rits rn), (I₃, oI'), (Dr, od), (L + 1, o₃)] ∧ m (Str.ofString "lists") = some (.ref D₁) ∧ m (Str.ofString "rounds") = some (.ref Dr) ∧
    m (Str.ofString "row") = some (.ref Rw) ∧ m (Str.ofString "turn") = some (.int t tt) ∧ Paired (PairV gn) rits.toList ((ps.take i).foldl (rstep ps t) [])
theorem strs_drop : ∀ (n : Nat) {vs : List Value} {ys : List Str}, StrsAre vs ys → StrsAre (vs.drop n) (ys.drop n)
  | 0, _, _, h => h
  | _ + 1, _, _, .nil => .nil
  | n + 1, _, _, .cons _ _ h => strs_drop n h
theorem pick_from {items : Array Value} {t : Nat} : slicePick items (some (t : Int)) none none = (items.toList.drop t).toArray := by
  rw [slicePick_plain]
  show ((items.toList.drop (clipAt items.size t)).take (items.size - clipAt items.size t)).toArray = _
  rw [clipAt_nat]
  congr 1
  rw [List.take_of_length_le (by simp)]
  rcases Nat.le_total t items.size with h | h
  · rw [Nat.min_eq_left h]
  · rw [Nat.min_eq_right h, List.drop_eq_nil_of_le (by simp), List.drop_eq_nil_of_le (by simpa using h)]
theorem St.thaw {s₀ s : Shared} {ns : NsL} {mu : MuL} {gn : Heap} {a : Nat} {o : Obj} (S : St s₀ ns mu gn s) (ha : gn.get? a = some o) : St s₀ ns ((a, o) :: mu) (vis gn fun b => !(decide (b = a))) s := by
  have hsub : Sub (vis gn fun b => !(decide (b = a))) gn := vis_sub _ _
  have S' : St s₀ ns mu (vis gn fun b => !(decide (b = a))) s := { S with sub := hsub.trans S.sub, gnew := fun b o e => S.gnew b o (hsub b o e), gns := fun p hp => (by
    cases h : (vis gn fun b => !(decide (b = a))).get? p.1 with
    | none => rfl
    | some x => have := hsub _ _ h; rw [S.gns p hp] at this; cases this), gmu := fun p hp => (by
    cases h : (vis gn fun b => !(decide (b = a))).get? p.1 with
    | none => rfl
    | some x => have := hsub _ _ h; rw [S.gmu p hp] at this; cases this) }
  refine S'.add (S.sub a o ha) (S.gnew a o ha) (by rw [vis_get, if_neg (by simp)]) fun hm => ?_
  rcases List.mem_append.mp hm with h | h
  · obtain ⟨p, hp, rfl⟩ := List.mem_map.mp h
    rw [S.gns p hp] at ha; cases ha
  · obtain ⟨p, hp, rfl⟩ := List.mem_map.mp h
    rw [S.gmu p hp] at ha; cases ha
theorem sub_thaw {g g' : Heap} {a : Nat} (h : Sub g g') (ha : g.get? a = none) : Sub g (vis g' fun b => !(decide (b = a))) := fun b o e => by
  rw [vis_get, if_pos]
  · exact h b o e
  · have : b ≠ a := fun h => by rw [h, ha] at e; cases e
    simpa using this
section
variable (P : Params)
theorem k_kp96 : keepIn (KK P) (.ref 96) = true := by kernel_rfl
end
section
variable {prog : Program} {w : World} {A : Around} {s : Shared}
theorem rounds_spec {l : Nat} {ps : List (Str × Str)} (hh : A.handled = none) (hroom : A.depth + 4 < recursionLimit) (htk : 0 < s.toks) (D : Gd (KK w.params) s.heap) (hp : PairsL s.heap l ps) (hn : ps.length ≤ 100) (hne : ps ≠ []) :
    codeAny (model prog w) A (.call (.ref 101) ⟨[.ref l], []⟩) (fun r s' => ∃ a : Nat, r = .ok (.ret (.ref a)) ∧ Keeps s s' ∧ RowsL s'.heap a (roundsOf ps)) s := by
  have hp0 := hp
  obtain ⟨vs, n, hl, hv⟩ := hp
  have hvl := paired_len hv
  rw [Array.length_toList] at hvl
  refine enterC' D (by omega) (binds := [(Str.ofString "pairs", .ref l)]) (x := Str.ofString "pairs") rfl rfl rfl rfl (fun _ => rfl) htk fun L o s' ho S => ?_
  have ho' : o.data = .cell (some (.ref l)) := ho
  walk_at "m"
  refine comp_assign (s₀ := s) (cl := [(Str.ofString "pairs", L + 1)]) rfl rfl rfl (by kernel_rfl) rfl (by decide) (by decide) ?_
  refine ld_cell S (.head _) ho' rfl ?_
  refine it_list S (.inl hl) rfl ⟨_, rfl⟩ ?_ hh
  intro I oI s₁ hh' S₁ hT W
  refine ⟨I, _, oI, _, _, _, _, _, _, fun i ys g => Paired (WordsV ps g) ys (ps.take i), rfl, W, goOk_list (fun i v e => let ⟨_, _, t, e', _⟩ := Paired.get hv i v (by rw [Array.getElem?_toList]; exact e); ⟨t, e'⟩), S₁, hT, .nil, by rw [sizeLine_eq]; omega, ?_, ?_⟩
  · intro i v ys g oI₂ s₂ C mC D₂ oD hi hP hg hJ S₂
    obtain ⟨p, hp, t, rfl, t₁, t₂, ht⟩ := Paired.get hv i v (by rw [Array.getElem?_toList]; exact hP)
    refine as_two hh S₂ rfl (isTuple_of (S₂.keep _ _ ht)) fun s₃ S₃ => ?_
    walk_at "m"
    refine ld_K (v := .ref 96) (S₃.gd D) (by kernel_rfl) ?_
    refine callWith_K (S₃.gd D).X (k_kp96 _) ?_
    walk_at "m"
    refine ld_cell S₃ (by simp) ho' rfl ?_
    repeat walk_at "m"
    refine ⟨(S₃.gd D).X, wp_pos S₃ (wpAny_call (codeAny_mono (words_spec (ps := ps) hh (by show A.depth + 1 < _; omega) (S₃.gd D) (hp0.mono S₃.keep) hn) fun r s₄ hr => ?_))⟩
    obtain ⟨a, rfl, hk, ha, hst⟩ := hr
    intro hpos
    obtain ⟨g₁, hg₁, hgt, S₄⟩ := S₃.take hk hpos
    obtain ⟨vs₁, n₁, e₁, e₂⟩ := hst
    refine ⟨_, g₁, hg₁, ?_, S₄⟩
    show Paired (WordsV ps g₁) (ys ++ [.ref a]) (ps.take (i + 1))
    rw [List.take_add_one, hp]
    exact paired_snoc ⟨a, rfl, vs₁, n₁, hgt _ _ e₁ ha, e₂⟩ (Paired.mono' (fun _ _ => WordsV.mono hg₁) hJ)
  · intro ys g s₂ D₁ k₁ hg hJ hl₁ S₂
    have hJ' : Paired (WordsV ps g) ys ps := by
      have hx : Paired (WordsV ps g) ys (ps.take vs.size) := hJ
      rw [hvl, List.take_length] at hx
      exact hx
    obtain ⟨g₁, hg₁, hD₁, S₃⟩ := S₂.freeze1
    have hLs : Paired (WordsV ps g₁) ys ps := Paired.mono' (fun _ _ => WordsV.mono hg₁) hJ'
    have hyl := paired_len hLs
    clear hJ hJ' S₂ S₁ S hT W
    repeat walk_at "m"
    refine exec_for ?_
    walk_at "m"
    refine ld_B (St.gd (by assumption) D) (by kernel_rfl) Boot.«range» ?_
    refine Pv.callWith_type1 ?_
    walk_at "m"
    walk_at "m"
    refine ld_B (St.gd (by assumption) D) (by kernel_rfl) Boot.«max» ?_
    refine PyProof.Rows.callWith_builtin1 ?_
    walk_at "m"
    rename St _ _ ((_, PySem.W.listOf #[] 0) :: _) _ _ => S₄
    refine comp_eval (s₀ := s) (closureFor_none (by decide)) rfl (by decide) (by decide) ?_
    walk_at "m"
    refine it_list S₄ (.inr hD₁) rfl ⟨_, rfl⟩ ?_ hh
    intro I₂ oI₂ s₅ hh₂ S₅ hT₂ W₂
    refine ⟨I₂, _, oI₂, _, _, _, _, _, _, fun i xs g => IntsAre xs (((lensOf ps).take i).map fun (x : Nat) => (x : Int)), rfl, W₂, goOk_name, S₅, hT₂, .nil, by rw [sizeLine_eq]; simp; omega, ?_, ?_⟩
    · intro i v xs g₂ oI₃ s₆ C mC D₂ oD hi hP hg₂ hJ₂ S₆
      have hP' : ys[i]? = some v := by simpa using hP
      obtain ⟨p, hp, a, rfl, vsw, nw, hw, hws⟩ := Paired.get hLs i v hP'
      have hwl := StrsAre.length hws
      rw [Array.length_toList] at hwl
      have hwb := words_le ps p.1
      refine as_loc S₆ rfl fun s₇ S₇ => ?_
      walk_at "m"
      refine ld_B (S₇.gd D) (by kernel_rfl) Boot.«len» ?_
      refine PyProof.Rows.callWith_builtin1 ?_
      repeat walk_at "m"
      refine f_len S₇ ⟨_, S₇.sub _ _ (hg₂ _ _ hw), rfl, _, rfl⟩ (by omega) fun s₈ t₈ S₈ => ?_
      refine ⟨_, g₂, Sub.refl _, ?_, S₈⟩
      have e : (lensOf ps).take (i + 1) = (lensOf ps).take i ++ [(wordsOf ps p.1).length] := by
        rw [List.take_add_one]
        unfold lensOf
        rw [List.getElem?_map, hp]
        rfl
      show IntsAre _ (((lensOf ps).take (i + 1)).map fun (x : Nat) => (x : Int))
      rw [e, List.map_append, hwl]
      exact ints_snoc hJ₂
    · intro xs g₂ s₆ D₂ k₂ hg₂ hJ₂ hl₂ S₆
      have hyz : ys.toArray.size = (lensOf ps).length := by rw [List.size_toArray, hyl]; unfold lensOf; simp
      have hJ₃ : IntsAre xs ((lensOf ps).map fun (x : Nat) => (x : Int)) := by
        have hx : IntsAre xs (((lensOf ps).take ys.toArray.size).map fun (x : Nat) => (x : Int)) := hJ₂
        rw [hyz, List.take_length] at hx
        exact hx
      walk_at "m"
      have hpl : 0 < ps.length := List.length_pos_iff.mpr hne
      refine f_max S₆ hh (isList_of S₆.mu0) (by simpa using hJ₃) (by unfold lensOf; simpa using hpl) fun M tM s₇ hM1 hM2 S₇ => ?_
      obtain ⟨N, hN, rfl⟩ := List.mem_map.mp hM1
      have hNm : N = maxLen ps := (foldr_max hN fun a ha => by
        have := hM2 (a : Int) (List.mem_map.mpr ⟨a, ha, rfl⟩)
        omega).symm
      subst hNm
      have hNb : maxLen ps ≤ 100 := by
        unfold lensOf at hN
        obtain ⟨p, hp, e⟩ := List.mem_map.mp hN
        have := words_le ps p.1
        omega
      have S₈ := S₇.drop
      clear S₇ S₆
      walk_at "m"
      refine f_range S₈ fun r s₉ t₉ u₉ v₉ hr S₉ => ?_
      have hsmall : Builtin.Range.small 0 (maxLen ps : Int) 1 = true := small_one (by decide) (by decide) (by omega) (by omega)
      have hrs : Builtin.Range.rangeSize 0 (maxLen ps : Int) 1 = (maxLen ps : Int) := by rw [rangeSize_one]; split <;> omega
      refine it_range S₉ hr hsmall hrs (fun I₃ oI₃ s₁₀ S₁₀ hT₃ W₃ => ?_) hh
      clear S₈ S₉
      refine for_st W₃ goOk_name (LJ ps 0 L l D₁) S₁₀ hT₃ ⟨_, o, _, #[], 0, rfl, rfl, ho', rfl, rfl, .nil⟩ ?_ ?_
      · rintro i v ns' mu' gn' oI' s₁₁ hi ⟨ti, rfl⟩ hg₃ ⟨m', o₃, Dr, its, n', rfl, rfl, ho₃, hm1, hm2, hrows⟩ S₁₁
        have hll : ∀ {s' : Shared} {ns' : NsL} {mu' : MuL} {g : Heap}, St s ns' mu' g s' → s'.heap.get? l = some (listOf vs n) := fun S' => S'.keep _ _ hl
        have ei : (0 + (i : Int) * 1) = (i : Int) := by omega
        rw [ei]
        unfold forGo
        refine as_loc S₁₁ rfl fun s₁₂ S₁₂ => ?_
        repeat walk_at "m"
        refine exec_for ?_
        walk_at "m"
        refine ld_B (St.gd (by assumption) D) (by kernel_rfl) Boot.«range» ?_
        refine Pv.callWith_type1 ?_
        walk_at "m"
        walk_at "m"
        refine ld_B (St.gd (by assumption) D) (by kernel_rfl) Boot.«len» ?_
        refine PyProof.Rows.callWith_builtin1 ?_
        walk_at "m"
        rename St _ _ ((_, PySem.W.listOf #[] 0) :: _) _ _ => S₁₃
        rename_i s₁₃ Rw _ _ s₁₄
        refine ld_cell S₁₃ (by simp) ho₃ rfl ?_
        walk_at "m"
        refine f_len S₁₃ (isList_of (hll S₁₃)) (by omega) fun s₁₅ t₁₅ S₁₅ => ?_
        walk_at "m"
        refine f_range S₁₅ fun r₂ s₁₆ t₁₆ u₁₆ v₁₆ hr₂ S₁₆ => ?_
        have hsmall₂ : Builtin.Range.small 0 (vs.size : Int) 1 = true := small_one (by decide) (by decide) (by omega) (by omega)
        have hrs₂ : Builtin.Range.rangeSize 0 (vs.size : Int) 1 = (vs.size : Int) := by rw [rangeSize_one]; split <;> omega
        refine it_range S₁₆ hr₂ hsmall₂ hrs₂ (fun I₄ oI₄ s₁₇ S₁₇ hT₄ W₄ => ?_) hh
        clear S₁₂ S₁₃ S₁₅ S₁₆
        refine for_st W₄ goOk_name (RJ ps i L l D₁ _ I₃ oI' Dr (listOf its n') o₃) S₁₇ hT₄ ⟨_, #[], 0, ti, rfl, rfl, hm1, hm2, rfl, rfl, .nil⟩ ?_ ?_
        · clear S₁₇ hT₄ W₄
          rintro j v ns' mu' g₄ oI₅ s₁₈ hj ⟨tj, rfl⟩ hg₄ ⟨m₂, rits, rn, tt, rfl, rfl, hr1, hr2, hr3, hr4, hrow⟩ S₁₈
          have ej : (0 + (j : Int) * 1) = (j : Int) := by omega
          rw [ej]
          have hjv : j < vs.size := hj
          obtain ⟨p, hp, tp, hptv, t₁, t₂, ht⟩ := Paired.get hv j vs[j] (by simp [hjv])
          have hpt : vs[j]? = some (.ref tp) := by rw [Array.getElem?_eq_getElem hjv, hptv]
          unfold forGo
          refine as_loc S₁₈ rfl fun s₁₉ S₁₉ => ?_
          clear S₁₈
          walk_at "m"
          refine Assign_Tuple ?_
          walk_at "m"
          refine ld_cell S₁₉ (by simp) ho₃ rfl ?_
          walk_at "m"
          refine sub_list (hll S₁₉) (by omega) (by omega) (by simpa using hpt) ?_
          refine as_two hh S₁₉ rfl (isTuple_of (S₁₉.keep _ _ ht)) fun s₂₀ S₂₀ => ?_
          clear S₁₉
          walk_at "m"
          walk_at "m"
          walk_at "m"
          walk_at "m"
          walk_at "m"
          walk_at "m"
          obtain ⟨a, hya, vsw, nw, hw, hws⟩ : ∃ a : Nat, ys[j]? = some (.ref a) ∧ StrsL g₁ a (wordsOf ps p.1) := by
            obtain ⟨b, hb, a, ha, hst⟩ := Paired.get hLs j ys[j] (by simp)
            rw [hp] at hb
            cases hb
            exact ⟨a, by rw [List.getElem?_eq_getElem (by omega), ha], hst⟩
          have hg14 : Sub g₁ g₄ := hg₂.trans (hg₃.trans hg₄)
          have hwl := StrsAre.length hws
          rw [Array.length_toList] at hwl
          have hwb := words_le ps p.1
          refine sub_list (S₂₀.sub _ _ (hg14 _ _ hD₁)) (by omega) (by omega) (by simpa using hya) ?_
          refine wpAny_Slice ?_
          refine wpAny_evalPart_some ?_
          walk_at "m"
          refine wpAny_evalPart_none ?_
          refine wpAny_evalPart_none ?_
          refine sl_list S₂₀ (isList_of (S₂₀.sub _ _ (hg14 _ _ hw))) (.int _ _) .none .none (by decide) (by omega) fun D₅ s₂₁ S₂₁ => ?_
          rw [pick_from] at S₂₁
          have hws₂ : StrsAre ((vsw.toList.drop i).toArray).toList ((wordsOf ps p.1).drop i) := strs_drop i hws
          refine st_loc S₂₁ rfl fun s₂₂ S₂₂ => ?_
          clear S₂₀ S₂₁
          have hstep : (ps.take (j + 1)).foldl (rstep ps i) [] = rstep ps i ((ps.take j).foldl (rstep ps i) []) p := by rw [List.take_add_one, hp, List.foldl_append]; rfl
          have hrl : ((ps.take j).foldl (rstep ps i) []).length ≤ 100 := by
            have h1 := rfold_len ps i (ps.take j) []
            have h2 : (ps.take j).length ≤ ps.length := by simp; omega
            simp only [List.length_nil, Nat.zero_add] at h1
            omega
          generalize hrow0 : (ps.take j).foldl (rstep ps i) [] = row at *
          have hrits := paired_len hrow
          rw [Array.length_toList] at hrits
          walk_at "m"
          walk_at "m"
          refine isTrue_and ?_
          repeat walk_at "m"
          refine f_in (isList_of S₂₂.mu0) hws₂ ?_
          repeat walk_at "m"
          refine split_bool (fun hb => ?_) (fun hb => ?_)
          · refine isTrue_and ?_
            walk_at "m"
            walk_at "m"
            have hRg : g₄.get? _ = none := S₂₂.gmu _ (.tail _ (.tail _ (.head _)))
            obtain ⟨g₅, hg₅, hRw, S₂₃⟩ := S₂₂.rot3.freeze1
            have hrow' : Paired (PairV g₅) rits.toList row := Paired.mono' (fun _ _ => PairV.mono hg₅) hrow
            refine comp_eval (s₀ := s) (closureFor_none (by decide)) rfl (by decide) (by decide) ?_
            walk_at "m"
            refine it_list S₂₃ (.inr hRw) rfl ⟨_, rfl⟩ ?_ hh
            intro I₆ oI₆ s₂₄ hh₆ S₂₄ hT₆ W₆
            refine ⟨I₆, _, oI₆, _, _, _, _, _, _, fun k xs g => StrsAre xs ((row.take k).map (·.1)), rfl, W₆, goOk_list (fun k v e => let ⟨_, _, t, e', _⟩ := Paired.get hrow' k v (by rw [Array.getElem?_toList]; exact e); ⟨t, e'⟩), S₂₄, hT₆, .nil, by rw [sizeLine_eq]; omega, ?_, ?_⟩
            · intro k v xs g₆ oI₇ s₂₅ C mC D₇ oD hk hP hg₆ hJ₆ S₂₅
              obtain ⟨p₂, hp₂, t₂', rfl, t₃, t₄, ht₂⟩ := Paired.get hrow' k v (by rw [Array.getElem?_toList]; exact hP)
              refine as_two hh S₂₅ rfl (isTuple_of (S₂₅.sub _ _ (hg₆ _ _ ht₂))) fun s₂₆ S₂₆ => ?_
              repeat walk_at "m"
              refine ⟨_, g₆, Sub.refl _, ?_, S₂₆⟩
              show StrsAre _ ((row.take (k + 1)).map (·.1))
              rw [List.take_add_one, hp₂, List.map_append]
              exact StrsAre.snoc hJ₆
            · intro xs g₆ s₂₅ D₇ k₇ hg₆ hJ₆ hl₆ S₂₅
              have hJ₇ : StrsAre xs.toArray.toList (row.map (·.1)) := by
                have hx : StrsAre xs ((row.take rits.size).map (·.1)) := hJ₆
                rw [hrits, List.take_length] at hx
                exact hx
              refine f_notin (isList_of S₂₅.mu0) hJ₇ ?_
              have S₂₆ := S₂₅.drop.thaw (hg₆ _ _ hRw)
              have hg₇ := sub_thaw (hg₅.trans hg₆) hRg
              clear S₂₅ S₂₄ S₂₃ S₂₂ hT₆ W₆
              repeat walk_at "m"
              refine split_bool (fun hb2 => ?_) (fun hb2 => ?_)
              · refine isTrue_and_nil ?_
                refine ite_pos rfl ?_
                obtain ⟨y, rr, ty, vr, hw1, hw2⟩ : ∃ y rr ty vr, (wordsOf ps p.1).drop i = y :: rr ∧ vsw.toList.drop i = .str y ty :: vr := by
                  cases hq : (wordsOf ps p.1).drop i with
                  | nil => rw [hq] at hb; simp at hb
                  | cons y rr =>
                    have h3 := strs_drop i hws
                    rw [hq] at h3
                    cases hq2 : vsw.toList.drop i with
                    | nil => rw [hq2] at h3; cases h3
                    | cons z vr =>
                      rw [hq2] at h3
                      cases h3
                      exact ⟨_, _, _, _, rfl, rfl⟩
                walk_at "m"
                refine wpAny_Expr ?_
                walk_at "m"
                walk_at "m"
                refine m_append S₂₆.mu0 ?_
                refine callWith_method1 ?_
                walk_at "m"
                walk_at "m"
                walk_at "m"
                walk_at "m"
                walk_at "m"
                walk_at "m"
                walk_at "m"
                refine c_int S₂₆ fun s₂₇ t₂₇ S₂₇ => ?_
                refine sub_list (v := .str y ty) S₂₇.swap.mu0 (by decide) (by decide) (by rw [hw2]; rfl) ?_
                walk_at "m"
                refine n_tuple S₂₇ (Nat.le_of_ble_eq_true rfl) fun s₂₈ T hT S₂₈ => ?_
                walk_at "m"
                refine f_append S₂₈.swap (by rw [sizeLine_eq]; omega) fun s₂₉ S₂₉ => ?_
                repeat walk_at "m"
                obtain ⟨g₈, hg₈, hTg, S₃₀⟩ := S₂₉.swap.freeze1
                have S₃₁ := S₃₀.swap.drop.swap
                refine ⟨_, _, g₈, hg₇.trans hg₈, ?_, S₃₁⟩
                refine ⟨_, _, _, tt, rfl, rfl, hr1, hr2, hr3, hr4, ?_⟩
                rw [hstep, rstep_yes hb hb2, Array.toList_push]
                have hpa : PairAt g₈ T (p.1, ((wordsOf ps p.1).drop i).headD (Str.ofString "")) := by
                  rw [hw1]
                  exact ⟨t₁, ty, hTg⟩
                exact paired_snoc ⟨T, rfl, hpa⟩ (Paired.mono' (fun _ _ => PairV.mono (hg₇.trans hg₈)) hrow)
              · refine ite_neg (by decide) ?_
                repeat walk_at "m"
                have S₃₁ := S₂₆.swap.drop.swap
                refine ⟨_, _, _, hg₇, ?_, S₃₁⟩
                refine ⟨_, _, _, tt, rfl, rfl, hr1, hr2, hr3, hr4, ?_⟩
                rw [hstep, rstep_no2 hb2]
                exact Paired.mono' (fun _ _ => PairV.mono hg₇) hrow
          · refine ite_neg (by decide) ?_
            repeat walk_at "m"
            have S₂₃ := S₂₂.drop
            refine ⟨_, _, g₄, Sub.refl _, ?_, S₂₃⟩
            refine ⟨_, _, _, tt, rfl, rfl, hr1, hr2, hr3, hr4, ?_⟩
            rw [hstep, rstep_no1 hb]
            exact hrow
        · rintro ns' mu' g₄ s₁₈ hg₄ ⟨m₂, rits, rn, tt, rfl, rfl, hr1, hr2, hr3, hr4, hrow⟩ S₁₈
          have hits := paired_len hrows
          rw [Array.length_toList, List.length_map, List.length_range] at hits
          walk_at "m"
          refine wpAny_Expr ?_
          walk_at "m"
          walk_at "m"
          refine m_append S₁₈.rot3.mu0 ?_
          refine callWith_method1 ?_
          repeat walk_at "m"
          refine f_append S₁₈.rot3 (by rw [sizeLine_eq]; omega) fun s₁₉ S₁₉ => ?_
          repeat walk_at "m"
          obtain ⟨g₅, hg₅, hRw, S₂₀⟩ := S₁₉.swap.freeze1
          have S₂₁ := S₂₀.swap
          refine ⟨_, _, g₅, hg₄.trans hg₅, ?_, S₂₁⟩
          refine ⟨_, o₃, Dr, _, _, rfl, rfl, ho₃, hr1, hr2, ?_⟩
          rw [List.range_succ, List.map_append, Array.toList_push]
          refine paired_snoc ⟨_, rfl, rits, rn, hRw, ?_⟩ (Paired.mono' (fun _ _ => RowV.mono (hg₄.trans hg₅)) hrows)
          rw [hvl, List.take_length] at hrow
          exact Paired.mono' (fun _ _ => PairV.mono hg₅) hrow
      · rintro ns' mu' gn' s₁₁ hg₃ ⟨m', o₃, Dr, its, n', rfl, rfl, ho₃, hm1, hm2, hrows⟩ S₁₁
        repeat walk_at "m"
        obtain ⟨g₄, hg₄, hDr, S₁₂⟩ := S₁₁.freeze1
        refine ⟨Dr, rfl, S₁₂.keepsAll, its, n', S₁₂.sub _ _ hDr, ?_⟩
        exact Paired.mono' (fun _ _ => RowV.mono (hg₄.trans S₁₂.sub)) hrows
end
end Mine

end

/-! ### part T3 -/
section
open PySem PySem.W PyProof.Rows
set_option maxRecDepth 100000
set_option linter.unusedVariables false
namespace Mine

/-! ## the words of a key: each once, by its last saying -/
def ddstep (acc : List Str) (x : Str) : List Str := if (!(acc.any (· == x))) = true then acc ++ [x] else acc
def dd (R : List Str) : List Str := R.foldl ddstep []
def wordsRev (ps : List (Str × Str)) (k : Str) : List Str := (ps.reverse.filter fun p => p.1 == k).map (·.2)
theorem wfold_dd (k : Str) : ∀ (l : List (Str × Str)) (acc : List Str), l.foldl (wstep k) acc = ((l.filter fun p => p.1 == k).map (·.2)).foldl ddstep acc
  | [], acc => rfl
  | p :: r, acc => by
    rw [List.foldl_cons, wfold_dd k r]
    by_cases h : (p.1 == k) = true
    · rw [List.filter_cons, if_pos h, List.map_cons, List.foldl_cons]
      congr 1
      unfold wstep ddstep
      rw [h, Bool.true_and]
    · rw [List.filter_cons, if_neg h]
      rw [wstep_no1 (by simpa using h)]
theorem words_dd (ps : List (Str × Str)) (k : Str) : wordsOf ps k = dd (wordsRev ps k) := wfold_dd k _ _
theorem any_mem {l : List Str} {x : Str} : (l.any (· == x)) = true ↔ x ∈ l := by
  rw [List.any_eq_true]
  exact ⟨fun ⟨y, hy, e⟩ => by rw [← eq_of_beq e]; exact hy, fun h => ⟨x, h, beq_self_eq_true x⟩⟩
theorem dd_snoc (R : List Str) (x : Str) : dd (R ++ [x]) = ddstep (dd R) x := by unfold dd; rw [List.foldl_append]; rfl
theorem ddstep_in {acc : List Str} {x : Str} (h : x ∈ acc) : ddstep acc x = acc := by
  unfold ddstep; rw [if_neg]; rw [any_mem.mpr h]; decide
theorem ddstep_out {acc : List Str} {x : Str} (h : x ∉ acc) : ddstep acc x = acc ++ [x] := by
  unfold ddstep
  have : acc.any (· == x) = false := by
    cases hq : acc.any (· == x) with
    | false => rfl
    | true => exact absurd (any_mem.mp hq) h
  rw [if_pos (by rw [this]; rfl)]
theorem snoc_ind {α : Type} {P : List α → Prop} (h0 : P []) (h1 : ∀ l x, P l → P (l ++ [x])) : ∀ l, P l := by
  intro l
  have : ∀ l : List α, P l.reverse := by
    intro l
    induction l with
    | nil => exact h0
    | cons a r ih => rw [List.reverse_cons]; exact h1 _ _ ih
  have := this l.reverse
  rwa [List.reverse_reverse] at this
theorem dd_mem (R : List Str) (x : Str) : x ∈ dd R ↔ x ∈ R := by
  revert R
  apply snoc_ind
  · exact Iff.rfl
  · intro R y ih
    rw [dd_snoc, List.mem_append, List.mem_singleton]
    by_cases h : y ∈ dd R
    · rw [ddstep_in h, ih]
      exact ⟨.inl, fun h' => h'.elim id fun e => e ▸ ih.symm.mpr (by rw [e]; exact h) |> fun z => (ih.mp (e ▸ h))⟩
    · rw [ddstep_out h, List.mem_append, ih, List.mem_singleton]
theorem dd_nodup (R : List Str) : (dd R).Nodup := by
  revert R
  apply snoc_ind
  · exact List.nodup_nil
  · intro R y ih
    rw [dd_snoc]
    by_cases h : y ∈ dd R
    · rw [ddstep_in h]; exact ih
    · rw [ddstep_out h, List.nodup_append]
      refine ⟨ih, by simp, fun a ha b hb => ?_⟩
      rw [List.mem_singleton.mp hb]
      exact fun e => h (e ▸ ha)
theorem find_congr {α : Type} {p q : α → Bool} : ∀ {l : List α}, (∀ y ∈ l, p y = q y) → l.find? p = l.find? q
  | [], _ => rfl
  | a :: r, h => by
    rw [List.find?_cons, List.find?_cons, h a (.head _), find_congr fun y hy => h y (.tail _ hy)]
theorem find_false {l : List Str} : l.find? (fun x => ([] : List Str).any (· == x)) = none := by
  rw [List.find?_eq_none]; intro x _; simp
theorem dd_find (t : Nat) (R : List Str) : R.find? (fun x => ((dd R).drop t).any (· == x)) = ((dd R).drop t).head? := by
  revert R
  apply snoc_ind
  · show none = (([] : List Str).drop t).head?
    simp
  · intro R x ih
    rw [dd_snoc]
    by_cases h : x ∈ dd R
    · rw [ddstep_in h, List.find?_append, ih]
      cases hq : (dd R).drop t with
      | nil => simp
      | cons a r => simp
    · rw [ddstep_out h]
      by_cases ht : t ≤ (dd R).length
      · rw [List.drop_append_of_le_length ht, List.find?_append]
        have e : R.find? (fun y => ((dd R).drop t ++ [x]).any (· == y)) = R.find? (fun y => ((dd R).drop t).any (· == y)) := by
          have hx : ∀ y ∈ R, (((dd R).drop t ++ [x]).any (· == y)) = ((dd R).drop t).any (· == y) := fun y hy => by
            rw [List.any_append]
            have : (x == y) = false := by
              apply beq_eq_false_iff_ne.mpr
              intro e
              subst e
              exact h ((dd_mem R x).mpr hy)
            simp [this]
          exact find_congr hx
        rw [e, ih]
        cases hq : (dd R).drop t with
        | nil => simp
        | cons a r => simp
      · have e : (dd R ++ [x]).drop t = [] := List.drop_eq_nil_of_le (by simp; omega)
        rw [e]
        exact find_false
end Mine

end

/-! ### part T4 -/
section
open PySem PySem.W PyProof.Rows
set_option maxRecDepth 100000
set_option linter.unusedVariables false
namespace Mine

def kstepK (ks : List Str) (p : Str × Str) : List Str := if (!(ks.any (· == p.1))) = true then ks ++ [p.1] else ks
def keysOf (l : List (Str × Str)) : List Str := l.foldl kstepK []
def lastD (l : List (Str × Str)) (k : Str) : Str := l.foldl (fun acc p => if p.1 = k then p.2 else acc) (Str.ofString "")
theorem keysOf_snoc (l : List (Str × Str)) (p : Str × Str) : keysOf (l ++ [p]) = kstepK (keysOf l) p := by unfold keysOf; rw [List.foldl_append]; rfl
theorem lastD_snoc (l : List (Str × Str)) (p : Str × Str) (k : Str) : lastD (l ++ [p]) k = if p.1 = k then p.2 else lastD l k := by unfold lastD; rw [List.foldl_append]; rfl
theorem keys_any {ks : List Str} {p : Str × Str} {f : Str → Str} : ((ks.map fun k => (k, f k)).any fun kv => decide (kv.1 = p.1)) = ks.any (· == p.1) := by
  rw [List.any_map]
  congr 1
theorem keqv_form (l : List (Str × Str)) : keqv l = (keysOf l).map fun k => (k, lastD l k) := by
  revert l
  apply snoc_ind
  · rfl
  · intro l p ih
    rw [keqv_snoc, ih, keysOf_snoc]
    unfold put
    rw [keys_any]
    unfold kstepK
    by_cases h : (keysOf l).any (· == p.1) = true
    · rw [if_pos h, if_neg (by rw [h]; decide), List.map_map]
      apply List.map_congr_left
      intro k hk
      simp only [Function.comp, lastD_snoc]
      by_cases e : k = p.1
      · rw [if_pos e, if_pos e.symm]
      · rw [if_neg e, if_neg (fun x => e x.symm)]
    · have h' : (keysOf l).any (· == p.1) = false := Bool.eq_false_iff.mpr h
      rw [if_neg h, if_pos (by rw [h']; rfl), List.map_append]
      congr 1
      · apply List.map_congr_left
        intro k hk
        rw [lastD_snoc]
        rw [if_neg]
        intro e
        subst e
        exact h (any_mem.mpr hk)
      · simp [lastD_snoc]
theorem keysOf_mem {l : List (Str × Str)} {k : Str} : k ∈ keysOf l ↔ ∃ p ∈ l, p.1 = k := by
  revert l
  apply snoc_ind
  · simp [keysOf]
  · intro l p ih
    rw [keysOf_snoc]
    unfold kstepK
    by_cases h : (keysOf l).any (· == p.1) = true
    · rw [if_neg (by rw [h]; decide), ih]
      constructor
      · rintro ⟨x, hx, e⟩; exact ⟨x, List.mem_append_left _ hx, e⟩
      · rintro ⟨x, hx, e⟩
        rcases List.mem_append.mp hx with hx | hx
        · exact ⟨x, hx, e⟩
        · rw [List.mem_singleton.mp hx] at e
          subst e
          exact ih.mp (any_mem.mp h)
    · have h' : (keysOf l).any (· == p.1) = false := Bool.eq_false_iff.mpr h
      rw [if_pos (by rw [h']; rfl), List.mem_append, ih, List.mem_singleton]
      constructor
      · rintro (⟨x, hx, e⟩ | e)
        · exact ⟨x, List.mem_append_left _ hx, e⟩
        · exact ⟨p, List.mem_append_right _ (List.mem_singleton.mpr rfl), e.symm⟩
      · rintro ⟨x, hx, e⟩
        rcases List.mem_append.mp hx with hx | hx
        · exact .inl ⟨x, hx, e⟩
        · rw [List.mem_singleton.mp hx] at e
          exact .inr e.symm
def leftOf (ps : List (Str × Str)) (t : Nat) : List (Str × Str) := ps.filter fun p => ((wordsOf ps p.1).drop t).any (· == p.2)
def headOf (ps : List (Str × Str)) (t : Nat) (k : Str) : Str := ((wordsOf ps k).drop t).headD (Str.ofString "")
theorem row_fold (ps : List (Str × Str)) (t : Nat) : ∀ (l : List (Str × Str)) (ks : List Str), l.foldl (rstep ps t) (ks.map fun k => (k, headOf ps t k)) =
    ((l.filter fun p => ((wordsOf ps p.1).drop t).any (· == p.2)).foldl kstepK ks).map fun k => (k, headOf ps t k)
  | [], ks => rfl
  | p :: r, ks => by
    rw [List.foldl_cons, List.filter_cons]
    have hm : ((ks.map fun k => (k, headOf ps t k)).map (·.1)) = ks := by rw [List.map_map]; exact List.map_id' _
    by_cases h : (((wordsOf ps p.1).drop t).any (· == p.2)) = true
    · rw [if_pos h, List.foldl_cons]
      by_cases h2 : (!(ks.any (· == p.1))) = true
      · rw [rstep_yes h (by rw [hm]; exact h2)]
        have e : kstepK ks p = ks ++ [p.1] := by unfold kstepK; rw [if_pos h2]
        rw [e, ← row_fold ps t r, List.map_append]
        rfl
      · have h2' : (!(ks.any (· == p.1))) = false := by simpa using h2
        rw [rstep_no2 (by rw [hm]; exact h2')]
        have e : kstepK ks p = ks := by unfold kstepK; rw [if_neg h2]
        rw [e]
        exact row_fold ps t r ks
    · have h' : (((wordsOf ps p.1).drop t).any (· == p.2)) = false := Bool.eq_false_iff.mpr h
      rw [if_neg h, rstep_no1 h']
      exact row_fold ps t r ks
theorem row_form (ps : List (Str × Str)) (t : Nat) : rowOf ps t = (keysOf (leftOf ps t)).map fun k => (k, headOf ps t k) := row_fold ps t ps []

theorem lastD_find (l : List (Str × Str)) (k : Str) : lastD l k = (((l.reverse.filter fun p => p.1 == k).map (·.2)).head?).getD (Str.ofString "") := by
  revert l
  apply snoc_ind
  · rfl
  · intro l p ih
    rw [lastD_snoc, List.reverse_append]
    show _ = (((p :: l.reverse).filter fun p => p.1 == k).map (·.2)).head?.getD _
    rw [List.filter_cons]
    by_cases e : p.1 = k
    · rw [if_pos e, if_pos (by rw [e]; exact beq_self_eq_true k)]
      rfl
    · rw [if_neg e, if_neg (by simpa using e)]
      exact ih
theorem head_filter {α : Type} (p : α → Bool) : ∀ l : List α, (l.filter p).head? = l.find? p
  | [] => rfl
  | a :: r => by
    rw [List.filter_cons, List.find?_cons]
    cases h : p a with
    | true => rfl
    | false => exact head_filter p r
theorem last_left (ps : List (Str × Str)) (t : Nat) (k : Str) : lastD (leftOf ps t) k = headOf ps t k := by
  rw [lastD_find]
  unfold headOf
  have e : (((leftOf ps t).reverse.filter fun p => p.1 == k).map (·.2)) = (wordsRev ps k).filter fun x => ((wordsOf ps k).drop t).any (· == x) := by
    unfold leftOf wordsRev
    rw [← List.filter_reverse, List.filter_filter, List.filter_map, List.filter_filter]
    congr 1
    apply List.filter_congr
    intro p hp
    simp only [Function.comp]
    by_cases h : p.1 = k
    · subst h
      rw [Bool.and_comm]
    · have : (p.1 == k) = false := by simpa using h
      rw [this]; simp
  rw [e, head_filter, words_dd]
  have := dd_find t (wordsRev ps k)
  rw [this]
  cases ((dd (wordsRev ps k)).drop t) <;> rfl
theorem keqv_row (ps : List (Str × Str)) (t : Nat) : keqv (leftOf ps t) = rowOf ps t := by
  rw [keqv_form, row_form]
  apply List.map_congr_left
  intro k _
  rw [last_left]
theorem quote_inj {p r : Str × Str} (hp : 61 ∉ p.1.cps.toList) (hr : 61 ∉ r.1.cps.toList) (h : quoteOf p = quoteOf r) : p = r := by
  have h1 := split_one (b := ⟨#[34]⟩ ++ p.2 ++ ⟨#[34]⟩) hp (by simp [PySem.Builtin.Str.strKind])
  have h2 := split_one (b := ⟨#[34]⟩ ++ r.2 ++ ⟨#[34]⟩) hr (by simp [PySem.Builtin.Str.strKind])
  have e : Txt.splitMax (quoteOf p) ⟨#[61]⟩ 1 = Txt.splitMax (quoteOf r) ⟨#[61]⟩ 1 := by rw [h]
  unfold quoteOf at e
  rw [h1, h2] at e
  simp only [List.cons.injEq, and_true] at e
  obtain ⟨e1, e2⟩ := e
  have e3 := congrArg (fun x => Txt.slice x (some 1) (some (-1))) e2
  rw [slice_quoted rfl rfl, slice_quoted rfl rfl] at e3
  exact Prod.ext e1 e3
theorem words_nodup (ps : List (Str × Str)) (k : Str) : (wordsOf ps k).Nodup := by rw [words_dd]; exact dd_nodup _
theorem words_mem {ps : List (Str × Str)} {k x : Str} : x ∈ wordsOf ps k ↔ (k, x) ∈ ps := by
  rw [words_dd, dd_mem]
  unfold wordsRev
  rw [List.mem_map]
  constructor
  · rintro ⟨p, hp, rfl⟩
    rw [List.mem_filter, List.mem_reverse] at hp
    have : p.1 = k := by simpa using hp.2
    rw [← this]
    exact hp.1
  · intro h
    exact ⟨(k, x), by rw [List.mem_filter, List.mem_reverse]; exact ⟨h, by simp⟩, rfl⟩
theorem peel_left (ps : List (Str × Str)) (hk : ∀ p ∈ ps, 61 ∉ p.1.cps.toList) (t : Nat) : (leftOf ps t).filter (fun p => !(peelF (keqv (leftOf ps t)) (quoteOf p))) = leftOf ps (t + 1) := by
  have hsub : ∀ p ∈ leftOf ps t, p ∈ ps := fun p hp => (List.mem_filter.mp hp).1
  show _ = ps.filter fun p => ((wordsOf ps p.1).drop (t + 1)).any (· == p.2)
  unfold leftOf at *
  rw [List.filter_filter]
  apply List.filter_congr
  intro p hp
  change (!(peelF (keqv (leftOf ps t)) (quoteOf p)) && ((wordsOf ps p.1).drop t).any (· == p.2)) = ((wordsOf ps p.1).drop (t + 1)).any (· == p.2)
  cases hq : (wordsOf ps p.1).drop t with
  | nil =>
    have : (wordsOf ps p.1).drop (t + 1) = [] := by
      rw [← List.tail_drop, hq]; rfl
    rw [this]; simp
  | cons w r =>
    have hr : (wordsOf ps p.1).drop (t + 1) = r := by rw [← List.tail_drop, hq]; rfl
    have hnd : (w :: r).Nodup := by rw [← hq]; exact List.Sublist.nodup (List.drop_sublist _ _) (words_nodup ps p.1)
    have hw : w ∉ r := (List.nodup_cons.mp hnd).1
    rw [hr]
    have hF : peelF (keqv (leftOf ps t)) (quoteOf p) = decide (p ∈ keqv (leftOf ps t)) := by
      unfold peelF
      rw [Bool.eq_iff_iff, List.any_eq_true, decide_eq_true_eq]
      constructor
      · rintro ⟨y, hy, e⟩
        obtain ⟨x, hx, rfl⟩ := List.mem_map.mp hy
        have hx' : x ∈ ps := hsub x (keqv_sub hx)
        rw [quote_inj (hk p hp) (hk x hx') (of_decide_eq_true e)]
        exact hx
      · intro h
        exact ⟨quoteOf p, List.mem_map.mpr ⟨p, h, rfl⟩, by simp⟩
    have hwin : (p.1, w) ∈ leftOf ps t := by
      unfold leftOf
      rw [List.mem_filter]
      refine ⟨words_mem.mp (List.mem_of_mem_drop (i := t) (by rw [hq]; exact .head _)), ?_⟩
      rw [any_mem, hq]; exact .head _
    have hin : p ∈ keqv (leftOf ps t) ↔ p.2 = w := by
      rw [keqv_row, row_form, List.mem_map]
      have hh : headOf ps t p.1 = w := by unfold headOf; rw [hq]; rfl
      constructor
      · rintro ⟨k, _, e⟩
        rw [← e] at hh ⊢
        exact hh
      · intro e
        refine ⟨p.1, keysOf_mem.mpr ⟨_, hwin, rfl⟩, ?_⟩
        rw [hh, ← e]
    rw [hF, Bool.eq_iff_iff, Bool.and_eq_true, any_mem, any_mem, Bool.not_eq_true', decide_eq_false_iff_not, hin, List.mem_cons]
    constructor
    · rintro ⟨h1, h2 | h2⟩
      · exact absurd h2 h1
      · exact h2
    · intro h
      exact ⟨fun e => hw (e ▸ h), .inr h⟩
theorem max_le {l : List Nat} {a : Nat} (h : a ∈ l) : a ≤ l.foldr max 0 := by
  induction l with
  | nil => cases h
  | cons b r ih =>
    show a ≤ max b (r.foldr max 0)
    rcases List.mem_cons.mp h with rfl | h
    · omega
    · have := ih h
      omega
theorem max_in {l : List Nat} (h : 0 < l.foldr max 0) : l.foldr max 0 ∈ l := by
  induction l with
  | nil => exact absurd h (by decide)
  | cons b r ih =>
    have e : (b :: r).foldr max 0 = max b (r.foldr max 0) := rfl
    rw [e] at h ⊢
    rcases Nat.le_total (r.foldr max 0) b with hb | hb
    · rw [Nat.max_eq_left hb]; exact .head _
    · rw [Nat.max_eq_right hb] at h ⊢
      exact .tail _ (ih h)
theorem left_nil (ps : List (Str × Str)) (t : Nat) : leftOf ps t = [] ↔ maxLen ps ≤ t := by
  constructor
  · intro h
    rcases Nat.lt_or_ge t (maxLen ps) with hlt | hge
    · exfalso
      have hm := max_in (l := lensOf ps) (by show 0 < maxLen ps; omega)
      obtain ⟨p, hp, e⟩ := List.mem_map.mp hm
      have hlen : t < (wordsOf ps p.1).length := by rw [e]; exact hlt
      have hin : (p.1, (wordsOf ps p.1)[t]) ∈ leftOf ps t := by
        unfold leftOf
        rw [List.mem_filter]
        refine ⟨words_mem.mp (List.getElem_mem hlen), ?_⟩
        rw [any_mem]
        show (wordsOf ps p.1)[t] ∈ (wordsOf ps p.1).drop t
        rw [List.drop_eq_getElem_cons hlen]
        exact .head _
      rw [h] at hin
      cases hin
    · exact hge
  · intro h
    unfold leftOf
    rw [List.filter_eq_nil_iff]
    intro p hp
    have hle : (wordsOf ps p.1).length ≤ t := Nat.le_trans (max_le (List.mem_map.mpr ⟨p, hp, rfl⟩)) h
    rw [List.drop_eq_nil_of_le hle]
    simp
theorem left_zero (ps : List (Str × Str)) : leftOf ps 0 = ps := by
  unfold leftOf
  rw [List.filter_eq_self]
  intro p hp
  rw [any_mem]
  exact words_mem.mpr hp
theorem peel_is (ps : List (Str × Str)) (hk : ∀ p ∈ ps, 61 ∉ p.1.cps.toList) : ∀ t, peelN ps t = ((List.range (min t (maxLen ps))).map (rowOf ps), leftOf ps t)
  | 0 => by rw [left_zero, Nat.zero_min]; rfl
  | t + 1 => by
    show peelStep (peelN ps t) = _
    rw [peel_is ps hk t]
    unfold peelStep
    by_cases h : leftOf ps t = []
    · rw [if_pos h]
      have hm := (left_nil ps t).mp h
      rw [h, (left_nil ps (t + 1)).mpr (by omega), Nat.min_eq_right hm, Nat.min_eq_right (by omega)]
    · rw [if_neg h]
      have hm : ¬ maxLen ps ≤ t := fun hm => h ((left_nil ps t).mpr hm)
      rw [Nat.min_eq_left (by omega), Nat.min_eq_left (by omega), List.range_succ, List.map_append]
      dsimp only
      rw [peel_left ps hk t, keqv_row]
      rfl
theorem maxLen_le (ps : List (Str × Str)) : maxLen ps ≤ ps.length := by
  rcases Nat.eq_zero_or_pos (maxLen ps) with h | h
  · omega
  · obtain ⟨p, hp, e⟩ := List.mem_map.mp (max_in (l := lensOf ps) h)
    have := words_le ps p.1
    have e' : (wordsOf ps p.1).length = maxLen ps := e
    omega
theorem peel_rounds (ps : List (Str × Str)) (hk : ∀ p ∈ ps, 61 ∉ p.1.cps.toList) : (peelN ps ps.length).1 = roundsOf ps := by
  rw [peel_is ps hk]
  unfold roundsOf
  rw [Nat.min_eq_right (maxLen_le ps)]
end Mine

end

/-! ### part T5 -/
section
open PySem PySem.W PyProof.Rows
set_option maxRecDepth 100000
set_option linter.unusedVariables false
set_option maxHeartbeats 1000000
namespace Mine

theorem beq92 (c : Nat) : ((⟨#[c]⟩ : Str) == Str.ofString "\\") = decide (c = 92) := by rw [show Str.ofString "\\" = ⟨#[92]⟩ from by decide]; exact one_beq
theorem beq34 (c : Nat) : ((⟨#[c]⟩ : Str) == Str.ofString "\"") = decide (c = 34) := by rw [show Str.ofString "\"" = ⟨#[34]⟩ from by decide]; exact one_beq
theorem beq44 (c : Nat) : ((⟨#[c]⟩ : Str) == Str.ofString ",") = decide (c = 44) := by rw [show Str.ofString "," = ⟨#[44]⟩ from by decide]; exact one_beq
def ofL (l : List Nat) : Str := ⟨l.toArray⟩
theorem ofL_list (x : Str) : ofL x.cps.toList = x := by cases x; rfl
theorem app_ofL (p : Str) (c : Nat) (l : List Nat) : p ++ ⟨#[c]⟩ ++ ofL l = p ++ ofL (c :: l) := by
  apply str_ext; simp [ofL, Str.cps_append]
theorem app_nil (p : Str) : p ++ ofL [] = p := by apply str_ext; simp [ofL, Str.cps_append]
theorem run_plain : ∀ (K : List Nat) (res : List Str) (part : Str), (∀ c ∈ K, c ≠ 34 ∧ c ≠ 44) → K.foldl hstep ⟨res, part, false, false⟩ = ⟨res, part ++ ofL K, false, false⟩
  | [], res, part, _ => by rw [app_nil]; rfl
  | c :: r, res, part, h => by
    obtain ⟨h1, h2⟩ := h c (.head _)
    have e : hstep ⟨res, part, false, false⟩ c = ⟨res, part ++ ⟨#[c]⟩, false, false⟩ := by
      simp [hstep, beq34, beq44, h1, h2]
    rw [List.foldl_cons, e, run_plain r res _ fun d hd => h d (.tail _ hd), app_ofL]
def escL (W : List Nat) : List Nat := W.flatMap fun d => if d = 92 then [92, 92] else if d = 34 then [92, 34] else [d]
theorem run_esc : ∀ (W : List Nat) (res : List Str) (part : Str), (escL W).foldl hstep ⟨res, part, false, true⟩ = ⟨res, part ++ ofL W, false, true⟩
  | [], res, part => by rw [app_nil]; rfl
  | c :: r, res, part => by
    show (escL (c :: r)).foldl hstep _ = _
    unfold escL
    rw [List.flatMap_cons, List.foldl_append]
    have e : (if c = 92 then [92, 92] else if c = 34 then [92, 34] else [c]).foldl hstep ⟨res, part, false, true⟩ = ⟨res, part ++ ⟨#[c]⟩, false, true⟩ := by
      by_cases h : c = 92
      · subst h
        simp [hstep, beq92]
      · by_cases h2 : c = 34
        · subst h2
          simp [hstep, beq92]
        · simp [hstep, beq92, beq34, h, h2]
    rw [e]
    have := run_esc r res (part ++ ⟨#[c]⟩)
    unfold escL at this
    rw [this, app_ofL]
theorem esc_list (x : Str) : (escOf x).cps.toList = escL x.cps.toList := by
  unfold escOf escL
  rw [show Str.ofString "\"" = ⟨#[34]⟩ from by decide, show Str.ofString "\\\"" = ⟨#[92, 34]⟩ from by decide, show Str.ofString "\\\\" = ⟨#[92, 92]⟩ from by decide, show Str.ofString "\\" = ⟨#[92]⟩ from by decide]
  rw [rep_list, rep_list, List.flatMap_assoc]
  congr 1
  funext d
  by_cases h : d = 92
  · subst h; rfl
  · rw [if_neg h, if_neg h]
    by_cases h2 : d = 34
    · subst h2; rfl
    · simp [h2]
def KeyGood (k : Str) : Prop := k.cps.toList = [97] ∨ k.cps.toList = [98] ∨ k.cps.toList = [] ∨ k.cps.toList = [97, 32, 98]
theorem key_chars {k : Str} (h : KeyGood k) : ∀ c ∈ k.cps.toList, c ≠ 34 ∧ c ≠ 44 ∧ c ≠ 61 := by
  intro c hc
  rcases h with h | h | h | h <;> rw [h] at hc <;> simp at hc <;> omega
theorem item_list (p : Str × Str) : (itemOf p).cps.toList = (p.1.cps.toList ++ [61]) ++ (34 :: (escL p.2.cps.toList ++ [34])) := by
  unfold itemOf
  rw [show Str.ofString "=\"" = ⟨#[61, 34]⟩ from by decide, show Str.ofString "\"" = ⟨#[34]⟩ from by decide]
  simp only [Str.cps_append, Array.toList_append, esc_list]
  simp
theorem run_item {p : Str × Str} (h : KeyGood p.1) (res : List Str) (part : Str) : (itemOf p).cps.toList.foldl hstep ⟨res, part, false, false⟩ = ⟨res, part ++ quoteOf p, false, false⟩ := by
  rw [item_list, List.foldl_append, run_plain _ _ _ (fun c hc => by
    rcases List.mem_append.mp hc with h1 | h1
    · have := key_chars h c h1; exact ⟨this.1, this.2.1⟩
    · rw [List.mem_singleton.mp h1]; decide)]
  rw [List.foldl_cons]
  have e1 : ∀ P : Str, hstep ⟨res, P, false, false⟩ 34 = ⟨res, P ++ ⟨#[34]⟩, false, true⟩ := fun P => by simp [hstep, beq34, beq44]
  have e2 : ∀ P : Str, hstep ⟨res, P, false, true⟩ 34 = ⟨res, P ++ ⟨#[34]⟩, false, false⟩ := fun P => by simp [hstep, beq34, beq92]
  rw [e1, List.foldl_append, run_esc]
  rw [List.foldl_cons, e2, List.foldl_nil]
  congr 1
  apply str_ext
  simp [quoteOf, ofL, Str.cps_append]
def partsOf (part : Str) : List (Str × Str) → List Str
  | [] => []
  | p :: r => (part ++ quoteOf p) :: r.map fun x => ⟨#[32]⟩ ++ quoteOf x
theorem parts_ne {part : Str} {p : Str × Str} {r : List (Str × Str)} : partsOf part (p :: r) ≠ [] := by simp [partsOf]
theorem run_head : ∀ (r : List (Str × Str)) (p : Str × Str) (res : List Str) (part : Str), (∀ x ∈ p :: r, KeyGood x.1) →
    (Str.join (Str.ofString ", ") ((p :: r).map itemOf)).cps.toList.foldl hstep ⟨res, part, false, false⟩ = ⟨res ++ (partsOf part (p :: r)).dropLast, (partsOf part (p :: r)).getLast parts_ne, false, false⟩
  | [], p, res, part, h => by
    show (itemOf p).cps.toList.foldl hstep _ = _
    rw [run_item (h p (.head _))]
    simp [partsOf]
  | x :: r, p, res, part, h => by
    show (itemOf p ++ Str.ofString ", " ++ Str.join (Str.ofString ", ") ((x :: r).map itemOf)).cps.toList.foldl hstep _ = _
    simp only [Str.cps_append, Array.toList_append, List.foldl_append]
    rw [run_item (h p (.head _))]
    have e : (Str.ofString ", ").cps.toList = [44, 32] := by decide
    rw [e]
    have e2 : [44, 32].foldl hstep ⟨res, part ++ quoteOf p, false, false⟩ = ⟨res ++ [part ++ quoteOf p], ⟨#[32]⟩, false, false⟩ := by
      have e0 : Str.ofString "" ++ (⟨#[32]⟩ : Str) = ⟨#[32]⟩ := by apply str_ext; rw [show Str.ofString "" = ⟨#[]⟩ from by decide]; simp [Str.cps_append]
      simp [hstep, beq34, beq44, e0]
    rw [e2, run_head r x _ _ fun y hy => h y (.tail _ hy)]
    have e3 : partsOf part (p :: x :: r) = (part ++ quoteOf p) :: partsOf ⟨#[32]⟩ (x :: r) := rfl
    simp only [e3]
    rw [List.dropLast_cons_of_ne_nil parts_ne, List.getLast_cons parts_ne, List.append_assoc]
    rfl
theorem parts_header {ps : List (Str × Str)} (h : ∀ p ∈ ps, KeyGood p.1) : hparts (headerOf ps) = partsOf (Str.ofString "") ps := by
  unfold hparts hrun headerOf
  rw [beq_iff_eq.mp (join_closes (sep := Str.ofString ", ") (ys := ps.map itemOf) rfl)]
  cases ps with
  | nil => rfl
  | cons p r =>
    unfold HSt.init
    rw [run_head r p [] (Str.ofString "") h]
    dsimp only
    rw [if_pos, List.nil_append, List.dropLast_concat_getLast]
    have hl : ∀ y ∈ partsOf (Str.ofString "") (p :: r), y.length ≠ 0 := by
      intro y hy
      have hq : ∀ (z : Str) (x : Str × Str), (z ++ quoteOf x).length ≠ 0 := fun z x => by
        unfold quoteOf
        simp only [Str.length_append]
        have : (⟨#[61]⟩ : Str).length = 1 := rfl
        omega
      rcases List.mem_cons.mp hy with rfl | hy
      · exact hq _ _
      · obtain ⟨x, _, rfl⟩ := List.mem_map.mp hy
        exact hq _ _
    have := hl _ (List.getLast_mem (parts_ne (part := Str.ofString "") (p := p) (r := r)))
    simpa using this
theorem strip_front {x : Str} {c d : Nat} {r : List Nat} (h1 : x.cps.toList = c :: r) (h2 : x.cps.toList.reverse.head? = some d) (hc : Unicode.isSpace c = false) (hd : Unicode.isSpace d = false) : Txt.strip x = x := by
  have hlo : stripLo Unicode.isSpace true x = 0 := by unfold stripLo; rw [if_pos rfl, h1, List.takeWhile_cons, hc]; rfl
  have hhi : stripHi Unicode.isSpace true x 0 = x.length := by
    unfold stripHi
    rw [if_pos rfl, List.drop_zero]
    cases hq : x.cps.toList.reverse with
    | nil => rw [hq] at h2; cases h2
    | cons e t =>
      rw [hq] at h2
      cases h2
      rw [List.takeWhile_cons, hd]
      rfl
  unfold Txt.strip Txt.stripBy stripSame
  rw [hlo, hhi]
  simp
theorem strip_blank {x y : Str} {c d : Nat} {r : List Nat} (hx : x = ⟨#[32]⟩ ++ y) (h1 : y.cps.toList = c :: r) (h2 : y.cps.toList.reverse.head? = some d) (hc : Unicode.isSpace c = false) (hd : Unicode.isSpace d = false) : Txt.strip x = y := by
  have hxl : x.cps.toList = 32 :: y.cps.toList := by rw [hx]; simp [Str.cps_append]
  have h32 : Unicode.isSpace 32 = true := by decide +kernel
  have hlo : stripLo Unicode.isSpace true x = 1 := by
    unfold stripLo
    rw [if_pos rfl, hxl, h1, List.takeWhile_cons, h32, List.takeWhile_cons, hc]
    rfl
  have hhi : stripHi Unicode.isSpace true x 1 = x.length := by
    unfold stripHi
    rw [if_pos rfl, hxl]
    show _ - (y.cps.toList.reverse.takeWhile _).length = _
    cases hq : y.cps.toList.reverse with
    | nil => rw [hq] at h2; cases h2
    | cons e t =>
      rw [hq] at h2
      cases h2
      rw [List.takeWhile_cons, hd]
      rfl
  unfold Txt.strip Txt.stripBy stripSame PySem.stripped
  rw [hlo, hhi]
  rw [if_neg (by simp)]
  apply str_ext
  rw [StrLaws.strSub_toList, hxl]
  have : x.length = y.cps.toList.length + 1 := by
    have := congrArg List.length hxl
    simpa [Str.length] using this
  rw [this]
  show (y.cps.toList).take (y.cps.toList.length + 1 - 1) = _
  rw [Nat.add_sub_cancel, List.take_length]
theorem quote_ends {p : Str × Str} (h : KeyGood p.1) : (∃ c r, (quoteOf p).cps.toList = c :: r ∧ Unicode.isSpace c = false) ∧ (quoteOf p).cps.toList.reverse.head? = some 34 := by
  have e : (quoteOf p).cps.toList = p.1.cps.toList ++ 61 :: 34 :: (p.2.cps.toList ++ [34]) := by simp [quoteOf, Str.cps_append]
  refine ⟨?_, by rw [e]; simp⟩
  rcases h with h | h | h | h
  · exact ⟨97, _, by rw [e, h]; rfl, by decide +kernel⟩
  · exact ⟨98, _, by rw [e, h]; rfl, by decide +kernel⟩
  · exact ⟨61, _, by rw [e, h]; rfl, by decide +kernel⟩
  · exact ⟨97, _, by rw [e, h]; rfl, by decide +kernel⟩
theorem http_header {ps : List (Str × Str)} (h : ∀ p ∈ ps, KeyGood p.1) : httpOf (headerOf ps) = ps.map quoteOf := by
  unfold httpOf
  rw [parts_header h]
  have h34 : Unicode.isSpace 34 = false := by decide +kernel
  cases ps with
  | nil => rfl
  | cons p r =>
    simp only [partsOf, List.map_cons]
    have e0 : Str.ofString "" ++ quoteOf p = quoteOf p := by apply str_ext; rw [show Str.ofString "" = ⟨#[]⟩ from by decide]; simp [Str.cps_append]
    obtain ⟨⟨c, t, h1, hc⟩, h2⟩ := quote_ends (h p (.head _))
    rw [e0, strip_front h1 h2 hc h34, List.map_map]
    congr 1
    apply List.map_congr_left
    intro x hx
    obtain ⟨⟨c, t, h1, hc⟩, h2⟩ := quote_ends (h x (.tail _ hx))
    exact strip_blank rfl h1 h2 hc h34
end Mine

end

/-! ### part T6 -/
section
open PySem PySem.W PyProof.Rows
set_option maxRecDepth 100000
set_option linter.unusedVariables false
set_option maxHeartbeats 1000000
namespace Mine

def pairOf (x : Int) : Str × Str := (keyOf x, wordOf x)
theorem getD_mem' {α : Type} {l : List α} {d : α} {k : Nat} (h : k < l.length) : l.getD k d ∈ l := by
  rw [List.getD_eq_getElem?_getD, List.getElem?_eq_getElem h]
  exact List.getElem_mem h
theorem key_mem (x : Int) : keyOf x ∈ keys4 := by
  have h3 := (fdiv_fmod_facts x 4).2.2.1 (by decide)
  exact getD_mem' (by show _ < 4; omega)
theorem word_mem (x : Int) : wordOf x ∈ words8 x := by
  have h3 := (fdiv_fmod_facts (x.fdiv 4) 8).2.2.1 (by decide)
  exact getD_mem' (by show _ < 8; omega)
theorem key_good (x : Int) : KeyGood (keyOf x) := by
  have h := key_mem x
  unfold keys4 at h
  simp only [List.mem_cons, List.not_mem_nil, or_false] at h
  rcases h with h | h | h | h <;> rw [h]
  · exact .inl (by decide)
  · exact .inr (.inl (by decide))
  · exact .inr (.inr (.inl (by decide)))
  · exact .inr (.inr (.inr (by decide)))
theorem strOk_of {x : Str} (h : ∀ c ∈ x.cps.toList, c < 0x110000) : PyData.strOk x = true := by
  unfold PyData.strOk
  rw [← Array.all_toList, List.all_eq_true]
  intro c hc
  exact decide_eq_true (h c hc)
theorem pair_ok (x : Int) : PairOk (pairOf x) ∧ Small (pairOf x) := by
  have hk := key_good x
  have hkl : (keyOf x).length ≤ 3 ∧ PyData.strOk (keyOf x) = true := by
    have e : (keyOf x).length = (keyOf x).cps.toList.length := by simp [Str.length]
    rw [e]
    rcases hk with h | h | h | h <;> (refine ⟨by rw [h]; decide, strOk_of fun c hc => ?_⟩; rw [h] at hc; simp at hc <;> omega)
  have h61 : 61 ∉ (keyOf x).cps.toList := fun h => (key_chars hk 61 h).2.2 rfl
  have hw : (wordOf x).length ≤ 2 ∧ PyData.strOk (wordOf x) = true := by
    have h := word_mem x
    unfold words8 at h
    simp only [List.mem_cons, List.not_mem_nil, or_false] at h
    rcases h with h | h | h | h | h | h | h | h <;> rw [h]
    · exact ⟨by decide, strOk_of (by decide)⟩
    · exact ⟨by decide, strOk_of (by decide)⟩
    · exact ⟨by decide, strOk_of (by decide)⟩
    · exact ⟨by decide, strOk_of (by decide)⟩
    · exact ⟨by decide, strOk_of (by decide)⟩
    · exact ⟨by decide, strOk_of (by decide)⟩
    · exact ⟨by decide, strOk_of (by decide)⟩
    · refine ⟨by show 1 ≤ 2; decide, strOk_of fun c hc => ?_⟩
      have h1 := (fdiv_fmod_facts (x.fdiv 32) 55296).2.2.1 (by decide)
      have : c = ((x.fdiv 32).fmod 55296).toNat := by simpa [signOf] using hc
      omega
  exact ⟨⟨⟨h61, by show (keyOf x).length ≤ 100; omega, by show (wordOf x).length ≤ 100; omega⟩, hkl.2, hw.2⟩, hkl.1, hw.1⟩
theorem join_len (sep : Str) : ∀ l : List Str, (Str.join sep l).length ≤ (l.map (·.length)).sum + sep.length * l.length
  | [] => by simp [Str.join, Str.empty, Str.length]
  | [x] => by simp [Str.join]
  | x :: y :: r => by
    have ih := join_len sep (y :: r)
    show (x ++ sep ++ Str.join sep (y :: r)).length ≤ _
    rw [Str.length_append, Str.length_append, List.map_cons, List.sum_cons, List.length_cons (a := x), Nat.mul_succ]
    omega
theorem header_len {ps : List (Str × Str)} (hs : ∀ p ∈ ps, Small p) (hn : ps.length ≤ 100) : (headerOf ps).length ≤ 10000 := by
  unfold headerOf
  rw [beq_iff_eq.mp (join_closes (sep := Str.ofString ", ") (ys := ps.map itemOf) rfl)]
  have h := join_len (Str.ofString ", ") (ps.map itemOf)
  have hw : ∀ l : List (Str × Str), (∀ p ∈ l, Small p) → ((l.map itemOf).map (·.length)).sum ≤ 14 * l.length := by
    intro l
    induction l with
    | nil => simp
    | cons p r ih =>
      intro h
      have h1 := ih fun q hq => h q (.tail _ hq)
      have h2 := item_len p
      have h3 := h p (.head _)
      unfold Small at h3
      simp only [List.map_cons, List.sum_cons, List.length_cons]
      omega
  have := hw ps hs
  rw [l5, List.length_map] at h
  omega
def pairP (p : Str × Str) : PyData := .tuple [.str p.1, .str p.2]
def rowP (row : List (Str × Str)) : PyData := .list (row.map pairP)
theorem reads_row {h : Heap} : ∀ {vs : List Value} {row : List (Str × Str)}, Paired (PairV h) vs row → ∃ as, ReadsAll h vs (row.map pairP) as
  | _, _, .nil => ⟨_, .nil⟩
  | _, _, .cons h t => by
    obtain ⟨a, rfl, t₁, t₂, e⟩ := h
    obtain ⟨as, hr⟩ := reads_row t
    exact ⟨_, .cons (reads_tuple_at e rfl rfl (.cons (.str _ t₁) (.cons (.str _ t₂) .nil))) hr⟩
theorem reads_rows {h : Heap} : ∀ {vs : List Value} {rows : List (List (Str × Str))}, Paired (RowV h) vs rows → ∃ as, ReadsAll h vs (rows.map rowP) as
  | _, _, .nil => ⟨_, .nil⟩
  | _, _, .cons h t => by
    obtain ⟨a, rfl, vs, n, e, hp⟩ := h
    obtain ⟨as, hr⟩ := reads_rows t
    obtain ⟨bs, hb⟩ := reads_row hp
    exact ⟨_, .cons (reads_list_at e rfl rfl hb) hr⟩
theorem lay_row : ∀ row : List (Str × Str), (∀ p ∈ row, PyData.strOk p.1 = true ∧ PyData.strOk p.2 = true) → PyData.canLayAll0 (row.map pairP) = true ∧ PyData.depthAll (row.map pairP) ≤ 1
  | [], _ => ⟨rfl, by simp [PyData.depthAll]⟩
  | p :: r, h => by
    obtain ⟨h1, h2⟩ := lay_row r fun q hq => h q (.tail _ hq)
    obtain ⟨h3, h4⟩ := h p (.head _)
    refine ⟨by simp [pairP, PyData.canLayAll0, PyData.canLay0, h1, h3, h4], ?_⟩
    simp only [List.map_cons, pairP, PyData.depthAll, PyData.depth]
    omega
theorem lay_rows : ∀ rows : List (List (Str × Str)), (∀ row ∈ rows, ∀ p ∈ row, PyData.strOk p.1 = true ∧ PyData.strOk p.2 = true) → PyData.canLayAll0 (rows.map rowP) = true ∧ PyData.depthAll (rows.map rowP) ≤ 2
  | [], _ => ⟨rfl, by simp [PyData.depthAll]⟩
  | row :: r, h => by
    obtain ⟨h1, h2⟩ := lay_rows r fun q hq => h q (.tail _ hq)
    obtain ⟨h3, h4⟩ := lay_row row (h row (.head _))
    refine ⟨by simp [rowP, PyData.canLayAll0, PyData.canLay0, h1, h3], ?_⟩
    simp only [List.map_cons, rowP, PyData.depthAll, PyData.depth] at h2 ⊢
    omega
theorem shaped_rows {rows : List (List (Str × Str))} (h : ∀ row ∈ rows, ∀ p ∈ row, PyData.strOk p.1 = true ∧ PyData.strOk p.2 = true) : SeqAt.shaped (.list (rows.map rowP)) = true := by
  obtain ⟨h1, h2⟩ := lay_rows rows h
  unfold SeqAt.shaped
  rw [Bool.and_eq_true]
  refine ⟨by simpa [PyData.canLay0] using h1, decide_eq_true ?_⟩
  simp only [PyData.depth]
  omega
theorem eqv_row : ∀ row : List (Str × Str), PyData.eqvAll (row.map pairP) (row.map pairP) = true
  | [] => by simp [PyData.eqvAll]
  | p :: r => by simp [pairP, PyData.eqvAll, PyData.eqv, eqv_row r]
theorem eqv_rows : ∀ rows : List (List (Str × Str)), PyData.eqvAll (rows.map rowP) (rows.map rowP) = true
  | [] => by simp [PyData.eqvAll]
  | row :: r => by simp [rowP, PyData.eqvAll, PyData.eqv, eqv_row row, eqv_rows r]
theorem rounds_ok {ps : List (Str × Str)} (h : ∀ p ∈ ps, PairOk p) : ∀ row ∈ roundsOf ps, ∀ p ∈ row, PyData.strOk p.1 = true ∧ PyData.strOk p.2 = true := by
  intro row hrow p hp
  obtain ⟨t, _, rfl⟩ := List.mem_map.mp hrow
  rw [← keqv_row] at hp
  have := h p (List.mem_filter.mp (keqv_sub hp)).1
  exact this.2
end Mine

end

/-! ### part G12 -/
section
open PySem PySem.W PyProof.Rows
set_option maxRecDepth 100000
set_option maxHeartbeats 4000000
set_option linter.unusedVariables false
namespace Mine

local macro_rules | `(tactic| walk_at "m") => `(tactic| first
  | ((with_reducible show wpAny _ _ (execs (_ :: _) _) _ _ _); refine wpAny_execs_cons ?_)
  | ((with_reducible show wpAny _ _ (execs [] _) _ _ _); refine wpAny_execs_nil ?_)
  | ((with_reducible show wpAny _ _ (exec (Stmt.Assign [PySem.Expr.Name _ _] _ _) _) _ _ _); refine wpAny_Assign_Name ?_)
  | ((with_reducible show wpAny _ _ (exec (Stmt.AugAssign (PySem.Expr.Name _ _) _ _ _) _) _ _ _); refine wpAny_AugAssign_Name ?_)
  | ((with_reducible show wpAny _ _ (exec (Stmt.Return (some _) _) _) _ _ _); refine wpAny_Return_some ?_)
  | ((with_reducible show wpAny _ _ (exec (Stmt.If _ _ _ _) _) _ _ _); refine wpAny_If ?_)
  | ((with_reducible show wpAny _ _ (exec (Stmt.Continue _) _) _ _ _); refine wpAny_Continue ?_)
  | ((with_reducible show wpAny _ _ (eval (PySem.Expr.BinOp _ _ _ _) _) _ _ _); refine wpAny_BinOp ?_)
  | ((with_reducible show wpAny _ _ (isTrue (PySem.Expr.Name _ _) _ _) _ _ _); refine isTrue_plain ?_)
  | ((with_reducible show wpAny _ _ (isTrue (PySem.Expr.Compare _ [_] [_] _) _ _) _ _ _); refine wpAny_isTrue_Compare1 ?_)
  | ((with_reducible show wpAny _ _ (eval (PySem.Expr.Compare _ [_] [_] _) _) _ _ _); refine wpAny_Compare1 ?_)
  | ((with_reducible show wpAny _ _ (truthy (Value.bool _)) _ _ _); refine wpAny_truthy_bool ?_)
  | ((with_reducible show wpAny _ _ (eval (PySem.Expr.Constant (PySem.Const.int _) _ _) _) _ _ _); refine c_int (by assumption) ?_; intro s' t' S')
  | ((with_reducible show wpAny _ _ (eval (PySem.Expr.Constant (PySem.Const.str _) _ _) _) _ _ _); refine c_str (by assumption) ?_; intro s' t' S')
  | ((with_reducible show wpAny _ _ (eval (PySem.Expr.Constant (PySem.Const.bool _) _ _) _) _ _ _); refine c_bool ?_)
  | ((with_reducible show wpAny _ _ (eval (PySem.Expr.Constant PySem.Const.none _ _) _) _ _ _); refine c_none ?_)
  | ((with_reducible show wpAny _ _ (eval (PySem.Expr.Name _ _) _) _ _ _); refine ld_loc (by assumption) rfl (by first | rfl | assumption) ?_)
  | ((with_reducible show wpAny _ _ (loadName _ _) _ _ _); refine ldn_loc (by assumption) rfl (by first | rfl | assumption) ?_)
  | ((with_reducible show wpAny _ _ (eval (PySem.Expr.List _ _) _) _ _ _); refine List_ ?_)
  | ((with_reducible show wpAny _ _ (eval (PySem.Expr.Tuple _ _ _) _) _ _ _); refine Tuple_ ?_)
  | ((with_reducible show wpAny _ _ (eval (PySem.Expr.Subscript _ _ _) _) _ _ _); refine Subscript_ ?_)
  | ((with_reducible show wpAny _ _ (eval (PySem.Expr.Call (PySem.Expr.Name _ _) _ [] _) _) _ _ _); refine Call_ ?_)
  | ((with_reducible show wpAny _ _ (eval (PySem.Expr.Call (PySem.Expr.Attribute _ _ _) _ [] _) _) _ _ _); refine MethodCall_ ?_)
  | ((with_reducible show wpAny _ _ (spliced (backTo _ (starEach [] _))) _ _ _); refine args_nil ?_)
  | ((with_reducible show wpAny _ _ (spliced (backTo _ (starEach (_ :: _) _))) _ _ _); refine args_cons ?_)
  | ((with_reducible show wpAny _ _ (newList _) _ _ _); refine n_list (by assumption) (Nat.le_of_ble_eq_true rfl) ?_; intro s' a' ha' S')
  | ((with_reducible show wpAny _ _ (newTuple _) _ _ _); refine n_tuple (by assumption) (Nat.le_of_ble_eq_true rfl) ?_; intro s' a' ha' S')
  | ((with_reducible show wpAny _ _ (compareOp PySem.CmpOp.Eq (Value.str _ _) (Value.str _ _)) _ _ _); refine PyProof.Rows.eq_str ?_)
  | ((with_reducible show wpAny _ _ (binaryOp PySem.Operator.Mod (Value.int _ _) (Value.int _ _)) _ _ _); refine b_mod (by assumption) (by decide) ?_; intro s' t' S')
  | ((with_reducible show wpAny _ _ (binaryOp PySem.Operator.FloorDiv (Value.int _ _) (Value.int _ _)) _ _ _); refine b_div (by assumption) (by decide) (PyProof.noPylong_of_log2 (by decide +kernel)) ?_; intro s' t' S')
  | ((with_reducible show wpAny _ _ (storeName _ _ _) _ _ _); refine st_loc (by assumption) rfl ?_; intro s' S'))
section
variable (P : Params)
theorem k_kp77 : keepIn (KK P) (.ref 77) = true := by kernel_rfl
theorem k_kp84 : keepIn (KK P) (.ref 84) = true := by kernel_rfl
theorem k_kp70 : keepIn (KK P) (.ref 70) = true := by kernel_rfl
theorem k_kp89 : keepIn (KK P) (.ref 89) = true := by kernel_rfl
theorem k_kp101 : keepIn (KK P) (.ref 101) = true := by kernel_rfl
end
section
variable {prog : Program} {w : World} {A : Around} {s₀ s : Shared} {ns : NsL} {mu : MuL} {gn : Heap} {q : Nat × (Str → Option Value)} {E : Value → Shared → Prop}
theorem f_addl {l b : Nat} {xs ys : Array Value} {n k : Nat} {Q : Value → Shared → Prop} (S : St s₀ (q :: ns) mu gn s) (hl : s.heap.get? l = some (listOf xs n)) (hb : s.heap.get? b = some (listOf ys k)) (hsz : xs.size + ys.size ≤ 1000)
    (h : ∀ (D : Nat) s', St s₀ (q :: ns) ((D, listOf (xs ++ ys) 0) :: mu) gn s' → Q (.ref D) s') : wpAny (model prog w) A (binaryOp .Add (.ref l) (.ref b)) Q E s :=
  P.add_list hl hb (h _ _ (S.push _)) (by rw [sizeLine_eq]; omega)
end
theorem ints_take : ∀ (n : Nat) {vs : List Value} {xs : List Int}, IntsAre vs xs → IntsAre (vs.take n) (xs.take n)
  | 0, _, _, _ => by simpa using IntsAre.nil
  | n + 1, _, _, .nil => by simpa using IntsAre.nil
  | n + 1, _, _, .cons i t h => by simpa using IntsAre.cons i t (ints_take n h)
theorem ints_at : ∀ {vs : List Value} {xs : List Int}, IntsAre vs xs → ∀ (i : Nat) v, vs[i]? = some v → ∃ x t, v = .int x t ∧ xs[i]? = some x
  | _, _, .nil, i, v, h => by simp at h
  | _, _, .cons z u h, 0, v, e => by simp at e; subst e; exact ⟨z, u, rfl, rfl⟩
  | _, _, .cons z u h, i + 1, v, e => by simpa using ints_at h i v (by simpa using e)
theorem pick_ten {items : Array Value} : slicePick items none (some 10) none = (items.toList.take 10).toArray := by
  rw [slicePick_plain]
  show ((items.toList.drop 0).take (clipAt items.size ((10 : Nat) : Int) - 0)).toArray = _
  rw [clipAt_nat, List.drop_zero, Nat.sub_zero]
  congr 1
  rcases Nat.le_total 10 items.size with h | h
  · rw [Nat.min_eq_left h]
  · rw [Nat.min_eq_right h, List.take_of_length_le (by simp), List.take_of_length_le (by simpa using h)]
theorem ints_append : ∀ {vs ws : List Value} {xs ys : List Int}, IntsAre vs xs → IntsAre ws ys → IntsAre (vs ++ ws) (xs ++ ys)
  | _, _, _, _, .nil, h => h
  | _, _, _, _, .cons i t r, h => .cons i t (ints_append r h)
def numsOf' (ns : List Int) : List Int := [4, 9, 12, 4] ++ ns.take 10
def pairsOf (ns : List Int) : List (Str × Str) := (numsOf' ns).map pairOf
theorem pairs_ok (ns : List Int) : (∀ p ∈ pairsOf ns, PairOk p ∧ Small p ∧ KeyGood p.1) ∧ (pairsOf ns).length ≤ 14 ∧ pairsOf ns ≠ [] := by
  refine ⟨fun p hp => ?_, ?_, ?_⟩
  · obtain ⟨x, _, rfl⟩ := List.mem_map.mp hp
    exact ⟨(pair_ok x).1, (pair_ok x).2, key_good x⟩
  · unfold pairsOf numsOf'
    simp; omega
  · unfold pairsOf numsOf'
    simp
section
variable {prog : Program} {w : World} {s₁ s : Shared}
theorem law_walk {params : Arguments} {body : List Stmt} {scope : Scope} {pm cd cd' doc oc : Value} {od : Option Addr} {osl : Array (Option Value)} {a L l : Nat} {m : Str → Option Value} {vs : Array Value} {nums : List Int}
    (ho : (KK w.params).lookup 106 = some ⟨oc, od, .func (Calls.docDef (Str.ofString "law") params body scope pm cd doc), osl⟩)
    (S : St s₁ [(L, m)] [] { objs := #[] } s) (D : Gd (KK w.params) s₁.heap) (hm : m (Str.ofString "script") = some (.ref l)) (hl : s₁.heap.IsList l vs) (hi : IntsAre vs.toList nums) (hn : nums.length ≤ 63) :
    wpAny (model prog w) (callerA.deeper (envOf (Str.ofString "law") scope L a cd')) (execs body (envOf (Str.ofString "law") scope L a cd'))
      (fun fl s' => fl = .ret (.bool true) ∧ ∃ m' mu gn, St s₁ [(L, m')] mu gn s') NoE s := by
  have h2 : (KK w.params).lookup 106 = some ⟨_, _, .func (Calls.docDef (Str.ofString "law") _ _ _ _ _ _), _⟩ := rfl
  rw [h2] at ho
  cases ho
  clear h2
  have hvl := IntsAre.length hi
  rw [Array.length_toList] at hvl
  have hh : callerA.handled = none := rfl
  walk_at "m"
  refine comp_assign (s₀ := s₁) rfl rfl rfl (closureFor_none (by decide)) rfl (by decide) (by decide) ?_
  repeat walk_at "m"
  rename St _ _ _ _ _ => S₁
  refine wpAny_Slice ?_
  refine wpAny_evalPart_none ?_
  refine wpAny_evalPart_some ?_
  refine c_int S₁ fun s₂ t₂ S₂ => ?_
  refine wpAny_evalPart_none ?_
  have hl₂ : s₂.heap.IsList l vs := let ⟨o, ho, hc, n, hd⟩ := hl; ⟨o, S₂.keep _ _ ho, hc, n, hd⟩
  refine sl_list S₂ hl₂ .none (.int _ _) .none (by decide) (by omega) fun Dr s₃ S₃ => ?_
  rw [pick_ten] at S₃
  have hi10 := ints_take 10 hi
  refine f_addl S₃ S₃.swap.mu0 S₃.mu0 (by simp; omega) fun Dl s₄ S₄ => ?_
  obtain ⟨g₁, hg₁, hDl, S₅⟩ := S₄.freeze1
  have hnums : ∀ t1 t2 t3 t4 : Tok, IntsAre (#[Value.int 4 t1, Value.int 9 t2, Value.int 12 t3, Value.int 4 t4] ++ (vs.toList.take 10).toArray).toList (numsOf' nums) := by
    intro t1 t2 t3 t4
    rw [Array.toList_append]
    exact ints_append (.cons 4 _ (.cons 9 _ (.cons 12 _ (.cons 4 _ .nil)))) hi10
  obtain ⟨hps, hpl, hpn⟩ := pairs_ok nums
  have hnl : ∀ t1 t2 t3 t4 : Tok, (#[Value.int 4 t1, Value.int 9 t2, Value.int 12 t3, Value.int 4 t4] ++ (vs.toList.take 10).toArray).size = (numsOf' nums).length := fun t1 t2 t3 t4 => by
    have h := IntsAre.length (hnums t1 t2 t3 t4)
    rwa [Array.length_toList] at h
  have hnp : (numsOf' nums).length = (pairsOf nums).length := by unfold pairsOf; simp
  refine it_list S₅ (.inr hDl) rfl ⟨_, rfl⟩ ?_ hh
  intro I oI s₆ hh' S₆ hT W
  refine ⟨I, _, oI, _, _, _, _, _, _, fun i ys g => Paired (PairV g) ys ((pairsOf nums).take i), rfl, W, goOk_name, S₆, hT, .nil, by rw [sizeLine_eq, hnl]; omega, ?_, ?_⟩
  · intro i v ys g oI₂ s₇ C mC D₂ oD hi' hP hg hJ S₇
    obtain ⟨x, tx, rfl, hx⟩ := ints_at (hnums _ _ _ _) i v (by rw [Array.getElem?_toList]; exact hP)
    refine as_loc S₇ rfl fun s₈ S₈ => ?_
    walk_at "m"
    refine ld_K (v := .ref 77) (S₈.gd D) (by kernel_rfl) ?_
    refine callWith_K (S₈.gd D).X (k_kp77 _) ?_
    repeat walk_at "m"
    refine ⟨(S₈.gd D).X, wp_pos S₈ (wpAny_call (codeAny_mono (pair_spec hh (show callerA.depth + 1 < recursionLimit by decide) (S₈.gd D)) fun r s₉ hr => ?_))⟩
    obtain ⟨t, t₁, t₂, rfl, hk, ht, he⟩ := hr
    intro hpos
    obtain ⟨g₂, hg₂, hgt, S₉⟩ := S₈.take hk hpos
    refine ⟨_, g₂, hg₂, ?_, S₉⟩
    show Paired (PairV g₂) (ys ++ [.ref t]) ((pairsOf nums).take (i + 1))
    have hxp : (pairsOf nums)[i]? = some (pairOf x) := by unfold pairsOf; rw [List.getElem?_map, hx]; rfl
    rw [List.take_add_one, hxp]
    exact paired_snoc ⟨t, rfl, t₁, t₂, hgt _ _ he ht⟩ (Paired.mono' (fun _ _ => PairV.mono hg₂) hJ)
  · intro ys g s₇ D₁ k₁ hg hJ hl₁ S₇
    obtain ⟨g₂, hg₂, hD₁, S₈⟩ := S₇.freeze1
    have hJ' : Paired (PairV g₂) ys (pairsOf nums) := by
      have hx : Paired (PairV g) ys ((pairsOf nums).take _) := hJ
      rw [hnl, hnp, List.take_length] at hx
      exact Paired.mono' (fun _ _ => PairV.mono hg₂) hx
    clear hJ S₇ S₆ S₅ S₄ S₃ hT W
    walk_at "m"
    walk_at "m"
    walk_at "m"
    walk_at "m"
    refine ld_K (v := .ref 89) (S₈.gd D) (by kernel_rfl) ?_
    refine callWith_K (S₈.gd D).X (k_kp89 _) ?_
    walk_at "m"
    walk_at "m"
    refine ld_K (v := .ref 70) (S₈.gd D) (by kernel_rfl) ?_
    refine callWith_K (S₈.gd D).X (k_kp70 _) ?_
    walk_at "m"
    walk_at "m"
    refine ld_K (v := .ref 84) (S₈.gd D) (by kernel_rfl) ?_
    refine callWith_K (S₈.gd D).X (k_kp84 _) ?_
    repeat walk_at "m"
    have hPL : PairsL g₂ D₁ (pairsOf nums) := ⟨ys.toArray, k₁, hD₁, hJ'⟩
    refine ⟨(S₈.gd D).X, wp_pos S₈ (wpAny_call (codeAny_mono (header_spec hh (show callerA.depth + 1 < recursionLimit by decide) (S₈.gd D) (hPL.mono S₈.sub) (fun p hp => (hps p hp).2.1) (by omega)) fun r s₉ hr => ?_))⟩
    obtain ⟨th, rfl, hk₉⟩ := hr
    intro hpos₉
    have S₉ := S₈.keeps hk₉ hpos₉
    try dsimp only
    walk_at "m"
    refine ⟨(S₉.gd D).X, wp_pos S₉ (wpAny_call (codeAny_mono (http_spec hh (show callerA.depth + 1 < recursionLimit by decide) (S₉.gd D) (header_len (fun p hp => (hps p hp).2.1) (by omega))) fun r s₁₀ hr => ?_))⟩
    obtain ⟨lh, rfl, hk₁₀, hlz, vsh, nh, hlh, hvh⟩ := hr
    intro hpos₁₀
    rw [http_header fun p hp => (hps p hp).2.2] at hvh
    obtain ⟨g₃, hg₃, hgt₃, S₁₀⟩ := S₉.take hk₁₀ hpos₁₀
    have hlh₃ := hgt₃ _ _ hlh hlz
    try dsimp only
    walk_at "m"
    refine ⟨(S₁₀.gd D).X, wpAny_call ?_⟩
    refine peeled_spec (outer := [_]) S₁₀ D hh (show callerA.depth + 1 + 30 < recursionLimit by decide) (show callerA.units + 3 + 300 < cLine by decide) (.inr hlh₃) hvh (fun p hp => (hps p hp).1) (by omega) rfl (fun e he => ?_) fun r₁ g₄ s₁₁ hg₄ S₁₁ hrows => ?_
    · rw [List.mem_singleton.mp he]
      exact ⟨(show ScopeKind.function ≠ ScopeKind.module from by decide), L, rfl, .head _⟩
    · rw [peel_rounds _ fun p hp => (hps p hp).1.1.1] at hrows
      try dsimp only
      walk_at "m"
      refine ld_K (v := .ref 101) (S₁₁.gd D) (by kernel_rfl) ?_
      refine callWith_K (S₁₁.gd D).X (k_kp101 _) ?_
      repeat walk_at "m"
      refine ⟨(S₁₁.gd D).X, wp_pos S₁₁ (wpAny_call (codeAny_mono (rounds_spec hh (show callerA.depth + 1 + 4 < recursionLimit by decide) S₁₁.tpos (S₁₁.gd D) (hPL.mono ((hg₃.trans hg₄).trans S₁₁.sub)) (by omega) hpn) fun r s₁₂ hr => ?_))⟩
      obtain ⟨r₂, rfl, hk₁₂, vs₂, n₂, e₂, h₂⟩ := hr
      intro hpos₁₂
      have S₁₂ := S₁₁.keeps hk₁₂ hpos₁₂
      try dsimp only
      obtain ⟨vs₁, n₁, e₁, h₁⟩ := hrows.mono S₁₂.sub
      obtain ⟨as₁, ra₁⟩ := reads_rows h₁
      obtain ⟨as₂, ra₂⟩ := reads_rows h₂
      have hsh := shaped_rows (rounds_ok fun p hp => (hps p hp).1)
      refine eq_dataH (reads_list_at e₁ rfl rfl ra₁) (reads_list_at e₂ rfl rfl ra₂) hsh hsh (show callerA.units + 3 + 64 < cLine by decide) ?_
      have hev : PyData.eqv (.list ((roundsOf (pairsOf nums)).map rowP)) (.list ((roundsOf (pairsOf nums)).map rowP)) = true := by
        simp only [PyData.eqv]
        exact eqv_rows _
      rw [hev]
      exact ⟨rfl, _, _, _, S₁₂⟩
end
end Mine

end

open PySem PySem.W PyProof.Rows
set_option maxRecDepth 100000 in
set_option maxHeartbeats 8000000 in
theorem PySem.Challenge.cw_ij0007_01_holds : PySem.Challenge.rw_ij0007_01.Holds := by
  exact Mine.hd (by
    k_go0
    rename (Mine.hd.heap_39 _).In _ => KX
    rename Top _ _ _ _ _ _ => T
    rename Heap.IsList _ _ _ => hL
    rename IntsAre _ _ => hI
    rename ¬ _ < _ => hc
    rename Fr _ _ _ _ => F
    rename _ = #[] => hg
    rename World => w
    rename (Shared) => s₁
    have D : Mine.Gd (Mine.KK w.params) s₁.heap := ⟨KX, ⟨_, T.g⟩, ⟨_, T.b, T.builtins⟩, T.nolimit⟩
    have S : Mine.St s₁ _ [] { objs := #[] } _ := Mine.St.start (tk := s₁.toks + 1) F.ns F.keep F.above (Nat.succ_pos _)
    refine wpAny_mono (Mine.law_walk (ho := rfl) S D rfl hL (by simpa using hI) (by omega)) (fun fl s' h => ?_) (fun _ _ h => h.elim)
    obtain ⟨rfl, m', mu, gn, S'⟩ := h
    have hgens : s'.gens = #[] := by
      obtain ⟨h', tk, e⟩ := S'.same
      rw [e]; exact hg
    have hos : s'.os = s₁.os := by
      obtain ⟨h', tk, e⟩ := S'.same
      rw [e]
    refine goodW_bool S'.fr hgens ?_ ?_ hos
    · intro cls
      rfl
    · w_on
      wrow_post)
