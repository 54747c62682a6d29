import PyProof.Rows.All
import Wide.All
import OpenK.AllK
import Wide.FinOn
import PySem.Challenge.RW_dm0127_12
open PySem PySem.W PyProof.Rows PySem.Calls
set_option Elab.async false
set_option linter.unusedVariables false
set_option maxRecDepth 100000
set_option maxHeartbeats 4000000
set_option compiler.extract_closed false
noncomputable section
namespace Mine
section
theorem fmt_paren (y : Str) (t u : Tok) (hy : y.length ≤ 1000000) : Meets (Builtin.«str.__mod__» ⟨[.str ⟨#[40, 37, 115, 41]⟩ t, .str y u], []⟩) (fun _ R s => ∀ t' k, R (.ok (.ret (.str (Str.ofString "(" ++ y ++ Str.ofString ")") t'))) { s with toks := k }) := by
  kpc_run_s
theorem fmt_int (a : Str) (n : Int) (t u v : Tok) (c : Addr) (ha : a.length ≤ 1000000) (h0 : 0 ≤ n) (h1 : n < 10 ^ 10) : Meets (Builtin.«str.__mod__» ⟨[.str ⟨#[37, 115, 37, 100]⟩ t, .ref c], []⟩)
    (fun _ R s => IsTup s.heap c #[.str a u, .int n v] ∧ ∀ t' k, R (.ok (.ret (.str (a ++ Str.ofString (toString n)) t'))) { s with toks := k }) := by
  kpt_run
end
section
abbrev Led := List (Addr × Obj)
abbrev Vm := Str → Option Value

structure Cx where
  prog : Program
  w : World
  A : Around
  env : Env
  hr : Heap
  h0 : Heap
  X : List Addr
  own : List Addr
  I0 : Led
  s : Shared

def Cx.vars (C : Cx) : List Addr := C.env.locals :: C.env.cells.map (·.2)
abbrev Cx.st (C : Cx) (h : Heap) (tk : Nat) : Shared := { C.s with heap := h, toks := tk }
abbrev Cx.M (C : Cx) : Model := model C.prog C.w

structure St (C : Cx) (m : Vm) (I Mu : Led) (h : Heap) : Prop where
  ns : ∃ ml, h.Ns C.env.locals ml ∧ ∀ n, C.env.kindOf n = some .local → ml n = m n
  cell : ∀ n c, (n, c) ∈ C.env.cells → h.IsCell c (m n)
  root : ∀ b o, C.hr.get? b = some o → h.get? b = some o
  keep : ∀ b o, b ∉ C.X → C.h0.get? b = some o → h.get? b = some o
  xin : ∀ b ∈ C.X, ∃ o, h.get? b = some o
  led : ∀ p ∈ I, h.get? p.1 = some p.2
  mu : ∀ p ∈ Mu, h.get? p.1 = some p.2
  dist : (C.vars ++ Mu.map (·.1)).Nodup
  ia : ∀ p ∈ I, p.1 ∉ C.vars ++ Mu.map (·.1)
  wr : ∀ a ∈ C.own ++ Mu.map (·.1), C.hr.get? a = none ∧ (a ∈ C.X ∨ C.h0.get? a = none)
  new : ∀ p ∈ I, p ∈ C.I0 ∨ C.h0.get? p.1 = none
  cnd : (C.env.cells.map (·.1)).Nodup
  ck : ∀ n c, (n, c) ∈ C.env.cells → C.env.kindOf n ≠ some .local
  lown : C.env.locals ∈ C.own

inductive Up1 (a : Addr) (o o' : Obj) : Led → Led → Prop
  | head {r : Led} : Up1 a o o' ((a, o) :: r) ((a, o') :: r)
  | tail {p : Addr × Obj} {r r' : Led} : Up1 a o o' r r' → Up1 a o o' (p :: r) (p :: r')

theorem Up1.mem {a : Addr} {o o' : Obj} {r r' : Led} (u : Up1 a o o' r r') : (a, o) ∈ r := by
  induction u with
  | head => exact .head _
  | tail _ ih => exact .tail _ ih
theorem Up1.addrs {a : Addr} {o o' : Obj} {r r' : Led} (u : Up1 a o o' r r') : r'.map (·.1) = r.map (·.1) := by
  induction u with
  | head => rfl
  | tail _ ih => simp only [List.map_cons, ih]
theorem Up1.cases' {a : Addr} {o o' : Obj} {r r' : Led} (u : Up1 a o o' r r') (hn : (r.map (·.1)).Nodup) : ∀ p ∈ r', p = (a, o') ∨ (p ∈ r ∧ p.1 ≠ a) := by
  induction u with
  | @head r =>
    intro p hp
    rcases List.mem_cons.mp hp with rfl | hp
    · exact .inl rfl
    · refine .inr ⟨.tail _ hp, fun e => ?_⟩
      rw [List.map_cons, List.nodup_cons] at hn
      have h2 : p.1 ∈ r.map (·.1) := List.mem_map_of_mem (f := (·.1)) hp
      rw [e] at h2; exact hn.1 h2
  | @tail q r r' u ih =>
    intro p hp
    rw [List.map_cons, List.nodup_cons] at hn
    rcases List.mem_cons.mp hp with rfl | hp
    · refine .inr ⟨.head _, fun e => hn.1 ?_⟩
      have h2 : (a, o).1 ∈ r.map (·.1) := List.mem_map_of_mem (f := (·.1)) u.mem
      rw [e]; exact h2
    · rcases ih hn.2 p hp with h | h
      · exact .inl h
      · exact .inr ⟨.tail _ h.1, h.2⟩

theorem addr_of_name {cs : List (Str × Addr)} (hp : cs.Pairwise fun x y => x.1 ≠ y.1) {n : Str} {c c' : Addr} (h1 : (n, c) ∈ cs) (h2 : (n, c') ∈ cs) : c = c' := by
  induction cs with
  | nil => cases h1
  | cons q r ih =>
    rw [List.pairwise_cons] at hp
    rcases List.mem_cons.mp h1 with e1 | e1 <;> rcases List.mem_cons.mp h2 with e2 | e2
    · rw [← e1] at e2; exact (congrArg Prod.snd e2).symm
    · exact absurd (by rw [← e1]) (hp.1 _ e2)
    · exact absurd (by rw [← e2]) (hp.1 _ e1)
    · exact ih hp.2 e1 e2
theorem get_none_of_size {h : Heap} {a : Addr} (e : h.objs.size ≤ a) : h.get? a = none := by
  cases hq : h.get? a with
  | none => rfl
  | some o => exact absurd (Heap.lt_size hq) (Nat.not_lt.mpr e)


section
variable {C : Cx} {m : Vm} {I Mu : Led} {h h' : Heap}

theorem St.vars_lt (S : St C m I Mu h) : ∀ a ∈ C.vars, a < h.objs.size := by
  intro a ha
  rcases List.mem_cons.mp ha with rfl | ha
  · obtain ⟨ml, hn, _⟩ := S.ns; exact hn.lt
  · obtain ⟨⟨n, c⟩, hc, rfl⟩ := List.mem_map.mp ha
    exact (S.cell n c hc).lt
theorem St.mu_lt (S : St C m I Mu h) : ∀ a ∈ Mu.map (·.1), a < h.objs.size := by
  intro a ha
  obtain ⟨p, hp, rfl⟩ := List.mem_map.mp ha
  exact Heap.lt_size (S.mu p hp)
theorem St.all_lt (S : St C m I Mu h) : ∀ a ∈ C.vars ++ Mu.map (·.1), a < h.objs.size := fun a ha =>
  (List.mem_append.mp ha).elim (S.vars_lt a) (S.mu_lt a)
theorem St.size_new (S : St C m I Mu h) : C.h0.get? h.objs.size = none := by
  cases hq : C.h0.get? h.objs.size with
  | none => rfl
  | some o =>
    by_cases hx : h.objs.size ∈ C.X
    · obtain ⟨o', e⟩ := S.xin _ hx
      exact absurd (Heap.lt_size e) (Nat.lt_irrefl _)
    · exact absurd (Heap.lt_size (S.keep _ _ hx hq)) (Nat.lt_irrefl _)
theorem St.size_root (S : St C m I Mu h) : C.hr.get? h.objs.size = none := by
  cases hq : C.hr.get? h.objs.size with
  | none => rfl
  | some o => exact absurd (Heap.lt_size (S.root _ _ hq)) (Nat.lt_irrefl _)

/-- all that stood stands: nothing but new objects -/
theorem St.grow (S : St C m I Mu h) (hk : ∀ b o, h.get? b = some o → h'.get? b = some o) : St C m I Mu h' where
  ns := let ⟨ml, hn, e⟩ := S.ns; ⟨ml, hn.keeps hk, e⟩
  cell := fun n c hc => (S.cell n c hc).keeps hk
  root := fun b o e => hk b o (S.root b o e)
  keep := fun b o hb e => hk b o (S.keep b o hb e)
  xin := fun b hb => let ⟨o, e⟩ := S.xin b hb; ⟨o, hk b o e⟩
  led := fun p hp => hk _ _ (S.led p hp)
  mu := fun p hp => hk _ _ (S.mu p hp)
  dist := S.dist
  ia := S.ia
  wr := S.wr
  new := S.new
  cnd := S.cnd
  ck := S.ck
  lown := S.lown

theorem St.more (S : St C m I Mu h) {J : Led} (hJ : ∀ p ∈ J, h.get? p.1 = some p.2 ∧ p.1 ∉ C.vars ++ Mu.map (·.1) ∧ (p ∈ C.I0 ∨ C.h0.get? p.1 = none)) : St C m (J ++ I) Mu h where
  ns := S.ns
  cell := S.cell
  root := S.root
  keep := S.keep
  xin := S.xin
  led := fun p hp => (List.mem_append.mp hp).elim (fun q => (hJ p q).1) (S.led p)
  mu := S.mu
  dist := S.dist
  ia := fun p hp => (List.mem_append.mp hp).elim (fun q => (hJ p q).2.1) (S.ia p)
  wr := S.wr
  new := fun p hp => (List.mem_append.mp hp).elim (fun q => (hJ p q).2.2) (S.new p)
  cnd := S.cnd
  ck := S.ck
  lown := S.lown

theorem St.less (S : St C m I Mu h) {J : Led} (hJ : ∀ p ∈ J, p ∈ I) : St C m J Mu h :=
  { S with led := fun p hp => S.led p (hJ p hp), ia := fun p hp => S.ia p (hJ p hp), new := fun p hp => S.new p (hJ p hp) }

theorem St.drop {q : Addr × Obj} (S : St C m I (q :: Mu) h) : St C m I Mu h :=
  { S with
    mu := fun p hp => S.mu p (.tail _ hp)
    dist := by
      have := S.dist
      rw [List.map_cons] at this
      exact this.sublist (List.Sublist.append_left (List.sublist_cons_self _ _) _)
    ia := fun p hp hq => S.ia p hp (by
      rcases List.mem_append.mp hq with q | q
      · exact List.mem_append.mpr (.inl q)
      · exact List.mem_append.mpr (.inr (.tail _ q)))
    wr := fun a ha => S.wr a (by
      rcases List.mem_append.mp ha with q | q
      · exact List.mem_append.mpr (.inl q)
      · exact List.mem_append.mpr (.inr (.tail _ q))) }

theorem St.alloc (S : St C m I Mu h) (o : Obj) (hf : o.isFreed = false) : St C m ((h.objs.size, o) :: I) Mu (h.push o) := by
  refine (S.grow (h' := h.push o) (fun b o' e => Heap.get?_push_of_some o e)).more (J := [(h.objs.size, o)]) fun p hp => ?_
  rw [List.mem_singleton.mp hp]
  exact ⟨Heap.get?_push_size h hf, fun ha => absurd (S.all_lt _ ha) (Nat.lt_irrefl _), .inr S.size_new⟩

theorem St.allocM (S : St C m I Mu h) (o : Obj) (hf : o.isFreed = false) : St C m I ((h.objs.size, o) :: Mu) (h.push o) := by
  have S' := S.grow (h' := h.push o) (fun b o' e => Heap.get?_push_of_some o e)
  exact { S' with
    mu := fun p hp => by
      rcases List.mem_cons.mp hp with rfl | hp
      · exact Heap.get?_push_size h hf
      · exact S'.mu p hp
    dist := by
      rw [List.map_cons, List.nodup_append]
      have d := List.nodup_append.mp S.dist
      refine ⟨d.1, List.nodup_cons.mpr ⟨fun ha => absurd (S.mu_lt _ ha) (Nat.lt_irrefl _), d.2.1⟩, fun a ha b hb => ?_⟩
      rcases List.mem_cons.mp hb with rfl | hb
      · exact fun e => absurd (e ▸ S.vars_lt a ha) (Nat.lt_irrefl _)
      · exact d.2.2 a ha b hb
    ia := fun p hp hq => by
      rcases List.mem_append.mp hq with q | q
      · exact S.ia p hp (List.mem_append.mpr (.inl q))
      · rcases List.mem_cons.mp q with q | q
        · exact absurd (Heap.lt_size (S.led p hp)) (by rw [q]; exact Nat.lt_irrefl _)
        · exact S.ia p hp (List.mem_append.mpr (.inr q))
    wr := fun a ha => by
      rcases List.mem_append.mp ha with q | q
      · exact S.wr a (List.mem_append.mpr (.inl q))
      · rcases List.mem_cons.mp q with rfl | q
        · exact ⟨S.size_root, .inr S.size_new⟩
        · exact S.wr a (List.mem_append.mpr (.inr q)) }

theorem St.mu_of_upd {a : Addr} {o o' : Obj} {Mu' : Led} (S : St C m I Mu h) (U : Up1 a o o' Mu Mu') (hk : ∀ b, b ≠ a → h'.get? b = h.get? b) (hs : h'.objs.size = h.objs.size) (hg : h'.get? a = some o') : St C m I Mu' h' := by
  have ham : a ∈ Mu.map (·.1) := List.mem_map_of_mem (f := (·.1)) U.mem
  have d := List.nodup_append.mp S.dist
  have hv : ∀ b ∈ C.vars, b ≠ a := fun b hb => d.2.2 b hb a ham
  have hw := S.wr a (List.mem_append.mpr (.inr ham))
  refine ⟨?_, fun n c hc => ?_, fun b o e => ?_, fun b o hb e => ?_, fun b hb => ?_, fun p hp => ?_, fun p hp => ?_, ?_, ?_, ?_, S.new, S.cnd, S.ck, S.lown⟩
  · obtain ⟨ml, hn, e⟩ := S.ns
    exact ⟨ml, hn.sameBut ⟨hs, hk⟩ (hv _ (.head _)), e⟩
  · obtain ⟨oc, e, hd⟩ := S.cell n c hc
    exact ⟨oc, (hk c (hv c (.tail _ (List.mem_map_of_mem (f := (·.2)) hc)))).trans e, hd⟩
  · rw [hk b (fun q => by rw [q, hw.1] at e; cases e)]; exact S.root b o e
  · rw [hk b (fun q => by
      subst q
      rcases hw.2 with q | q
      · exact hb q
      · rw [q] at e; cases e)]; exact S.keep b o hb e
  · by_cases q : b = a
    · exact ⟨_, q ▸ hg⟩
    · obtain ⟨o, e⟩ := S.xin b hb; exact ⟨o, (hk b q).trans e⟩
  · rw [hk p.1 (fun q => S.ia p hp (by rw [q]; exact List.mem_append.mpr (.inr ham)))]; exact S.led p hp
  · rcases U.cases' d.2.1 p hp with rfl | ⟨q, q'⟩
    · exact hg
    · rw [hk _ q']; exact S.mu p q
  · rw [U.addrs]; exact S.dist
  · rw [U.addrs]; exact S.ia
  · rw [U.addrs]; exact S.wr

theorem St.freeze {a : Addr} {o : Obj} (S : St C m I ((a, o) :: Mu) h) (hX : a ∉ C.X) : St C m ((a, o) :: I) Mu h := by
  have hw := (S.wr a (List.mem_append.mpr (.inr (.head _)))).2.resolve_left hX
  refine S.drop.more (J := [(a, o)]) fun p hp => ?_
  rw [List.mem_singleton.mp hp]
  refine ⟨S.mu _ (.head _), fun ha => ?_, .inr hw⟩
  have d := List.nodup_append.mp S.dist
  rcases List.mem_append.mp ha with q | q
  · exact d.2.2 a q a (.head _) rfl
  · exact (List.nodup_cons.mp d.2.1).1 q

/-- a variable of the frame is stored -/
theorem St.setLocal {x : Str} {v : Value} {ml : Vm} (S : St C m I Mu h) (hl : C.env.kindOf x = some .local)
    (hm : ∀ n, C.env.kindOf n = some .local → ml n = m n) (hn : h'.Ns C.env.locals (fun y => if y = x then some v else ml y)) (hs : Heap.SameBut C.env.locals h h') :
    St C (fun y => if y = x then some v else m y) I Mu h' := by
  have d := List.nodup_append.mp S.dist
  have hw := S.wr _ (List.mem_append.mpr (.inl S.lown))
  have hk := hs.2
  refine ⟨⟨_, hn, fun n e => ?_⟩, fun n c hc' => ?_, fun b o e => ?_, fun b o hb e => ?_, fun b hb => ?_, fun p hp => ?_, fun p hp => ?_, S.dist, S.ia, S.wr, S.new, S.cnd, S.ck, S.lown⟩
  · by_cases q : n = x
    · rw [if_pos q, if_pos q]
    · rw [if_neg q, if_neg q, hm n e]
  · have hne : n ≠ x := fun q => S.ck n c hc' (q ▸ hl)
    simp only [if_neg hne]
    obtain ⟨oc, e, hd⟩ := S.cell n c hc'
    have hcl : c ≠ C.env.locals := fun q => (List.nodup_cons.mp d.1).1 (q ▸ List.mem_map_of_mem (f := (·.2)) hc')
    exact ⟨oc, (hk c hcl).trans e, hd⟩
  · rw [hk b (fun q => by rw [q, hw.1] at e; cases e)]; exact S.root b o e
  · rw [hk b (fun q => by
      subst q
      rcases hw.2 with q | q
      · exact hb q
      · rw [q] at e; cases e)]; exact S.keep b o hb e
  · by_cases q : b = C.env.locals
    · obtain ⟨oL, _, _, hg, _⟩ := hn; exact ⟨_, q ▸ hg⟩
    · obtain ⟨o, e⟩ := S.xin b hb; exact ⟨o, (hk b q).trans e⟩
  · rw [hk p.1 (fun q => S.ia p hp (by rw [q]; exact List.mem_append.mpr (.inl (.head _))))]; exact S.led p hp
  · rw [hk p.1 (fun q => d.2.2 C.env.locals (.head _) p.1 (List.mem_map_of_mem hp) q.symm)]; exact S.mu p hp

theorem St.setCell {x : Str} {c : Addr} {v : Value} (S : St C m I Mu h) (hl : C.env.kindOf x = some .cell) (hc : (x, c) ∈ C.env.cells) (hL : c ∈ C.own)
    (hn : h'.IsCell c (some v)) (hs : Heap.SameBut c h h') : St C (fun y => if y = x then some v else m y) I Mu h' := by
  have d := List.nodup_append.mp S.dist
  have hw := S.wr _ (List.mem_append.mpr (.inl hL))
  have hk := hs.2
  have hcv : c ∈ C.env.cells.map (·.2) := List.mem_map_of_mem (f := (·.2)) hc
  have hcd : (C.env.cells.map (·.2)).Nodup := (List.nodup_cons.mp d.1).2
  refine ⟨?_, fun n c' hc' => ?_, fun b o e => ?_, fun b o hb e => ?_, fun b hb => ?_, fun p hp => ?_, fun p hp => ?_, S.dist, S.ia, S.wr, S.new, S.cnd, S.ck, S.lown⟩
  · obtain ⟨ml, hn', e⟩ := S.ns
    refine ⟨ml, hn'.sameBut hs (fun q => (List.nodup_cons.mp d.1).1 (q ▸ hcv)), fun n hl' => ?_⟩
    have : n ≠ x := fun q => by rw [q, hl] at hl'; cases hl'
    rw [if_neg this]; exact e n hl'
  · by_cases q : c' = c
    · subst q
      have : n = x := by
        have hp : C.env.cells.Pairwise fun x y => x.2 ≠ y.2 := (List.pairwise_map.mp hcd)
        exact name_of_addr hp hc' hc
      rw [if_pos this]; exact hn
    · obtain ⟨oc, e, hd⟩ := S.cell n c' hc'
      by_cases q' : n = x
      · subst q'
        have hp : C.env.cells.Pairwise fun x y => x.1 ≠ y.1 := (List.pairwise_map.mp S.cnd)
        exact absurd (addr_of_name hp hc' hc) q
      · rw [if_neg q']; exact ⟨oc, (hk c' q).trans e, hd⟩
  · rw [hk b (fun q => by rw [q, hw.1] at e; cases e)]; exact S.root b o e
  · rw [hk b (fun q => by
      subst q
      rcases hw.2 with q | q
      · exact hb q
      · rw [q] at e; cases e)]; exact S.keep b o hb e
  · by_cases q : b = c
    · obtain ⟨oL, hg, _⟩ := hn; exact ⟨_, q ▸ hg⟩
    · obtain ⟨o, e⟩ := S.xin b hb; exact ⟨o, (hk b q).trans e⟩
  · rw [hk p.1 (fun q => S.ia p hp (by rw [q]; exact List.mem_append.mpr (.inl (.tail _ hcv))))]; exact S.led p hp
  · rw [hk p.1 (fun q => d.2.2 c (.tail _ hcv) p.1 (List.mem_map_of_mem hp) q.symm)]; exact S.mu p hp
end
end
section
def Back (C : Cx) {α : Type} (K : α → Vm → Led → Led → Prop) (a : α) (s' : Shared) : Prop :=
  ∃ h' tk' m' I' Mu', s' = C.st h' tk' ∧ St C m' I' Mu' h' ∧ K a m' I' Mu'

structure W (C : Cx) (m : Vm) (I Mu : Led) {α : Type} (t : Sem α) (K : α → Vm → Led → Led → Prop) : Prop where
  out : ∀ (E : Value → Shared → Prop) h tk, St C m I Mu h → wpAny C.M C.A t (Back C K) E (C.st h tk)


/- the rules' continuations, named: a walk's terms stay small -/
abbrev kT {α β : Type} (C : Cx) (f : α → Sem β) (K : β → Vm → Led → Led → Prop) : α → Vm → Led → Led → Prop := fun a m' I' Mu' => W C m' I' Mu' (f a) K
abbrev kNx (KF : Flow → Vm → Led → Led → Prop) : Unit → Vm → Led → Led → Prop := fun _ => KF .next
abbrev kSeq (C : Cx) (rest : List Stmt) (KF : Flow → Vm → Led → Led → Prop) : Flow → Vm → Led → Led → Prop := fun f m' I' Mu' => match f with | .next => W C m' I' Mu' (execs rest C.env) KF | f => KF f m' I' Mu'
abbrev kBin {β : Type} (C : Cx) (r : Expr) (g : Value → Value → Sem β) (K : β → Vm → Led → Led → Prop) : Value → Vm → Led → Led → Prop := fun a m1 I1 Mu1 => W C m1 I1 Mu1 (eval r C.env) (kT C (g a) K)
abbrev kRet (KF : Flow → Vm → Led → Led → Prop) : Value → Vm → Led → Led → Prop := fun v => KF (.ret v)
abbrev kEx (KF : Flow → Vm → Led → Led → Prop) : Value → Vm → Led → Led → Prop := fun v m' I' Mu' => v = .none ∧ KF .next m' I' Mu'
abbrev kNotV (K : Value → Vm → Led → Led → Prop) : Bool → Vm → Led → Led → Prop := fun b => K (.bool (!b))
abbrev kCons (v : Value) (KL : List Value → Vm → Led → Led → Prop) : List Value → Vm → Led → Led → Prop := fun vs => KL (v :: vs)
abbrev kIt (C : Cx) (pos : Pos) (rest : List Expr) (KL : List Value → Vm → Led → Led → Prop) : Value → Vm → Led → Led → Prop := fun v m1 I1 Mu1 => W C m1 I1 Mu1 (spliced (backTo pos (starEach rest C.env))) (kCons v KL)
abbrev kAug (C : Cx) (x : Str) (op : Operator) (value : Expr) (KF : Flow → Vm → Led → Led → Prop) : Value → Vm → Led → Led → Prop := fun old m1 I1 Mu1 => W C m1 I1 Mu1 (eval value C.env) (kT C (inplaceOp op old) (kT C (storeName C.env x) (kNx KF)))
abbrev kChain (C : Cx) (pos : Pos) (op₁ op₂ : CmpOp) (r₁ r₂ : Expr) (KB : Bool → Vm → Led → Led → Prop) : Value → Vm → Led → Led → Prop := fun a m1 I1 Mu1 => W C m1 I1 Mu1 (testChain pos a [op₁, op₂] [eval r₁ C.env, eval r₂ C.env]) KB

/-- what is static of a def's frame: its scope, its globals -/
structure Fe (C : Cx) (sc : Scope) : Prop where
  scope : C.env.scope = sc
  kind : sc.kind = .function
  glob : C.env.globals = mainGlobals
  blt : C.env.builtins = builtinsNs
  cells : ∀ x, sc.names.lookup x = some .cell → ∃ c, C.env.cells.lookup x = some c

/-- what is known of the root: the module's names, the built-ins -/
structure Rt (hr : Heap) (mg mb : Vm) : Prop where
  g : hr.Ns mainGlobals mg
  b : hr.Ns builtinsNs mb
  lim : hr.NoLimit
  dig : ∃ mc, hr.Ns cStatics mc ∧ mc "sys.int_max_str_digits" = none

section
variable {C : Cx} {sc : Scope} {m : Vm} {I Mu : Led} {α β : Type}

theorem W.use {t : Sem α} {K : α → Vm → Led → Led → Prop} (x : W C m I Mu t K) {E : Value → Shared → Prop} {h : Heap} {tk : Nat} (S : St C m I Mu h) {Q : α → Shared → Prop}
    (hQ : ∀ a m' I' Mu' h' tk', St C m' I' Mu' h' → K a m' I' Mu' → Q a (C.st h' tk')) : wpAny C.M C.A t Q E (C.st h tk) :=
  wpAny_mono (x.out E h tk S) (fun a s' ⟨h', tk', m', I', Mu', e, S', k⟩ => by subst e; exact hQ a m' I' Mu' h' tk' S' k) fun _ _ e => e
theorem back {K : α → Vm → Led → Led → Prop} {a : α} {h : Heap} {tk : Nat} (S : St C m I Mu h) (k : K a m I Mu) : Back C K a (C.st h tk) := ⟨h, tk, m, I, Mu, rfl, S, k⟩

theorem W.mono {t : Sem α} {K K' : α → Vm → Led → Led → Prop} (x : W C m I Mu t K) (hK : ∀ a m' I' Mu', K a m' I' Mu' → K' a m' I' Mu') : W C m I Mu t K' :=
  .mk fun _ _ _ S => x.use S fun a m' I' Mu' _ _ S' k => back S' (hK a m' I' Mu' k)
theorem W.bind {t : Sem α} {f : α → Sem β} {K : β → Vm → Led → Led → Prop} (x : W C m I Mu t fun a m' I' Mu' => W C m' I' Mu' (f a) K) : W C m I Mu (t >>= f) K :=
  .mk fun E _ _ S => wpAny_bind (x.use S fun _ _ _ _ h' tk' S' k => k.out E h' tk' S')
theorem W.pure {a : α} {K : α → Vm → Led → Led → Prop} (k : K a m I Mu) : W C m I Mu (pure a : Sem α) K := .mk fun _ _ _ S => wpAny_pure (back S k)
theorem W.less {t : Sem α} {K : α → Vm → Led → Led → Prop} {J : Led} (hJ : ∀ p ∈ J, p ∈ I) (x : W C m J Mu t K) : W C m I Mu t K := .mk fun E h tk S => x.out E h tk (S.less hJ)
theorem W.drop {q : Addr × Obj} {t : Sem α} {K : α → Vm → Led → Led → Prop} (x : W C m I Mu t K) : W C m I (q :: Mu) t K := .mk fun E h tk S => x.out E h tk S.drop
theorem W.freeze {a : Addr} {o : Obj} {t : Sem α} {K : α → Vm → Led → Led → Prop} (hX : a ∉ C.X) (x : W C m ((a, o) :: I) Mu t K) : W C m I ((a, o) :: Mu) t K := .mk fun E h tk S => x.out E h tk (S.freeze hX)

variable {K : Value → Vm → Led → Led → Prop} {KF : Flow → Vm → Led → Led → Prop} {KB : Bool → Vm → Led → Led → Prop} {KU : Unit → Vm → Led → Led → Prop} {KL : List Value → Vm → Led → Led → Prop}

/- names -/
theorem W_loadName (F : Fe C sc) {x : Str} {v : Value} (hx : (sc.names.lookup x == some .local || sc.names.lookup x == some .cell) = true) (hv : m x = some v) (k : K v m I Mu) : W C m I Mu (loadName C.env x) K := .mk fun E h tk S => by
  have hk : C.env.scope.kind = .function := by rw [F.scope]; exact F.kind
  have ek : ∀ y, C.env.kindOf y = sc.names.lookup y := fun y => by show C.env.scope.names.lookup y = _; rw [F.scope]
  cases hl : sc.names.lookup x == some .local with
  | true =>
    have hl' : C.env.kindOf x = some .local := by rw [ek]; exact beq_iff_eq.mp hl
    obtain ⟨ml, hn, e⟩ := S.ns
    exact wpAny_loadName_local hk hl' hn ((e x hl').trans hv) (back S k)
  | false =>
    rw [hl, Bool.false_or] at hx
    have hl' : C.env.kindOf x = some .cell := by rw [ek]; exact beq_iff_eq.mp hx
    obtain ⟨c, hc⟩ := F.cells x (beq_iff_eq.mp hx)
    exact wpAny_loadName_cell hk hl' hc (hv ▸ S.cell x c (mem_of_lookup hc)) (back S k)
theorem W_Name (F : Fe C sc) {x : Str} {pos : Pos} {v : Value} (hx : (sc.names.lookup x == some .local || sc.names.lookup x == some .cell) = true) (hd : (x == ("__debug__" : Str)) = false) (hv : m x = some v) (k : K v m I Mu) :
    W C m I Mu (eval (.Name x pos) C.env) K := .mk fun E h tk S => wpAny_Name ((W_loadName F hx hv k).out E h tk S) hd
theorem W_store (F : Fe C sc) {x : Str} {v : Value} (hx : (sc.names.lookup x == some .local) = true) (k : KU () (fun y => if y = x then some v else m y) I Mu) : W C m I Mu (storeName C.env x v) KU := .mk fun E h tk S => by
  have hk : C.env.scope.kind = .function := by rw [F.scope]; exact F.kind
  have ek : ∀ y, C.env.kindOf y = sc.names.lookup y := fun y => by show C.env.scope.names.lookup y = _; rw [F.scope]
  have hl' : C.env.kindOf x = some .local := by rw [ek]; exact beq_iff_eq.mp hx
  obtain ⟨ml, hn, e⟩ := S.ns
  exact wpAny_storeName_local hl' hn (fun h' hn' hs => ⟨h', _, _, I, Mu, rfl, S.setLocal hl' e hn' hs, k⟩) (by rw [hk]; rfl)
theorem W_storeC (F : Fe C sc) (ho : C.own = C.vars) {x : Str} {v : Value} (hx : (sc.names.lookup x == some .cell) = true) (k : KU () (fun y => if y = x then some v else m y) I Mu) : W C m I Mu (storeName C.env x v) KU := .mk fun E h tk S => by
  have hk : C.env.scope.kind = .function := by rw [F.scope]; exact F.kind
  have ek : ∀ y, C.env.kindOf y = sc.names.lookup y := fun y => by show C.env.scope.names.lookup y = _; rw [F.scope]
  have hl' : C.env.kindOf x = some .cell := by rw [ek]; exact beq_iff_eq.mp hx
  obtain ⟨c, hc⟩ := F.cells x (beq_iff_eq.mp hx)
  have hm := mem_of_lookup hc
  exact wpAny_storeName_cell hk hl' hc (S.cell x c hm) fun h' hn' hs => ⟨h', _, _, I, Mu, rfl, S.setCell hl' hm (by rw [ho]; exact .tail _ (List.mem_map_of_mem (f := (·.2)) hm)) hn' hs, k⟩
theorem W_Global (F : Fe C sc) {mg mb : Vm} (R : Rt C.hr mg mb) {x : Str} {pos : Pos} {v : Value} (hx : (sc.names.lookup x == some .globalImplicit) = true) (hd : (x == ("__debug__" : Str)) = false) (hv : mg x = some v) (k : K v m I Mu) :
    W C m I Mu (eval (.Name x pos) C.env) K := .mk fun E h tk S =>
  Name_function_global (by rw [F.scope]; exact F.kind) (by show C.env.scope.names.lookup x = _; rw [F.scope]; exact beq_iff_eq.mp hx) (loadGlobal_global (env := C.env) (by rw [F.glob]; exact R.g.keeps S.root) hv (back S k)) hd
theorem W_Builtin (F : Fe C sc) {mg mb : Vm} (R : Rt C.hr mg mb) {x : Str} {pos : Pos} {v : Value} (hx : (sc.names.lookup x == some .globalImplicit) = true) (hd : (x == ("__debug__" : Str)) = false) (hg : mg x = none) (hv : mb x = some v) (k : K v m I Mu) :
    W C m I Mu (eval (.Name x pos) C.env) K := .mk fun E h tk S =>
  Name_function_global (by rw [F.scope]; exact F.kind) (by show C.env.scope.names.lookup x = _; rw [F.scope]; exact beq_iff_eq.mp hx)
    (loadGlobal_builtin (env := C.env) (by rw [F.glob]; exact R.g.keeps S.root) hg (by rw [F.blt]; exact R.b.keeps S.root) hv (back S k)) hd

/- statements -/
theorem W_execs_nil (k : KF .next m I Mu) : W C m I Mu (execs [] C.env) KF := .mk fun _ _ _ S => wpAny_execs_nil (back S k)
theorem W_execs_cons {st : Stmt} {rest : List Stmt} (x : W C m I Mu (exec st C.env) (kSeq C rest KF)) : W C m I Mu (execs (st :: rest) C.env) KF := .mk fun E h tk S =>
  wpAny_execs_cons (x.use S fun f m' I' Mu' h' tk' S' k => by cases f <;> first | exact k.out E h' tk' S' | exact back S' k)
theorem W_Assign_Name {x : Str} {pos' pos : Pos} {value : Expr} (hs : swapsWith value (some (.Name x pos')) pos.line C.env = Pure.pure false)
    (k : W C m I Mu (eval value C.env) (kT C (storeName C.env x) (kNx KF))) : W C m I Mu (exec (.Assign [.Name x pos'] value pos) C.env) KF := .mk fun E h tk S =>
  wpAny_Assign_Name (k.use S fun v _ _ _ _ _ S' k' => k'.use S' fun _ _ _ _ _ _ S'' k'' => back S'' k'') hs
theorem W_Aug {x : Str} {pos' pos : Pos} {op : Operator} {value : Expr}
    (k : W C m I Mu (loadName C.env x) (kAug C x op value KF)) :
    W C m I Mu (exec (.AugAssign (.Name x pos') op value pos) C.env) KF := .mk fun E h tk S =>
  wpAny_AugAssign_Name (k.use S fun _ _ _ _ _ _ S1 k1 => k1.use S1 fun _ _ _ _ _ _ S2 k2 => k2.use S2 fun _ _ _ _ _ _ S3 k3 => k3.use S3 fun _ _ _ _ _ _ S4 k4 => back S4 k4)
theorem W_If {test : Expr} {body orelse : List Stmt} {pos : Pos} (k : W C m I Mu (isTrue test C.env (eval test C.env)) fun b m' I' Mu' => if b then W C m' I' Mu' (execs body C.env) KF else W C m' I' Mu' (execs orelse C.env) KF) :
    W C m I Mu (exec (.If test body orelse pos) C.env) KF := .mk fun E h tk S =>
  wpAny_If (k.use S fun b m' I' Mu' h' tk' S' k' => by cases b <;> exact k'.out E h' tk' S')
theorem W_Return {e : Expr} {pos : Pos} (k : W C m I Mu (eval e C.env) (kRet KF)) : W C m I Mu (exec (.Return (some e) pos) C.env) KF := .mk fun E h tk S =>
  wpAny_Return_some (k.use S fun _ _ _ _ _ _ S' k' => back S' k')
theorem W_Break {pos : Pos} (k : KF .brk m I Mu) : W C m I Mu (exec (.Break pos) C.env) KF := .mk fun _ _ _ S => wpAny_Break (back S k)
theorem W_Continue {pos : Pos} (k : KF .cont m I Mu) : W C m I Mu (exec (.Continue pos) C.env) KF := .mk fun _ _ _ S => wpAny_Continue (back S k)
theorem W_Expr {e : Expr} {pos : Pos} (hi : interactive C.env = false) (hs : swapsWith e none pos.line C.env = Pure.pure false) (k : W C m I Mu (eval e C.env) (kEx KF)) : W C m I Mu (exec (.Expr e pos) C.env) KF := .mk fun E h tk S =>
  wpAny_Expr (k.use S fun v _ _ _ _ _ S' k' => by obtain ⟨rfl, k'⟩ := k'; exact back S' k') hi hs
theorem W_AssignTuple {elts : List Expr} {n : Nat} {tpos pos : Pos} {value : Expr} (k : W C m I Mu (eval value C.env) (kT C (assign (.Tuple elts n tpos) C.env) (kNx KF)))
    (hs : swapsWithSole [.Tuple elts n tpos] value pos.line C.env = Pure.pure false) (hw : swappedStores [.Tuple elts n tpos] value C.env = Pure.pure none) :
    W C m I Mu (exec (.Assign [.Tuple elts n tpos] value pos) C.env) KF := .mk fun E h tk S =>
  PyProof.Rows.Assign_Tuple (k.use S fun v _ _ _ _ _ S' k' => k'.use S' fun _ _ _ _ _ _ S'' k'' => back S'' k'') hs hw

/- expressions -/
theorem W_int {i : Int} {n : Nat} {pos : Pos} (k : ∀ t, K (.int i t) m I Mu) : W C m I Mu (eval (.Constant (.int i) n pos) C.env) K := .mk fun _ _ _ S => wpAny_Constant_int (back S (k _))
theorem W_str {x : Str} {n : Nat} {pos : Pos} (k : ∀ t, K (.str x t) m I Mu) : W C m I Mu (eval (.Constant (.str x) n pos) C.env) K := .mk fun _ _ _ S => wpAny_Constant_str (back S (k _))
theorem W_bool {b : Bool} {n : Nat} {pos : Pos} (k : K (.bool b) m I Mu) : W C m I Mu (eval (.Constant (.bool b) n pos) C.env) K := .mk fun _ _ _ S => wpAny_Constant_bool (back S k)
theorem W_none {n : Nat} {pos : Pos} (k : K .none m I Mu) : W C m I Mu (eval (.Constant .none n pos) C.env) K := .mk fun _ _ _ S => wpAny_Constant_none (back S k)
theorem W_BinOp {l r : Expr} {op : Operator} {pos : Pos} (k : W C m I Mu (eval l C.env) (kBin C r (binaryOp op) K)) :
    W C m I Mu (eval (.BinOp l op r pos) C.env) K := .mk fun E h tk S => wpAny_BinOp (k.use S fun _ _ _ _ _ _ S1 k1 => k1.use S1 fun _ _ _ _ h2 t2 S2 k2 => k2.out E h2 t2 S2)
theorem W_Unary {x : Expr} {op : UnaryOp} {pos : Pos} (k : W C m I Mu (eval x C.env) (kT C (unaryOp op) K)) :
    W C m I Mu (eval (.UnaryOp op x pos) C.env) K := .mk fun E h tk S => wpAny_UnaryOp (k.use S fun _ _ _ _ h1 t1 S1 k1 => k1.out E h1 t1 S1)
theorem W_Compare {l r : Expr} {op : CmpOp} {pos : Pos} (k : W C m I Mu (eval l C.env) (kBin C r (compareOp op) K)) (hm : behindInMarks op r = false) :
    W C m I Mu (eval (.Compare l [op] [r] pos) C.env) K := .mk fun E h tk S => wpAny_Compare1 (k.use S fun _ _ _ _ _ _ S1 k1 => k1.use S1 fun _ _ _ _ h2 t2 S2 k2 => k2.out E h2 t2 S2) hm
theorem W_tCompare {l r : Expr} {op : CmpOp} {pos : Pos} {wh : Sem Value} (k : W C m I Mu (eval l C.env) (kBin C r (compareOp op) (kT C truthy KB))) (hm : behindInMarks op r = false) :
    W C m I Mu (isTrue (.Compare l [op] [r] pos) C.env wh) KB := .mk fun E h tk S =>
  wpAny_isTrue_Compare1 (k.use S fun _ _ _ _ _ _ S1 k1 => k1.use S1 fun _ _ _ _ _ _ S2 k2 => k2.use S2 fun _ _ _ _ h3 t3 S3 k3 => k3.out E h3 t3 S3) hm
theorem W_tChain2 {l r₁ r₂ : Expr} {op₁ op₂ : CmpOp} {pos : Pos} {wh : Sem Value} (k : W C m I Mu (eval l C.env) (kChain C pos op₁ op₂ r₁ r₂ KB)) (hm : lastMarks [op₁, op₂] [r₁, r₂] = false) :
    W C m I Mu (isTrue (.Compare l [op₁, op₂] [r₁, r₂] pos) C.env wh) KB := .mk fun E h tk S => PyProof.Rows.isTrue_chain (rs := []) (k.use S fun _ _ _ _ h1 t1 S1 k1 => k1.out E h1 t1 S1) hm
theorem W_tNot {x : Expr} {pos : Pos} {wh : Sem Value} (k : W C m I Mu (isTrue x C.env (eval x C.env)) fun b => KB (!b)) : W C m I Mu (isTrue (.UnaryOp .Not x pos) C.env wh) KB := .mk fun E h tk S =>
  wpAny_isTrue_Not (k.use S fun _ _ _ _ _ _ S1 k1 => back S1 k1)
theorem W_tBool {op : BoolOp} {vs : List Expr} {pos : Pos} {wh : Sem Value} (k : W C m I Mu (allTrue op vs C.env) KB) : W C m I Mu (isTrue (.BoolOp op vs pos) C.env wh) KB := .mk fun E h tk S => wpAny_isTrue_BoolOp (k.out E h tk S)
theorem W_and_nil (k : KB true m I Mu) : W C m I Mu (allTrue .And [] C.env) KB := .mk fun _ _ _ S => wpAny_allTrue_And_nil (back S k)
theorem W_or_nil (k : KB false m I Mu) : W C m I Mu (allTrue .Or [] C.env) KB := .mk fun _ _ _ S => wpAny_allTrue_Or_nil (back S k)
theorem W_and_cons {x : Expr} {r : List Expr} (k : W C m I Mu (isTrue x C.env (eval x C.env)) fun b m' I' Mu' => if b then W C m' I' Mu' (allTrue .And r C.env) KB else KB false m' I' Mu') : W C m I Mu (allTrue .And (x :: r) C.env) KB := .mk fun E h tk S =>
  wpAny_allTrue_And_cons (k.use S fun b m' I' Mu' h' tk' S' k' => by cases b <;> first | exact k'.out E h' tk' S' | exact back S' k')
theorem W_or_cons {x : Expr} {r : List Expr} (k : W C m I Mu (isTrue x C.env (eval x C.env)) fun b m' I' Mu' => if b then KB true m' I' Mu' else W C m' I' Mu' (allTrue .Or r C.env) KB) : W C m I Mu (allTrue .Or (x :: r) C.env) KB := .mk fun E h tk S =>
  wpAny_allTrue_Or_cons (k.use S fun b m' I' Mu' h' tk' S' k' => by cases b <;> first | exact k'.out E h' tk' S' | exact back S' k')
theorem W_tValue {e : Expr} {wh : Sem Value} (k : W C m I Mu wh (kT C truthy KB)) (he : isTrue e C.env wh = (do let v ← wh; standAt e.pos; holding [v] (truthy v))) : W C m I Mu (isTrue e C.env wh) KB := .mk fun E h tk S =>
  wpAny_isTrue_value (k.use S fun _ _ _ _ h1 t1 S1 k1 => k1.out E h1 t1 S1) he
theorem W_IfExp {test body orelse : Expr} {pos : Pos} (k : W C m I Mu (isTrue test C.env (eval test C.env)) fun b m' I' Mu' => if b then W C m' I' Mu' (eval body C.env) K else W C m' I' Mu' (eval orelse C.env) K) :
    W C m I Mu (eval (.IfExp test body orelse pos) C.env) K := .mk fun E h tk S => wpAny_IfExp (k.use S fun b m' I' Mu' h' tk' S' k' => by cases b <;> exact k'.out E h' tk' S')
theorem W_And2 {x y : Expr} {pos : Pos} (k : W C m I Mu (eval x C.env) fun v m1 I1 Mu1 => W C m1 I1 Mu1 (truthy v) fun t m2 I2 Mu2 => if t then W C m2 I2 Mu2 (eval y C.env) K else K v m2 I2 Mu2) : W C m I Mu (eval (.BoolOp .And [x, y] pos) C.env) K := .mk fun E h tk S =>
  wpAny_And2 (k.use S fun v _ _ _ _ _ S1 k1 => k1.use S1 fun t _ _ _ h2 t2 S2 k2 => by cases t <;> first | exact k2.out E h2 t2 S2 | exact back S2 k2)
theorem W_truthy_bool {b : Bool} (k : KB b m I Mu) : W C m I Mu (truthy (.bool b)) KB := .mk fun _ _ _ S => wpAny_truthy_bool (back S k)
theorem W_items_nil {pos : Pos} (k : KL [] m I Mu) : W C m I Mu (spliced (backTo pos (starEach [] C.env))) KL := .mk fun _ _ _ S => wpAny_items_nil (back S k)
theorem W_items_cons {pos : Pos} {e : Expr} {rest : List Expr} (he : starEach (e :: rest) C.env = (false, eval e C.env) :: starEach rest C.env)
    (k : W C m I Mu (eval e C.env) (kIt C pos rest KL)) : W C m I Mu (spliced (backTo pos (starEach (e :: rest) C.env))) KL := .mk fun E h tk S =>
  wpAny_items_cons (k.use S fun _ _ _ _ _ _ S1 k1 => k1.use S1 fun _ _ _ _ _ _ S2 k2 => back S2 k2) he

abbrev tupO (vs : List Value) (n : Nat := 0) : Obj := { cls := .type "tuple", data := .seq vs.toArray n }
abbrev lstO (vs : List Value) (n : Nat := 0) : Obj := { cls := .type "list", data := .seq vs.toArray n }

abbrev kTup (K : Value → Vm → Led → Led → Prop) : List Value → Vm → Led → Led → Prop := fun vs m1 I1 Mu1 => vs.length ≤ sizeLine ∧ ∀ a, K (.ref a) m1 ((a, tupO vs) :: I1) Mu1
abbrev kLst (K : Value → Vm → Led → Led → Prop) : List Value → Vm → Led → Led → Prop := fun vs m1 I1 Mu1 => vs.length ≤ sizeLine ∧ ∀ a, K (.ref a) m1 ((a, lstO vs) :: I1) Mu1
abbrev kLstM (K : Value → Vm → Led → Led → Prop) : List Value → Vm → Led → Led → Prop := fun vs m1 I1 Mu1 => vs.length ≤ sizeLine ∧ ∀ a, K (.ref a) m1 I1 ((a, lstO vs) :: Mu1)
theorem W_Tuple {elts : List Expr} {n : Nat} {pos : Pos} (k : W C m I Mu (spliced (backTo pos (starEach elts C.env))) (kTup K)) : W C m I Mu (eval (.Tuple elts n pos) C.env) K := .mk fun E h tk S =>
  wpAny_Tuple (k.use S fun _ _ _ _ _ _ S1 k1 => ⟨k1.1, back (S1.alloc _ rfl) (k1.2 _)⟩)
theorem W_List {elts : List Expr} {pos : Pos} (k : W C m I Mu (spliced (backTo pos (starEach elts C.env))) (kLst K)) : W C m I Mu (eval (.List elts pos) C.env) K := .mk fun E h tk S =>
  wpAny_List (k.use S fun _ _ _ _ _ _ S1 k1 => ⟨k1.1, back (S1.alloc _ rfl) (k1.2 _)⟩)
/-- the same, the list to be changed later -/
theorem W_ListM {elts : List Expr} {pos : Pos} (k : W C m I Mu (spliced (backTo pos (starEach elts C.env))) (kLstM K)) : W C m I Mu (eval (.List elts pos) C.env) K := .mk fun E h tk S =>
  wpAny_List (k.use S fun _ _ _ _ _ _ S1 k1 => ⟨k1.1, back (S1.allocM _ rfl) (k1.2 _)⟩)
end
end
section
abbrev Has (I Mu : Led) (a : Addr) (o : Obj) : Prop := (a, o) ∈ I ∨ (a, o) ∈ Mu
theorem St.has {C : Cx} {m : Vm} {I Mu : Led} {h : Heap} {a : Addr} {o : Obj} (S : St C m I Mu h) (x : Has I Mu a o) : h.get? a = some o := x.elim (S.led _) (S.mu _)

def strV : Value → Option Str
  | .str x _ => some x
  | _ => none
def intV : Value → Option Int
  | .int i _ => some i
  | _ => none
abbrev Strs (vs : List Value) (ws : List Str) : Prop := vs.map strV = ws.map some
abbrev Ints (vs : List Value) (ns : List Int) : Prop := vs.map intV = ns.map some
theorem strV_eq {v : Value} {x : Str} (h : strV v = some x) : ∃ t, v = .str x t := by cases v <;> simp [strV] at h; subst h; exact ⟨_, rfl⟩
theorem intV_eq {v : Value} {i : Int} (h : intV v = some i) : ∃ t, v = .int i t := by cases v <;> simp [intV] at h; subst h; exact ⟨_, rfl⟩
theorem Strs.length {vs : List Value} {ws : List Str} (h : Strs vs ws) : vs.length = ws.length := by have := congrArg List.length h; simpa using this
theorem Ints.length {vs : List Value} {ws : List Int} (h : Ints vs ws) : vs.length = ws.length := by have := congrArg List.length h; simpa using this
theorem Strs.get {vs : List Value} {ws : List Str} (h : Strs vs ws) {i : Nat} {x : Str} (hi : ws[i]? = some x) : ∃ t, vs[i]? = some (.str x t) := by
  have e : (vs.map strV)[i]? = (ws.map some)[i]? := by rw [h]
  rw [List.getElem?_map, List.getElem?_map, hi] at e
  cases hv : vs[i]? with
  | none => rw [hv] at e; simp at e
  | some v =>
    rw [hv] at e
    simp only [Option.map_some, Option.some.injEq] at e
    obtain ⟨t, rfl⟩ := strV_eq e
    exact ⟨t, rfl⟩
theorem Ints.get {vs : List Value} {ws : List Int} (h : Ints vs ws) {i : Nat} {x : Int} (hi : ws[i]? = some x) : ∃ t, vs[i]? = some (.int x t) := by
  have e : (vs.map intV)[i]? = (ws.map some)[i]? := by rw [h]
  rw [List.getElem?_map, List.getElem?_map, hi] at e
  cases hv : vs[i]? with
  | none => rw [hv] at e; simp at e
  | some v =>
    rw [hv] at e
    simp only [Option.map_some, Option.some.injEq] at e
    obtain ⟨t, rfl⟩ := intV_eq e
    exact ⟨t, rfl⟩
theorem Strs.mem {vs : List Value} {ws : List Str} (h : Strs vs ws) {v : Value} (hv : v ∈ vs) : ∃ x t, x ∈ ws ∧ v = .str x t := by
  obtain ⟨i, hi⟩ := List.getElem?_of_mem hv
  have e : (vs.map strV)[i]? = (ws.map some)[i]? := by rw [h]
  rw [List.getElem?_map, List.getElem?_map, hi] at e
  cases hw : ws[i]? with
  | none => rw [hw] at e; simp at e
  | some x =>
    rw [hw] at e
    simp only [Option.map_some, Option.some.injEq] at e
    obtain ⟨t, rfl⟩ := strV_eq e
    exact ⟨x, t, List.mem_of_getElem? hw, rfl⟩
theorem Ints.mem {vs : List Value} {ws : List Int} (h : Ints vs ws) {v : Value} (hv : v ∈ vs) : ∃ x t, x ∈ ws ∧ v = .int x t := by
  obtain ⟨i, hi⟩ := List.getElem?_of_mem hv
  have e : (vs.map intV)[i]? = (ws.map some)[i]? := by rw [h]
  rw [List.getElem?_map, List.getElem?_map, hi] at e
  cases hw : ws[i]? with
  | none => rw [hw] at e; simp at e
  | some x =>
    rw [hw] at e
    simp only [Option.map_some, Option.some.injEq] at e
    obtain ⟨t, rfl⟩ := intV_eq e
    exact ⟨x, t, List.mem_of_getElem? hw, rfl⟩

section
variable {C : Cx} {sc : Scope} {m : Vm} {I Mu : Led} {K : Value → Vm → Led → Led → Prop} {KF : Flow → Vm → Led → Led → Prop} {KB : Bool → Vm → Led → Led → Prop} {KU : Unit → Vm → Led → Led → Prop} {KL : List Value → Vm → Led → Led → Prop}
variable {a b : Int} {t u : Tok}

/- ints -/
theorem W_add (k : ∀ t, K (.int (a + b) t) m I Mu) : W C m I Mu (binaryOp .Add (.int a t) (.int b u)) K := .mk fun _ _ _ S => PyProof.Rows.add_int (back S (k _))
theorem W_sub (k : ∀ t, K (.int (a - b) t) m I Mu) : W C m I Mu (binaryOp .Sub (.int a t) (.int b u)) K := .mk fun _ _ _ S => PyProof.Rows.sub_int (back S (k _))
theorem W_mul (hm : IntMulOk a b) (k : ∀ t, K (.int (a * b) t) m I Mu) : W C m I Mu (binaryOp .Mult (.int a t) (.int b u)) K := .mk fun _ _ _ S => PyProof.Rows.mul_int (back S (k _)) hm
theorem W_mod (hb : b ≠ 0) (k : ∀ t, K (.int (a.fmod b) t) m I Mu) : W C m I Mu (binaryOp .Mod (.int a t) (.int b u)) K := .mk fun _ _ _ S => PyProof.Rows.mod_int hb (back S (k _))
theorem W_div (hb : b ≠ 0) (hp : Builtin.divisionGoesByPylong a b = false) (k : ∀ t, K (.int (a.fdiv b) t) m I Mu) : W C m I Mu (binaryOp .FloorDiv (.int a t) (.int b u)) K := .mk fun _ _ _ S => PyProof.Rows.floordiv_int hb (back S (k _)) (.inl hp)
theorem W_iadd (k : ∀ t, K (.int (a + b) t) m I Mu) : W C m I Mu (inplaceOp .Add (.int a t) (.int b u)) K := .mk fun _ _ _ S => PyProof.Rows.iadd_int (back S (k _))
theorem W_lt (k : K (.bool (decide (a < b))) m I Mu) : W C m I Mu (compareOp .Lt (.int a t) (.int b u)) K := .mk fun _ _ _ S => PyProof.Rows.lt_int (back S k)
theorem W_gt (k : K (.bool (decide (b < a))) m I Mu) : W C m I Mu (compareOp .Gt (.int a t) (.int b u)) K := .mk fun _ _ _ S => PyProof.Rows.gt_int (back S k)
theorem W_le (k : K (.bool (decide (a ≤ b))) m I Mu) : W C m I Mu (compareOp .LtE (.int a t) (.int b u)) K := .mk fun _ _ _ S => PyProof.Rows.le_int (back S k)
theorem W_eq (k : K (.bool (a == b)) m I Mu) : W C m I Mu (compareOp .Eq (.int a t) (.int b u)) K := .mk fun _ _ _ S => PyProof.Rows.eq_int (back S k)
theorem W_ne (k : K (.bool (a != b)) m I Mu) : W C m I Mu (compareOp .NotEq (.int a t) (.int b u)) K := .mk fun _ _ _ S => PyProof.Rows.ne_int (back S k)
theorem W_eqb {c d : Bool} (k : K (.bool (c == d)) m I Mu) : W C m I Mu (compareOp .Eq (.bool c) (.bool d)) K := .mk fun _ _ _ S => PyProof.Rows.eq_bool (back S k)
theorem W_subb {c d : Bool} (k : ∀ t, K (.int (b2i c - b2i d) t) m I Mu) : W C m I Mu (binaryOp .Sub (.bool c) (.bool d)) K := .mk fun _ _ _ S => PyProof.Rows.sub_bool (back S (k _))
theorem W_truthy_int (k : KB (a != 0) m I Mu) : W C m I Mu (truthy (.int a t)) KB := .mk fun _ _ _ S => PyProof.Rows.truthy_int (back S k)
theorem W_not {v : Value} (k : W C m I Mu (truthy v) (kNotV K)) : W C m I Mu (unaryOp .Not v) K := .mk fun E h tk S => not_value (k.use S fun _ _ _ _ _ _ S1 k1 => back S1 k1)

/- strs -/
variable {x y : Str}
theorem W_seq (k : K (.bool (x == y)) m I Mu) : W C m I Mu (compareOp .Eq (.str x t) (.str y u)) K := .mk fun _ _ _ S => PyProof.Rows.eq_str (back S k)
theorem W_sne (k : K (.bool (x != y)) m I Mu) : W C m I Mu (compareOp .NotEq (.str x t) (.str y u)) K := .mk fun _ _ _ S => PyProof.Rows.ne_str (back S k)
theorem W_siadd (hsz : x.length + y.length ≤ sizeLine) (k : ∀ t, K (.str (x ++ y) t) m I Mu) : W C m I Mu (inplaceOp .Add (.str x t) (.str y u)) K := .mk fun _ _ _ S => PyProof.Rows.iadd_str (fun _ _ => back S (k _)) hsz

/- lists -/
theorem any_str {vs : List Value} {ws : List Str} (hs : Strs vs ws) (x : Str) : vs.toArray.any (fun v => match v with | .str y _ => y.cps.toList == x.cps.toList | _ => false) = decide (x ∈ ws) := by
  rw [List.any_toArray]
  induction ws generalizing vs with
  | nil => cases vs <;> simp [Strs] at hs ⊢
  | cons w ws ih =>
    cases vs with
    | nil => simp [Strs] at hs
    | cons v vs =>
      simp only [Strs, List.map_cons, List.cons.injEq] at hs
      obtain ⟨t, rfl⟩ := strV_eq hs.1
      rw [List.any_cons, ih hs.2]
      have : (w.cps.toList == x.cps.toList) = decide (x = w) := by
        by_cases e : x = w
        · subst e; simp
        · simp only [e, decide_false, beq_eq_false_iff_ne, ne_eq]
          intro q; apply e; cases x; cases w; simp at q; simp [q]
      simp only [this, List.mem_cons]
      by_cases e1 : x = w <;> by_cases e2 : x ∈ ws <;> simp [e1, e2]
theorem W_in_strs {l : Addr} {vs : List Value} {ws : List Str} {n : Nat} (hl : Has I Mu l (lstO vs n)) (hs : Strs vs ws) (k : K (.bool (decide (x ∈ ws))) m I Mu) : W C m I Mu (compareOp .In (.str x t) (.ref l)) K := .mk fun _ _ _ S => by
  refine SeqRoads2.in_list (fun v => match v with | .str y _ => y.cps.toList == x.cps.toList | _ => false) (fun v hv => ?_) (S.has hl) ?_
  · obtain ⟨y, t', _, rfl⟩ := hs.mem (by simpa using hv)
    exact SeqRoads2.EqGives.str y x t' t
  · rw [any_str hs]; exact back S k
theorem any_int {vs : List Value} {ws : List Int} (hs : Ints vs ws) (x : Int) : vs.toArray.any (fun v => match v with | .int y _ => y == x | _ => false) = decide (x ∈ ws) := by
  rw [List.any_toArray]
  induction ws generalizing vs with
  | nil => cases vs <;> simp [Ints] at hs ⊢
  | cons w ws ih =>
    cases vs with
    | nil => simp [Ints] at hs
    | cons v vs =>
      simp only [Ints, List.map_cons, List.cons.injEq] at hs
      obtain ⟨t, rfl⟩ := intV_eq hs.1
      rw [List.any_cons, ih hs.2]
      have : (w == x) = decide (x = w) := by
        by_cases e : x = w
        · subst e; simp
        · simp only [e, decide_false, beq_eq_false_iff_ne, ne_eq]; exact fun q => e q.symm
      simp only [this, List.mem_cons]
      by_cases e1 : x = w <;> by_cases e2 : x ∈ ws <;> simp [e1, e2]
theorem W_in_ints {l : Addr} {vs : List Value} {ws : List Int} {n : Nat} (hl : Has I Mu l (lstO vs n)) (hs : Ints vs ws) (k : K (.bool (decide (a ∈ ws))) m I Mu) : W C m I Mu (compareOp .In (.int a t) (.ref l)) K := .mk fun _ _ _ S => by
  refine SeqRoads2.in_list (fun v => match v with | .int y _ => y == a | _ => false) (fun v hv => ?_) (S.has hl) ?_
  · obtain ⟨y, t', _, rfl⟩ := hs.mem (by simpa using hv)
    exact MeetsSeq.EqGives.int y a t' t
  · rw [any_int hs]; exact back S k
theorem W_in_intsT {l : Addr} {vs : List Value} {ws : List Int} {n : Nat} (hl : Has I Mu l (tupO vs n)) (hs : Ints vs ws) (k : K (.bool (decide (a ∈ ws))) m I Mu) : W C m I Mu (compareOp .In (.int a t) (.ref l)) K := .mk fun _ _ _ S => by
  refine SeqRoads2.in_tuple (fun v => match v with | .int y _ => y == a | _ => false) (fun v hv => ?_) (S.has hl) ?_
  · obtain ⟨y, t', _, rfl⟩ := hs.mem (by simpa using hv)
    exact MeetsSeq.EqGives.int y a t' t
  · rw [any_int hs]; exact back S k
theorem W_addL {l l' : Addr} {vs vs' : List Value} {n n' : Nat} (hl : Has I Mu l (lstO vs n)) (hl' : Has I Mu l' (lstO vs' n')) (hsz : vs.length + vs'.length ≤ sizeLine)
    (k : ∀ c, K (.ref c) m ((c, lstO (vs ++ vs')) :: I) Mu) : W C m I Mu (binaryOp .Add (.ref l) (.ref l')) K := .mk fun _ _ _ S =>
  P.add_list (S.has hl) (S.has hl') (by
    have e : (vs.toArray ++ vs'.toArray) = (vs ++ vs').toArray := by simp
    rw [e]; exact back (S.alloc _ rfl) (k _)) (by simpa using hsz)
theorem mul_raw {prog : Program} {w : World} {A : Around} {E : Value → Shared → Prop} {s : Shared} {l : Addr} {items : Array Value} {k : Nat} {x : Int} {u : Tok} {Q : Value → Shared → Prop}
    (hl : s.heap.get? l = some { cls := .type "list", dict := none, data := .seq items k, slots := #[] })
    (hlo : -(2 ^ 63 : Int) ≤ x) (hhi : x < 2 ^ 63) (hsz : items.size * x.toNat ≤ 2 ^ 24)
    (h : Q (.ref s.heap.objs.size) { s with heap := s.heap.push { cls := .type "list", data := .seq (List.foldl (fun x1 x2 => x1 ++ x2) #[] (List.replicate (if items.isEmpty = true then 0 else x.toNat) items)) } }) :
    wpAny (model prog w) A (binaryOp .Mult (.ref l) (.int x u)) Q E s :=
  wpAny_binaryOp_repeat_ref (T := "list") (U := "int") (by decide) ⟨_, hl, rfl⟩ (fun s' => typeIs_int s' x u) noFill_list_mul F.fills_int_mul F.slot_int_rmul repeat_list F.slot_int_index.lookup
    (call_meets F.slot_int_rmul (typeIs_int s x u) F.entry_int_rmul (F.args_int_rmul_2 _ _) (int___rmul___int_list x u l items k)
      ⟨hl, rfl, ⟨_, hl, rfl⟩, call_meets F.slot_list_mul ⟨_, hl, rfl⟩ F.entry_list_mul (F.args_list_mul_2 _ _)
        (AutoListH.list___mul___list_int_3 l items k x u (by simp [Builtin.List.listFitsIndex]; omega) (by omega) (by simp [Builtin.List.listTooLong, sizeLine]; omega))
        ⟨hl, h⟩⟩)
theorem W_mulL {l : Addr} {vs : List Value} {n : Nat} {j : Nat} (hl : Has I Mu l (lstO vs n)) (hne : vs ≠ []) (hj : (j : Int) < 2 ^ 63) (hsz : vs.length * j ≤ 2 ^ 24)
    (k : ∀ c, K (.ref c) m ((c, lstO ((List.replicate j vs).flatten)) :: I) Mu) : W C m I Mu (binaryOp .Mult (.ref l) (.int (j : Int) u)) K := .mk fun E h tk S => by
  refine mul_raw (S.has hl) (by omega) hj (by rw [List.size_toArray, Int.toNat_natCast]; exact hsz) ?_
  have e : List.foldl (fun x1 x2 => x1 ++ x2) #[] (List.replicate (if vs.toArray.isEmpty = true then 0 else (j : Int).toNat) vs.toArray) = ((List.replicate j vs).flatten).toArray := by
    have : vs.toArray.isEmpty = false := by cases vs <;> simp at hne ⊢
    rw [this]
    simp only [Bool.false_eq_true, if_false, Int.toNat_natCast]
    have gen : ∀ (j : Nat) (acc : Array Value), List.foldl (fun x1 x2 => x1 ++ x2) acc (List.replicate j vs.toArray) = acc ++ ((List.replicate j vs).flatten).toArray := by
      intro j
      induction j with
      | zero => intro acc; simp
      | succ j ih => intro acc; rw [List.replicate_succ, List.foldl_cons, ih, List.replicate_succ, List.flatten_cons]; simp
    rw [gen]; simp
  rw [e]
  exact back (S.alloc _ rfl) (k _)

/- items -/
abbrev kSub (C : Cx) (value slice : Expr) (K : Value → Vm → Led → Led → Prop) : Value → Vm → Led → Led → Prop := fun o m1 I1 Mu1 => W C m1 I1 Mu1 (eval slice C.env) (kT C (subscriptTail value slice o) K)
theorem W_Subscript {value slice : Expr} {pos : Pos} (k : W C m I Mu (eval value C.env) (kSub C value slice K)) : W C m I Mu (eval (.Subscript value slice pos) C.env) K := .mk fun E h tk S =>
  PyProof.Rows.Subscript_ (k.use S fun _ _ _ _ _ _ S1 k1 => k1.use S1 fun _ _ _ _ h2 t2 S2 k2 => k2.out E h2 t2 S2)
theorem W_itemL {value slice : Expr} {l : Addr} {vs : List Value} {n : Nat} {i : Int} {v : Value} (hs : subscripted slice false (.ref l) (.int i u) = operate [.ref l, .int i u] (getItem (.ref l) (.int i u))) (hl : Has I Mu l (lstO vs n))
    (h0 : 0 ≤ i) (hi : i < 2 ^ 63) (hv : vs[i.toNat]? = some v) (k : K v m I Mu) : W C m I Mu (subscriptTail value slice (.ref l) (.int i u)) K := .mk fun E h tk S =>
  tail_any (T := "list") ⟨_, S.has hl, rfl⟩ slot_list_getitem.lookup (wpAny_getItem_list (IsL.isList (S.has hl)) h0 hi (by simpa using hv) (back S k)) hs
theorem W_itemNeg {value slice : Expr} {l : Addr} {vs : List Value} {n : Nat} {v : Value} (hs : subscripted slice false (.ref l) (.int (-1) u) = operate [.ref l, .int (-1) u] (getItem (.ref l) (.int (-1) u))) (hl : Has I Mu l (lstO vs n))
    (hv : vs[vs.length - 1]? = some v) (k : K v m I Mu) : W C m I Mu (subscriptTail value slice (.ref l) (.int (-1) u)) K := .mk fun E h tk S => by
  have hlen : 0 < vs.length := by have := (List.getElem?_eq_some_iff.mp hv).1; omega
  refine tail_any (T := "list") ⟨_, S.has hl, rfl⟩ slot_list_getitem.lookup (wpAny_getItem_list_neg (IsL.isList (S.has hl)) (by decide) (by simp; omega) (by decide) ?_ (back S k)) hs
  have : ((-1 : Int) + (vs.toArray.size : Int)).toNat = vs.length - 1 := by simp; omega
  rw [this]; simpa using hv
theorem W_itemT {value slice : Expr} {l : Addr} {vs : List Value} {n : Nat} {i : Int} {v : Value} (hs : subscripted slice false (.ref l) (.int i u) = operate [.ref l, .int i u] (getItem (.ref l) (.int i u))) (hl : Has I Mu l (tupO vs n))
    (h0 : 0 ≤ i) (hi : i < 2 ^ 63) (hv : vs[i.toNat]? = some v) (k : K v m I Mu) : W C m I Mu (subscriptTail value slice (.ref l) (.int i u)) K := .mk fun E h tk S => by
  have hlt : i < vs.toArray.size := by have := (List.getElem?_eq_some_iff.mp hv).1; simp; omega
  exact tail_any (T := "tuple") ⟨_, S.has hl, rfl⟩ slot_tuple_getitem.lookup (P.getItem_tuple (S.has hl) (by omega) hi (seqIndex_of h0 hlt) (by simpa using hv) (back S k)) hs
end
end
section
theorem St.dropUpd {C : Cx} {m : Vm} {I Mu : Led} {h h' : Heap} {a : Addr} {o : Obj} (S : St C m I ((a, o) :: Mu) h) (hX : a ∉ C.X) (hk : ∀ b o', b ≠ a → h.get? b = some o' → h'.get? b = some o') : St C m I Mu h' := by
  have d := List.nodup_append.mp S.dist
  have ham : a ∈ ((a, o) :: Mu).map (·.1) := .head _
  have hv : ∀ b ∈ C.vars, b ≠ a := fun b hb => d.2.2 b hb a ham
  have hw := S.wr a (List.mem_append.mpr (.inr ham))
  have S' := S.drop
  refine ⟨?_, fun n c hc => ?_, fun b o e => ?_, fun b o hb e => ?_, fun b hb => ?_, fun p hp => ?_, fun p hp => ?_, S'.dist, S'.ia, S'.wr, S'.new, S.cnd, S.ck, S.lown⟩
  · obtain ⟨ml, hn, e⟩ := S.ns
    exact ⟨ml, hn.extBut (b := a) (fun b o' hb e => hk b o' hb e) (hv _ (.head _)), e⟩
  · obtain ⟨oc, e, hd⟩ := S.cell n c hc
    exact ⟨oc, hk c oc (hv c (.tail _ (List.mem_map_of_mem (f := (·.2)) hc))) e, hd⟩
  · exact hk b o (fun q => by rw [q, hw.1] at e; cases e) (S.root b o e)
  · exact hk b o (fun q => by
      subst q
      rcases hw.2 with q | q
      · exact hb q
      · rw [q] at e; cases e) (S.keep b o hb e)
  · obtain ⟨o', e⟩ := S.xin b hb
    exact ⟨o', hk b o' (fun q => hX (q ▸ hb)) e⟩
  · exact hk _ _ (fun q => S.ia p hp (by rw [q]; exact List.mem_append.mpr (.inr ham))) (S.led p hp)
  · refine hk _ _ (fun q => ?_) (S.mu p (.tail _ hp))
    have := List.nodup_cons.mp d.2.1
    exact this.1 (q ▸ List.mem_map_of_mem (f := (·.1)) hp)

/-- what a loop may go over -/
structure Src (I : Led) where
  n : Nat
  ob : Nat → Obj → Prop
  P : Nat → Value → Prop
  item : ∀ {C : Cx} {i : Nat} {it : Addr} {o : Obj} {I' : Led} {m : Vm} {Mu : Led} {K : Option Value → Vm → Led → Led → Prop}, (∀ p ∈ I, p ∈ I') → i < n → ob i o →
    (∀ v o', P i v → ob (i + 1) o' → K (some v) m I' ((it, o') :: Mu)) → W C m I' ((it, o) :: Mu) (pyNext (.ref it)) K
  stop : ∀ {C : Cx} {it : Addr} {o : Obj} {I' : Led} {m : Vm} {Mu : Led} {K : Option Value → Vm → Led → Led → Prop}, (∀ p ∈ I, p ∈ I') → C.A.handled = none → it ∉ C.X → ob n o →
    K none m I' Mu → W C m I' ((it, o) :: Mu) (pyNext (.ref it)) K
  again : ∀ {C : Cx} {it : Addr} {o : Obj} {I' : Led} {m : Vm} {Mu : Led} {K : Value → Vm → Led → Led → Prop}, ob 0 o → K (.ref it) m I' ((it, o) :: Mu) → W C m I' ((it, o) :: Mu) (pyIter (.ref it)) K

/-- a list's iterator -/
def LIt (l : Addr) (i : Nat) (o : Obj) : Prop := o.cls = .type "list_iterator" ∧ o.data = .fields #[.ref l, .int i 0]

theorem W_next_list {C : Cx} {i : Nat} {it l : Addr} {o : Obj} {I : Led} {m : Vm} {Mu : Led} {vs : List Value} {n : Nat} {v : Value} {K : Option Value → Vm → Led → Led → Prop} (hl : (l, lstO vs n) ∈ I) (ho : LIt l i o) (hv : vs[i]? = some v)
    (k : ∀ o', LIt l (i + 1) o' → K (some v) m I ((it, o') :: Mu)) : W C m I ((it, o) :: Mu) (pyNext (.ref it)) K := .mk fun E h tk S => by
  refine wpAny_pyNext_list_item (it := it) (l := l) (i := i) (items := vs.toArray) ⟨o, S.mu _ (.head _), ho.1, ho.2⟩ (IsL.isList (S.led _ hl)) (by simpa using hv) fun h' hit' hs => ?_
  obtain ⟨o', e, c1, c2⟩ := hit'
  exact back (S.mu_of_upd (o' := o') .head hs.2 hs.1 e) (k o' ⟨c1, c2⟩)
theorem W_stop_list {C : Cx} {i : Nat} {it l : Addr} {o : Obj} {I : Led} {m : Vm} {Mu : Led} {vs : List Value} {n : Nat} {K : Option Value → Vm → Led → Led → Prop} (hh : C.A.handled = none) (hX : it ∉ C.X) (hl : (l, lstO vs n) ∈ I) (ho : LIt l i o) (hv : vs[i]? = none)
    (k : K none m I Mu) : W C m I ((it, o) :: Mu) (pyNext (.ref it)) K := .mk fun E h tk S => by
  refine wpAny_pyNext_list_end (it := it) (l := l) (i := i) (items := vs.toArray) hh ⟨o, S.mu _ (.head _), ho.1, ho.2⟩ (IsL.isList (S.led _ hl)) (by simpa using hv) fun h' hs => ?_
  exact back (S.dropUpd hX fun b o' hb e => hs b o' hb e) k
def listSrc {I : Led} {l : Addr} {vs : List Value} {n : Nat} (hl : (l, lstO vs n) ∈ I) : Src I where
  n := vs.length
  ob := LIt l
  P := fun i v => vs[i]? = some v
  item := fun hI hi ho k => W_next_list (v := vs[_]'hi) (hI _ hl) ho (List.getElem?_eq_getElem hi) fun o' h' => k _ o' (List.getElem?_eq_getElem hi) h'
  stop := fun hI hh hX ho k => W_stop_list hh hX (hI _ hl) ho (List.getElem?_eq_none (Nat.le_refl _)) k
  again := fun {C it o I' m Mu K} ho k => .mk fun E h tk S => wpAny_pyIter_listiter (it := it) (l := l) (i := 0) ⟨o, S.mu _ (.head _), ho.1, ho.2⟩ (back S k)
theorem W_iter_list {C : Cx} {m : Vm} {I Mu : Led} {l : Addr} {vs : List Value} {n : Nat} {K : Value → Vm → Led → Led → Prop} (hl : Has I Mu l (lstO vs n)) (k : ∀ it o, LIt l 0 o → K (.ref it) m I ((it, o) :: Mu)) : W C m I Mu (pyIter (.ref l)) K := .mk fun E h tk S =>
  wpAny_pyIter_list (IsL.isList (S.has hl)) (back (S.allocM _ rfl) (k _ _ ⟨rfl, rfl⟩))

/-- range(n) -/
abbrev rngO (n : Nat) (t u v : Tok) : Obj := { cls := .type "range", data := .fields #[.int 0 t, .int (n : Int) u, .int 1 v] }
abbrev rngI (n i : Nat) : Obj := { cls := .type "range_iterator", data := .fields #[rawInt (i : Int), rawInt ((n : Int) - (i : Int)), rawInt 1] }
def rangeSrc (I : Led) (n : Nat) : Src I where
  n := n
  ob := fun i o => o = rngI n i
  P := fun i v => ∃ t, v = .int (i : Int) t
  item := fun {C i it o I' m Mu K} _ hi ho k => .mk fun E h tk S => by
    subst ho
    refine wpAny_pyNext_range_item (S.mu _ (.head _)) (by omega) fun h' hit' hs => ?_
    refine back (S.mu_of_upd (o' := rngI n (i + 1)) .head hs.2 hs.1 ?_) (k _ _ ⟨_, rfl⟩ rfl)
    rw [hit']
    have e1 : (i : Int) + 1 = ((i + 1 : Nat) : Int) := by omega
    have e2 : (n : Int) - (i : Int) - 1 = (n : Int) - ((i + 1 : Nat) : Int) := by omega
    rw [e1, e2]
  stop := fun {C it o I' m Mu K} _ hh hX ho k => .mk fun E h tk S => by
    subst ho
    exact wpAny_pyNext_range_end hh (S.mu _ (.head _)) (by omega) fun h' hs => back (S.dropUpd hX fun b o' hb e => hs b o' hb e) k
  again := fun {C it o I' m Mu K} ho k => .mk fun E h tk S => by
    subst ho
    exact wpAny_pyIter_rangeiter (S.mu _ (.head _)) (back S k)
theorem W_range {C : Cx} {m : Vm} {I Mu : Led} {n : Nat} {u : Tok} {K : Value → Vm → Led → Led → Prop} (k : ∀ a t v, K (.ref a) m ((a, rngO n t u v) :: I) Mu) : W C m I Mu (call (.type "range") [.int (n : Int) u]) K := .mk fun E h tk S =>
  call_range_1 (back (S.alloc _ rfl) (k _ _ _))
theorem W_iter_range {C : Cx} {m : Vm} {I Mu : Led} {a : Addr} {n : Nat} {t u v : Tok} {K : Value → Vm → Led → Led → Prop} (hn : (n : Int) < 2 ^ 62) (hl : Has I Mu a (rngO n t u v)) (k : ∀ it, K (.ref it) m I ((it, rngI n 0) :: Mu)) : W C m I Mu (pyIter (.ref a)) K := .mk fun E h tk S => by
  refine wpAny_pyIter_range (S.has hl) (small_one (by omega) (by omega) (by omega) hn) ?_
  have e : Builtin.Range.rangeSize 0 (n : Int) 1 = (n : Int) - ((0 : Nat) : Int) := by rw [rangeSize_one]; split <;> omega
  rw [e]
  exact back (S.allocM _ rfl) (k _)

section
variable {C : Cx} {sc : Scope} {m : Vm} {I Mu : Led} {KF : Flow → Vm → Led → Led → Prop} {K : Value → Vm → Led → Led → Prop}

abbrev kFor (C : Cx) (target : Expr) (body orelse : List Stmt) (KF : Flow → Vm → Led → Led → Prop) : Value → Vm → Led → Led → Prop := fun it m2 I2 Mu2 => W C m2 I2 Mu2 (runOwn (.forLoop target it body orelse C.env) C.env) KF
abbrev kTurn (I : Led) (it : Addr) (o' : Obj) (Inv : Vm → Led → Led → Prop) (KF : Flow → Vm → Led → Led → Prop) : Flow → Vm → Led → Led → Prop := fun f m2 I2 Mu2 => match f with
      | .next | .cont => ∃ Mu3, Mu2 = (it, o') :: Mu3 ∧ (∀ p ∈ I, p ∈ I2) ∧ Inv m2 I2 Mu3
      | .brk => KF .next m2 I2 Mu2
      | .ret v => KF (.ret v) m2 I2 Mu2
abbrev kWh (Inv : Nat → Vm → Led → Led → Prop) (n : Nat) (KF : Flow → Vm → Led → Led → Prop) : Flow → Vm → Led → Led → Prop := fun f m2 I2 Mu2 => match f with
        | .next | .cont => ∃ n', n' < n ∧ Inv n' m2 I2 Mu2
        | .brk => KF .next m2 I2 Mu2
        | .ret v => KF (.ret v) m2 I2 Mu2
theorem W_For {target iter : Expr} {body orelse : List Stmt} {pos : Pos} (hs : ∀ x, foldedSetIterable iter C.env x = pure x)
    (k : W C m I Mu (eval iter C.env) (kT C pyIter (kFor C target body orelse KF))) :
    W C m I Mu (exec (.For target iter body orelse pos) C.env) KF := .mk fun E h tk S => by
  rw [exec_For]
  exact wpAny_bind (wpAny_standAt (wpAny_bind (k.use S fun x _ _ _ _ _ S1 k1 => wpAny_bind (wpAny_of_eq (hs x) (wpAny_bind (wpAny_standAt (wpAny_bind (wpAny_holding
    (k1.use S1 fun it _ _ _ h2 t2 S2 k2 => k2.out E h2 t2 S2)))))))))

theorem W_forLoop (F : Fe C sc) (hh : C.A.handled = none) {x : Str} {px : Pos} {it : Addr} {o : Obj} {body orelse : List Stmt} (src : Src I) (ho : src.ob 0 o) (hX : it ∉ C.X) (hx : (sc.names.lookup x == some .local) = true ∨ ((sc.names.lookup x == some .cell) = true ∧ C.own = C.vars))
    (Inv : Nat → Vm → Led → Led → Prop) (h0 : Inv 0 m I Mu)
    (turn : ∀ i v m' I' Mu' o', i < src.n → (∀ p ∈ I, p ∈ I') → src.P i v → Inv i m' I' Mu' → ∀ KT : Flow → Vm → Led → Led → Prop, (∀ f m2 I2 Mu2, kTurn I it o' (Inv (i + 1)) KF f m2 I2 Mu2 → KT f m2 I2 Mu2) → W C (fun y => if y = x then some v else m' y) I' ((it, o') :: Mu') (execs body C.env) KT)
    (done : ∀ m' I' Mu', (∀ p ∈ I, p ∈ I') → Inv src.n m' I' Mu' → W C m' I' Mu' (execs orelse C.env) KF) :
    W C m I ((it, o) :: Mu) (runOwn (.forLoop (.Name x px) (.ref it) body orelse C.env) C.env) KF := .mk fun E h tk S => by
  refine wpAny_runOwn (codeAny_forLoop_any (fun k s => ∃ i h tk m' I' Mu' o', k = src.n - i ∧ i ≤ src.n ∧ s = C.st h tk ∧ St C m' I' ((it, o') :: Mu') h ∧ src.ob i o' ∧ (∀ p ∈ I, p ∈ I') ∧ Inv i m' I' Mu') ?_ src.n
    ⟨0, h, tk, m, I, Mu, o, rfl, Nat.zero_le _, rfl, S, ho, fun _ hp => hp, h0⟩)
  rintro k s ⟨i, h', tk', m', I', Mu', o', rfl, hi, rfl, S', ho', hI, hInv⟩
  by_cases hlt : i < src.n
  · refine (src.item (C := C) (K := fun r m2 I2 Mu2 => ∃ v o2, r = some v ∧ src.P i v ∧ src.ob (i + 1) o2 ∧ m2 = m' ∧ I2 = I' ∧ Mu2 = (it, o2) :: Mu') hI hlt ho' fun v o2 hP h2 => ⟨v, o2, rfl, hP, h2, rfl, rfl, rfl⟩).use S' ?_
    rintro r m2 I2 Mu2 h2 t2 S2 ⟨v, o2, rfl, hP, hob, rfl, rfl, rfl⟩
    refine wpAny_of_eq (a := ()) rfl ?_
    refine wpAny_assign_Name ?_
    have st : W C m2 I2 ((it, o2) :: Mu') (storeName C.env x v) fun _ m3 I3 Mu3 => m3 = (fun y => if y = x then some v else m2 y) ∧ I3 = I2 ∧ Mu3 = (it, o2) :: Mu' := by
      rcases hx with hx | ⟨hx, hw⟩
      · exact W_store F hx ⟨rfl, rfl, rfl⟩
      · exact W_storeC F hw hx ⟨rfl, rfl, rfl⟩
    refine st.use S2 ?_
    rintro _ m3 I3 Mu3 h3 t3 S3 ⟨rfl, rfl, rfl⟩
    refine (turn i v m2 I3 Mu' o2 hlt hI hP hInv _ fun _ _ _ _ k => k).use S3 ?_
    intro f m4 I4 Mu4 h4 t4 S4 k4
    have again : (∃ Mu3, Mu4 = (it, o2) :: Mu3 ∧ (∀ p ∈ I, p ∈ I4) ∧ Inv (i + 1) m4 I4 Mu3) → ∃ m, m < src.n - i ∧ ∃ i h tk m' I' Mu' o', m = src.n - i ∧ i ≤ src.n ∧ C.st h4 t4 = C.st h tk ∧ St C m' I' ((it, o') :: Mu') h ∧ src.ob i o' ∧ (∀ p ∈ I, p ∈ I') ∧ Inv i m' I' Mu' := by
      rintro ⟨Mu3, rfl, hI4, hInv4⟩
      exact ⟨src.n - (i + 1), by omega, i + 1, h4, t4, m4, I4, Mu3, o2, rfl, hlt, rfl, S4, hob, hI4, hInv4⟩
    cases f with
    | next => exact again k4
    | cont => exact again k4
    | brk => exact back S4 k4
    | ret v => exact back S4 k4
  · have e : i = src.n := by omega
    subst e
    refine (src.stop (C := C) (K := fun r m2 I2 Mu2 => r = none ∧ m2 = m' ∧ I2 = I' ∧ Mu2 = Mu') hI hh hX ho' ⟨rfl, rfl, rfl, rfl⟩).use S' ?_
    rintro r m2 I2 Mu2 h2 t2 S2 ⟨rfl, rfl, rfl, rfl⟩
    exact (done m2 I2 Mu2 hI hInv).out _ h2 t2 S2

theorem W_While {test : Expr} {body orelse : List Stmt} {pos : Pos} (Inv : Nat → Vm → Led → Led → Prop) (n : Nat) (h0 : Inv n m I Mu)
    (turn : ∀ n m' I' Mu', Inv n m' I' Mu' → ∀ KT : Flow → Vm → Led → Led → Prop, (∀ f m2 I2 Mu2, kWh Inv n KF f m2 I2 Mu2 → KT f m2 I2 Mu2) → W C m' I' Mu' (isTrue test C.env (eval test C.env)) fun b m1 I1 Mu1 => if b then W C m1 I1 Mu1 (execs body C.env) KT else W C m1 I1 Mu1 (execs orelse C.env) KF) :
    W C m I Mu (exec (.While test body orelse pos) C.env) KF := .mk fun E h tk S => by
  refine wpAny_While (codeAny_whileLoop (fun k s => ∃ h tk m' I' Mu', s = C.st h tk ∧ St C m' I' Mu' h ∧ Inv k m' I' Mu') ?_ n ⟨h, tk, m, I, Mu, rfl, S, h0⟩)
  rintro k s ⟨h', tk', m', I', Mu', rfl, S', hInv⟩
  refine (turn k m' I' Mu' hInv _ fun _ _ _ _ k => k).use S' ?_
  intro b m1 I1 Mu1 h1 t1 S1 k1
  cases b with
  | true =>
    simp only [if_true] at k1 ⊢
    refine k1.use S1 ?_
    intro f m2 I2 Mu2 h2 t2 S2 k2
    cases f with
    | next => obtain ⟨n', hn, hI⟩ := k2; exact ⟨n', hn, h2, t2, m2, I2, Mu2, rfl, S2, hI⟩
    | cont => obtain ⟨n', hn, hI⟩ := k2; exact ⟨n', hn, h2, t2, m2, I2, Mu2, rfl, S2, hI⟩
    | brk => exact back S2 k2
    | ret v => exact back S2 k2
  | false =>
    simp only [Bool.false_eq_true, if_false] at k1 ⊢
    exact k1.out _ h1 t1 S1
end
end
section
def bindM : List (Str × Value) → Vm → Vm
  | [], m => m
  | (n, v) :: r, m => bindM r (fun y => if y = n then some v else m y)
theorem bindL_eq {k : Str → Option NameKind} {y : Str} (hy : k y = some .local) : ∀ (bs : List (Str × Value)) (ml m : Vm), ml y = m y → bindL k bs ml y = bindM bs m y
  | [], _, _, e => e
  | (n, v) :: r, ml, m, e => by
    unfold bindL bindM
    refine bindL_eq hy r _ _ ?_
    by_cases hn : k n = some .local
    · rw [if_pos hn]; by_cases q : y = n
      · simp [q]
      · simp [q, e]
    · rw [if_neg hn]
      have : y ≠ n := fun q => hn (q ▸ hy)
      simp [this, e]
theorem bindC_eq {k : Str → Option NameKind} {y : Str} (hy : k y ≠ some .local) : ∀ (bs : List (Str × Value)) (ml m : Vm), ml y = m y → bindC k bs ml y = bindM bs m y
  | [], _, _, e => e
  | (n, v) :: r, ml, m, e => by
    unfold bindC bindM
    refine bindC_eq hy r _ _ ?_
    by_cases hn : k n = some .local
    · rw [if_pos hn]
      have : y ≠ n := fun q => hy (q ▸ hn)
      simp [this, e]
    · rw [if_neg hn]; by_cases q : y = n
      · simp [q]
      · simp [q, e]
theorem cellsFrom_names : ∀ (names : List (Str × NameKind)) (n n' : Nat) (acc acc' : List (Str × Addr)), acc.map (·.1) = acc'.map (·.1) → (cellsFrom n names acc).map (·.1) = (cellsFrom n' names acc').map (·.1)
  | [], _, _, _, _, e => e
  | (x, k) :: r, n, n', acc, acc', e => by
    unfold cellsFrom
    split
    · exact cellsFrom_names r _ _ _ _ (by simp [e])
    · exact cellsFrom_names r _ _ _ _ e
theorem cellsFrom_kind {x : Str} {c : Addr} : ∀ (names : List (Str × NameKind)) (n : Nat) (acc : List (Str × Addr)), (x, c) ∈ cellsFrom n names acc → (x, c) ∈ acc ∨ (x, NameKind.cell) ∈ names
  | [], _, _, h => .inl h
  | (y, k) :: r, n, acc, h => by
    unfold cellsFrom at h
    by_cases hk : (k == .cell) = true
    · rw [if_pos hk] at h
      rcases cellsFrom_kind r _ _ h with q | q
      · rcases List.mem_cons.mp q with q | q
        · cases q; rw [eq_of_beq hk]; exact .inr (.head _)
        · exact .inl q
      · exact .inr (.tail _ q)
    · rw [if_neg hk] at h
      rcases cellsFrom_kind r _ _ h with q | q
      · exact .inl q
      · exact .inr (.tail _ q)
theorem lookup_of_mem {cs : List (Str × Addr)} (hn : (cs.map (·.1)).Nodup) {n : Str} {c : Addr} (h : (n, c) ∈ cs) : cs.lookup n = some c := by
  induction cs with
  | nil => cases h
  | cons q r ih =>
    rw [List.map_cons, List.nodup_cons] at hn
    rcases List.mem_cons.mp h with rfl | h2
    · simp
    · have : (n == q.1) = false := by
        rw [beq_eq_false_iff_ne]
        exact fun e => hn.1 (e ▸ List.mem_map_of_mem (f := (·.1)) h2)
      obtain ⟨a, b⟩ := q
      rw [List.lookup_cons, this]; exact ih hn.2 h2

/-- the static looks at a def's scope, decided once -/
def scopeOk (sc : Scope) : Bool := sc.kind == .function && !sc.isCoroutine && !sc.isGenerator && decide ((cellsFrom 0 sc.names []).map (·.1)).Nodup && sc.names.all fun x => x.2 != .cell || sc.names.lookup x.1 == some .cell

structure Def (hr : Heap) (f : Addr) (fd : FuncData) (body : List Stmt) (sc : Scope) : Prop where
  obj : ∃ o, hr.get? f = some o ∧ o.data = .func fd
  code : hr.CodeRec fd.code fd.qualname
  body : fd.body = .stmts body
  scope : fd.scope = sc
  glob : fd.globals = mainGlobals
  blt : fd.builtins = builtinsNs
  clo : fd.closure = []
  ok : scopeOk sc = true

theorem enter {prog : Program} {w : World} {A : Around} {s : Shared} {hr : Heap} {mg mb : Vm} {f : Addr} {fd : FuncData} {body : List Stmt} {sc : Scope} {args : List Value} {binds : List (Str × Value)} {X : List Addr} {I Mu : Led} {Out : Value → Led → Led → Prop} {E : Value → Shared → Prop}
    (D : Def hr f fd body sc) (R : Rt hr mg mb) (hroom : A.depth < recursionLimit) (hh : A.handled = none) (hroot : ∀ b o, hr.get? b = some o → s.heap.get? b = some o) (hbind : BindsTo s fd ⟨args, []⟩ binds)
    (hk : (binds.all fun x => sc.names.lookup x.1 == some .local || sc.names.lookup x.1 == some .cell) = true)
    (hI : ∀ p ∈ I, s.heap.get? p.1 = some p.2) (hM : ∀ p ∈ Mu, s.heap.get? p.1 = some p.2) (hX : Mu.map (·.1) = X) (hnd : X.Nodup) (hIX : ∀ p ∈ I, p.1 ∉ X) (hrX : ∀ a ∈ X, hr.get? a = none)
    (h : ∀ C : Cx, C.prog = prog → C.w = w → C.hr = hr → C.A.depth = A.depth + 1 → C.A.units = A.units + 3 → C.A.handled = none → C.X = X → C.own = C.vars → Fe C sc →
      W C (bindM binds fun _ => none) I Mu (execs body C.env) fun fl m' I' Mu' => ∃ v, fl = .ret v ∧ Out v I' Mu') :
    wpAny (model prog w) A (call (.ref f) args) (fun v s' => ∃ h' tk' I' Mu', s' = { s with heap := h', toks := tk' } ∧ (∀ b o, b ∉ X → s.heap.get? b = some o → h'.get? b = some o) ∧ (∀ b ∈ X, ∃ o, h'.get? b = some o) ∧
      (∀ p ∈ I', h'.get? p.1 = some p.2 ∧ (p ∈ I ∨ s.heap.get? p.1 = none)) ∧ (∀ p ∈ Mu', h'.get? p.1 = some p.2) ∧ Out v I' Mu') E s := by
  obtain ⟨o, ho, hd⟩ := D.obj
  have hok := D.ok
  simp only [scopeOk, Bool.and_eq_true, Bool.not_eq_true', decide_eq_true_eq, List.all_eq_true] at hok
  obtain ⟨⟨⟨⟨hkd, hco⟩, hgen⟩, hnames⟩, hck⟩ := hok
  have hkind : sc.kind = .function := eq_of_beq hkd
  refine wpAny_call (codeAny_call_function hroom (hroot _ _ ho) hd (by rw [D.scope]; exact hco) (by rw [D.scope]; exact hgen) D.body (D.code.keeps hroot) ?_)
  refine hbind _ _ _ _ ?_
  rw [D.scope, D.glob, D.blt, D.clo]
  have hkinds : ∀ x ∈ binds, sc.names.lookup x.1 = some .local ∨ (sc.names.lookup x.1 = some .cell ∧ ((cellsFrom (s.heap.objs.size + 1) sc.names []).lookup x.1).isSome = true) := by
    intro x hx
    have := List.all_eq_true.mp hk x hx
    rcases Bool.or_eq_true_iff.mp this with q | q
    · exact .inl (eq_of_beq q)
    · exact .inr ⟨eq_of_beq q, cellsFrom_some _ _ _ (.inl (eq_of_beq q))⟩
  refine wpAny_newFunctionEnv_cells hkind hkinds fun env he s' x => ⟨(R.lim.keeps hroot).keeps x.toInCall.keep, codeAny_func ?_⟩
  obtain ⟨h₁, tk₁, rfl⟩ := x.toInCall.same
  have hesc : env.scope = sc := by rw [he]; rfl
  have hecl : env.cells = cellsFrom (s.heap.objs.size + 1) sc.names [] := by rw [he]; rfl
  have heL : env.locals = s.heap.objs.size := by rw [he]; rfl
  have ek : ∀ y, env.kindOf y = sc.names.lookup y := fun y => by show env.scope.names.lookup y = _; rw [hesc]
  have hcn : (env.cells.map (·.1)).Nodup := by rw [hecl, cellsFrom_names sc.names _ 0 [] [] rfl]; exact hnames
  have hckk : ∀ n c, (n, c) ∈ env.cells → sc.names.lookup n = some .cell := by
    intro n c hc
    rw [hecl] at hc
    rcases cellsFrom_kind _ _ _ hc with q | q
    · cases q
    · have := hck _ q
      simpa using this
  let C : Cx := { prog := prog, w := w, A := A.deeper env, env := env, hr := hr, h0 := s.heap, X := X, own := env.locals :: env.cells.map (·.2), I0 := I, s := s }
  have hab : ∀ n c, (n, c) ∈ env.cells → s.heap.objs.size < c := fun n c hc => by have := x.above n c hc; rw [heL] at this; exact this
  have hvnew : ∀ a ∈ C.vars, s.heap.objs.size ≤ a := by
    intro a ha
    rcases List.mem_cons.mp ha with rfl | ha
    · exact Nat.le_of_eq heL.symm
    · obtain ⟨⟨n, c⟩, hc, rfl⟩ := List.mem_map.mp ha
      exact Nat.le_of_lt (hab n c hc)
  have hlt : ∀ a o, s.heap.get? a = some o → a ∉ C.vars := fun a o e ha => absurd (Heap.lt_size e) (Nat.not_lt.mpr (hvnew a ha))
  have S : St C (bindM binds fun _ => none) I Mu h₁ := {
    ns := ⟨_, x.toInCall.ns, fun n hn => bindL_eq hn _ _ _ rfl⟩
    cell := fun n c hc => by
      have := x.cell n c (lookup_of_mem hcn hc)
      rw [bindC_eq (by rw [ek, hckk n c hc]; simp) binds (fun _ => none) (fun _ => none) rfl] at this
      exact this
    root := fun b o e => x.toInCall.keep b o (hroot b o e)
    keep := fun b o _ e => x.toInCall.keep b o e
    xin := fun b hb => by
      rw [show C.X = X from rfl, ← hX] at hb
      obtain ⟨p, hp, rfl⟩ := List.mem_map.mp hb
      exact ⟨_, x.toInCall.keep _ _ (hM p hp)⟩
    led := fun p hp => x.toInCall.keep _ _ (hI p hp)
    mu := fun p hp => x.toInCall.keep _ _ (hM p hp)
    dist := by
      rw [hX, List.nodup_append]
      refine ⟨List.nodup_cons.mpr ⟨fun hL => ?_, ?_⟩, hnd, fun a ha b hb e => ?_⟩
      · obtain ⟨⟨n, c⟩, hc, hcL⟩ := List.mem_map.mp hL
        have := x.above n c hc
        exact absurd (hcL ▸ this) (Nat.lt_irrefl _)
      · exact List.pairwise_map.mpr x.apart
      · rw [← hX] at hb
        obtain ⟨p, hp, rfl⟩ := List.mem_map.mp hb
        exact hlt _ _ (hM p hp) (e ▸ ha)
    ia := fun p hp hq => by
      rcases List.mem_append.mp hq with q | q
      · exact hlt _ _ (hI p hp) q
      · rw [hX] at q; exact hIX p hp q
    wr := fun a ha => by
      rcases List.mem_append.mp ha with q | q
      · have hn : s.heap.get? a = none := get_none_of_size (hvnew a q)
        refine ⟨?_, .inr hn⟩
        cases hq : hr.get? a with
        | none => rfl
        | some o' => rw [hroot a o' hq] at hn; cases hn
      · rw [hX] at q; exact ⟨hrX a q, .inl q⟩
    new := fun p hp => .inl hp
    cnd := hcn
    ck := fun n c hc => by show env.kindOf n ≠ _; rw [ek, hckk n c hc]; simp
    lown := .head _ }
  have Fe' : Fe C sc := ⟨hesc, hkind, by show env.globals = _; rw [he]; rfl, by show env.builtins = _; rw [he]; rfl, fun y hy => by
    have := cellsFrom_some (x := y) sc.names (s.heap.objs.size + 1) [] (.inl hy)
    rw [← hecl] at this
    exact Option.isSome_iff_exists.mp this⟩
  refine (h C rfl rfl rfl rfl rfl hh rfl rfl Fe').use S ?_
  rintro fl m' I' Mu' h' tk' S' ⟨v, rfl, hO⟩
  exact ⟨h', tk', I', Mu', rfl, S'.keep, S'.xin, fun p hp => ⟨S'.led p hp, S'.new p hp⟩, S'.mu, hO⟩

/-- a def that changes nothing of what stood -/
def FSpec (prog : Program) (w : World) (hr : Heap) (need : Nat) (f : Addr) (args : List Value) (I : Led) (Post : Value → Led → Prop) : Prop :=
  ∀ (A : Around) (s : Shared) (E : Value → Shared → Prop), A.handled = none → A.depth + need < recursionLimit → A.units + 8 * need + 100 < cLine → (∀ b o, hr.get? b = some o → s.heap.get? b = some o) → (∀ p ∈ I, s.heap.get? p.1 = some p.2) →
    wpAny (model prog w) A (call (.ref f) args) (fun v s' => ∃ h' tk' J, s' = { s with heap := h', toks := tk' } ∧ (∀ b o, s.heap.get? b = some o → h'.get? b = some o) ∧ (∀ p ∈ J, h'.get? p.1 = some p.2 ∧ (p ∈ I ∨ s.heap.get? p.1 = none)) ∧ Post v (J ++ I)) E s

def Mono (P : Led → Prop) : Prop := ∀ I J : Led, (∀ p ∈ I, p ∈ J) → P I → P J

theorem FSpec.intro {prog : Program} {w : World} {hr : Heap} {mg mb : Vm} {need : Nat} {f : Addr} {fd : FuncData} {body : List Stmt} {sc : Scope} {args : List Value} {binds : List (Str × Value)} {I : Led} {Post : Value → Led → Prop}
    (D : Def hr f fd body sc) (R : Rt hr mg mb) (hbind : ∀ s : Shared, (∀ b o, hr.get? b = some o → s.heap.get? b = some o) → BindsTo s fd ⟨args, []⟩ binds)
    {ns : List Str} (hns : binds.map (·.1) = ns) (hk : (ns.all fun x => sc.names.lookup x == some .local || sc.names.lookup x == some .cell) = true) (hmono : ∀ v, Mono (Post v))
    (h : ∀ C : Cx, C.prog = prog → C.w = w → C.hr = hr → C.A.depth + need < recursionLimit + 1 → C.A.units + 8 * need + 100 < cLine + 3 → C.A.handled = none → C.X = [] → C.own = C.vars → Fe C sc →
      W C (bindM binds fun _ => none) I [] (execs body C.env) fun fl m' I' Mu' => ∃ v, fl = .ret v ∧ Post v I') : FSpec prog w hr need f args I Post := by
  intro A s E hh hd hu hroot hI
  refine wpAny_mono (enter (X := []) (Mu := []) (Out := fun v I' _ => Post v I') D R (by omega) hh hroot (hbind s hroot) (by rw [← hns, List.all_map] at hk; exact hk) hI (fun _ hp => nomatch hp) rfl .nil (fun _ _ h => nomatch h) (fun _ h => nomatch h) fun C e1 e2 e3 e4 e5 e6 e7 e8 F => ?_) ?_ fun _ _ e => e
  · exact h C e1 e2 e3 (by omega) (by omega) e6 e7 e8 F
  · rintro v s' ⟨h', tk', I', Mu', e, k1, _, k2, _, hO⟩
    exact ⟨h', tk', I', e, fun b o => k1 b o (fun q => nomatch q), k2, hmono v I' _ (fun p hp => List.mem_append.mpr (.inl hp)) hO⟩

section
variable {C : Cx} {sc : Scope} {m : Vm} {I Mu : Led} {K : Value → Vm → Led → Led → Prop}
theorem W_call {f : Addr} {args : List Value} {need : Nat} {Post : Value → Led → Prop} (x : FSpec C.prog C.w C.hr need f args I Post) (hh : C.A.handled = none) (hd : C.A.depth + need < recursionLimit) (hu : C.A.units + 8 * need + 100 < cLine)
    (k : ∀ v J, Post v (J ++ I) → K v m (J ++ I) Mu) : W C m I Mu (call (.ref f) args) K := .mk fun E h tk S => by
  refine wpAny_mono (x C.A (C.st h tk) E hh hd hu S.root S.led) ?_ fun _ _ e => e
  rintro v s' ⟨h', tk', J, rfl, hk, hJ, hP⟩
  have S' := S.grow hk
  refine ⟨h', tk', m, J ++ I, Mu, rfl, S'.more fun p hp => ⟨(hJ p hp).1, ?_, ?_⟩, k v J hP⟩
  · rcases (hJ p hp).2 with q | q
    · exact S.ia p q
    · intro ha
      have hlt := S.all_lt _ ha
      rcases List.mem_append.mp ha with ha | ha
      · rcases List.mem_cons.mp ha with e | ha
        · obtain ⟨ml, hn, _⟩ := S.ns
          obtain ⟨oL, _, _, hg, _⟩ := hn
          rw [e] at q
          exact absurd hg (by rw [show h.get? C.env.locals = none from q]; simp)
        · obtain ⟨⟨n, c⟩, hc, e⟩ := List.mem_map.mp ha
          obtain ⟨oc, hg, _⟩ := S.cell n c hc
          rw [← e] at q
          exact absurd hg (by rw [show h.get? c = none from q]; simp)
      · obtain ⟨p', hp', e⟩ := List.mem_map.mp ha
        have := S.mu p' hp'
        rw [e] at this
        rw [show h.get? p.1 = none from q] at this
        cases this
  · rcases (hJ p hp).2 with q | q
    · exact S.new p q
    · cases hq : C.h0.get? p.1 with
      | none => exact .inr rfl
      | some o =>
        by_cases hx : p.1 ∈ C.X
        · obtain ⟨o', e⟩ := S.xin _ hx
          rw [show h.get? p.1 = none from q] at e; cases e
        · have := S.keep _ _ hx hq
          rw [show h.get? p.1 = none from q] at this; cases this
end
end
section
def stmtAt (i : Nat) : Stmt := (PySem.Challenge.pw_dm0127_12.main.body[i]?).getD (.Pass default)
def bodyOf : Stmt → List Stmt
  | .FunctionDef _ _ b _ _ _ _ _ _ _ => b
  | _ => []
def scopeOf : Stmt → Scope
  | .FunctionDef _ _ _ _ _ _ sc _ _ _ => sc
  | _ => PySem.Challenge.pw_dm0127_12.main.scope
def paramsOf : Stmt → Arguments
  | .FunctionDef _ a _ _ _ _ _ _ _ _ => a
  | _ => { posonlyargs := [], args := [], vararg := none, kwonlyargs := [], kw_defaults := [], kwarg := none, defaults := [] }

/-- the def of statement i, as it lies at f -/
def DefAt (hr : Heap) (i : Nat) (nm : Str) (f : Addr) (dV : Value) : Prop := ∃ kV doc pm an cdv ct, Def hr f (fnOf nm nm (paramsOf (stmtAt i)) (bodyOf (stmtAt i)) (scopeOf (stmtAt i)) dV kV doc pm an cdv ct) (bodyOf (stmtAt i)) (scopeOf (stmtAt i))

structure Gl (mg mb : Vm) (fParse fApply fBr fPair fCut fRead dOps dC2 : Addr) : Prop where
  parse : mg "_parse" = some (.ref fParse)
  apply : mg "_law_apply" = some (.ref fApply)
  br : mg "_law_bracketed" = some (.ref fBr)
  pair : mg "_law_pair" = some (.ref fPair)
  cut : mg "_law_cut" = some (.ref fCut)
  read : mg "_law_read" = some (.ref fRead)
  ops : mg "_binary_ops" = some (.ref dOps)
  c2 : mg "_c2py_ops" = some (.ref dC2)
  len : mg "len" = none ∧ mb "len" = some (.builtin "len")
  max : mg "max" = none ∧ mb "max" = some (.builtin "max")
  min : mg "min" = none ∧ mb "min" = some (.builtin "min")
  next : mg "next" = none ∧ mb "next" = some (.builtin "next")
  iter : mg "iter" = none ∧ mb "iter" = some (.builtin "iter")
  int : mg "int" = none ∧ mb "int" = some (.type "int")
  str : mg "str" = none ∧ mb "str" = some (.type "str")
  range : mg "range" = none ∧ mb "range" = some (.type "range")

section
variable {C : Cx} {sc : Scope} {m : Vm} {I Mu : Led} {K : Value → Vm → Led → Led → Prop} {KF : Flow → Vm → Led → Led → Prop} {KB : Bool → Vm → Led → Led → Prop} {KU : Unit → Vm → Led → Led → Prop} {KL : List Value → Vm → Led → Led → Prop}

abbrev kCallW (C : Cx) (pos : Pos) (args : List Expr) (K : Value → Vm → Led → Led → Prop) : Value → Vm → Led → Led → Prop := fun f m1 I1 Mu1 => W C m1 I1 Mu1 (callWith pos f [] (backTo pos (starEach args C.env)) []) K
abbrev kCall (C : Cx) (f : Value) (K : Value → Vm → Led → Led → Prop) : List Value → Vm → Led → Led → Prop := fun vs m1 I1 Mu1 => W C m1 I1 Mu1 (call f vs) K
theorem W_Call {func : Expr} {args : List Expr} {pos : Pos} (he : eval (.Call func args [] pos) C.env = (do callWith pos (← eval func C.env) [] (backTo pos (starEach args C.env)) (backToKw pos (keywordEach [] C.env))))
    (k : W C m I Mu (eval func C.env) (kCallW C pos args K)) : W C m I Mu (eval (.Call func args [] pos) C.env) K := .mk fun E h tk S =>
  PyProof.Rows.Call_ (k.use S fun _ _ _ _ h1 t1 S1 k1 => k1.out E h1 t1 S1) he
theorem W_withDef {pos : Pos} {f : Addr} {fd : FuncData} {body : List Stmt} {sc' : Scope} {e : Expr} {rest : List Expr} (D : Def C.hr f fd body sc') (he : starEach (e :: rest) C.env = (false, eval e C.env) :: starEach rest C.env)
    (k : W C m I Mu (spliced (backTo pos (starEach (e :: rest) C.env))) (kCall C (.ref f) K)) : W C m I Mu (callWith pos (.ref f) [] (backTo pos (starEach (e :: rest) C.env)) []) K := .mk fun E h tk S => by
  obtain ⟨o, ho, hd⟩ := D.obj
  exact PyProof.Rows.callWith_def hd (k.use S fun _ _ _ _ h1 t1 S1 k1 => ⟨S1.root _ _ ho, k1.out E h1 t1 S1⟩) he
theorem W_withDef' {pos : Pos} {f : Addr} {i : Nat} {nm : Str} {dV : Value} {e : Expr} {rest : List Expr} (D : DefAt C.hr i nm f dV) (he : starEach (e :: rest) C.env = (false, eval e C.env) :: starEach rest C.env)
    (k : W C m I Mu (spliced (backTo pos (starEach (e :: rest) C.env))) (kCall C (.ref f) K)) : W C m I Mu (callWith pos (.ref f) [] (backTo pos (starEach (e :: rest) C.env)) []) K := by
  obtain ⟨_, _, _, _, _, _, D⟩ := D
  exact W_withDef D he k
theorem W_withBuiltin {pos : Pos} {id : String} {e : Expr} {rest : List Expr} (he : starEach (e :: rest) C.env = (false, eval e C.env) :: starEach rest C.env) (hp : (backTo pos (starEach rest C.env)).any (·.1) = false)
    (k : W C m I Mu (spliced (backTo pos (starEach (e :: rest) C.env))) (kCall C (.builtin id) K)) : W C m I Mu (callWith pos (.builtin id) [] (backTo pos (starEach (e :: rest) C.env)) []) K := .mk fun E h tk S =>
  PyProof.Rows.callWith_builtin1 (k.use S fun _ _ _ _ h1 t1 S1 k1 => k1.out E h1 t1 S1) he hp
theorem W_withType {pos : Pos} {T : String} {e : Expr} {rest : List Expr} (he : starEach (e :: rest) C.env = (false, eval e C.env) :: starEach rest C.env) (hp : (backTo pos (starEach rest C.env)).any (·.1) = false)
    (k : W C m I Mu (spliced (backTo pos (starEach (e :: rest) C.env))) (kCall C (.type T) K)) : W C m I Mu (callWith pos (.type T) [] (backTo pos (starEach (e :: rest) C.env)) []) K := .mk fun E h tk S =>
  PyProof.Rows.callWith_type1 (k.use S fun _ _ _ _ h1 t1 S1 k1 => k1.out E h1 t1 S1) he hp

/- built-ins -/
theorem W_len {l : Addr} {vs : List Value} {n : Nat} (hl : Has I Mu l (lstO vs n)) (hf : (vs.length : Int) < 2 ^ 63) (k : ∀ t, K (.int vs.length t) m I Mu) : W C m I Mu (call (.builtin "len") [.ref l]) K := .mk fun E h tk S =>
  call_len_list (IsL.isList (S.has hl)) (by simpa using hf) (by simpa using back S (k _))
theorem W_max {a b : Int} {t u : Tok} (hh : C.A.handled = none) (k : ∀ t, K (.int (max a b) t) m I Mu) : W C m I Mu (call (.builtin "max") [.int a t, .int b u]) K := .mk fun E h tk S =>
  max_two_ints hh fun h' tk' hk => by
    have S' := S.grow hk
    by_cases q : b > a
    · rw [if_pos q, show Value.int b u = .int (max a b) u by rw [Int.max_eq_right (by omega)]]; exact back S' (k u)
    · rw [if_neg q, show Value.int a t = .int (max a b) t by rw [Int.max_eq_left (by omega)]]; exact back S' (k t)
theorem W_min {a b : Int} {t u : Tok} (hh : C.A.handled = none) (k : ∀ t, K (.int (min a b) t) m I Mu) : W C m I Mu (call (.builtin "min") [.int a t, .int b u]) K := .mk fun E h tk S =>
  min_two_ints hh fun h' tk' hk => by
    have S' := S.grow hk
    by_cases q : b < a
    · rw [if_pos q, show Value.int b u = .int (min a b) u by rw [Int.min_eq_right (by omega)]]; exact back S' (k u)
    · rw [if_neg q, show Value.int a t = .int (min a b) t by rw [Int.min_eq_left (by omega)]]; exact back S' (k t)
theorem W_intb {b : Bool} (k : ∀ t, K (.int (if b then 1 else 0) t) m I Mu) : W C m I Mu (call (.type "int") [.bool b]) K := .mk fun E h tk S => call_int_bool (back S (k _))
end
end
section
/-- the objects of Ma are changed, new ones are made, all else stands -/
theorem St.change {C : Cx} {m : Vm} {I Ma Ma' Mu : Led} {h h' : Heap} (S : St C m I (Ma ++ Mu) h) (hk : ∀ b o, b ∉ Ma.map (·.1) → h.get? b = some o → h'.get? b = some o)
    (hsub : (Ma'.map (·.1)).Sublist (Ma.map (·.1))) (hx : ∀ b ∈ C.X, b ∈ Ma.map (·.1) → b ∈ Ma'.map (·.1)) (hg : ∀ p ∈ Ma', h'.get? p.1 = some p.2) : St C m I (Ma' ++ Mu) h' := by
  have dd := S.dist
  rw [List.map_append] at dd
  have d := List.nodup_append.mp dd
  have hv : ∀ b ∈ C.vars, b ∉ Ma.map (·.1) := fun b hb q => d.2.2 b hb b (List.mem_append.mpr (.inl q)) rfl
  have hsubM : ∀ a, a ∈ (Ma' ++ Mu).map (·.1) → a ∈ (Ma ++ Mu).map (·.1) := fun a ha => by
    rw [List.map_append] at ha ⊢
    exact (List.mem_append.mp ha).elim (fun q => List.mem_append.mpr (.inl (hsub.subset q))) fun q => List.mem_append.mpr (.inr q)
  have hw : ∀ a ∈ Ma.map (·.1), C.hr.get? a = none ∧ (a ∈ C.X ∨ C.h0.get? a = none) := fun a ha => S.wr a (List.mem_append.mpr (.inr (by rw [List.map_append]; exact List.mem_append.mpr (.inl ha))))
  refine ⟨?_, fun n c hc => ?_, fun b o e => ?_, fun b o hb e => ?_, fun b hb => ?_, fun p hp => ?_, fun p hp => ?_, ?_, fun p hp hq => ?_, fun a ha => ?_, S.new, S.cnd, S.ck, S.lown⟩
  · obtain ⟨ml, ⟨oL, es, ep, hL, r⟩, e⟩ := S.ns
    exact ⟨ml, ⟨oL, es, ep, hk _ _ (hv _ (.head _)) hL, r⟩, e⟩
  · obtain ⟨oc, e, hd⟩ := S.cell n c hc
    exact ⟨oc, hk c oc (hv c (.tail _ (List.mem_map_of_mem (f := (·.2)) hc))) e, hd⟩
  · exact hk b o (fun q => by rw [(hw b q).1] at e; cases e) (S.root b o e)
  · exact hk b o (fun q => by
      rcases (hw b q).2 with q' | q'
      · exact hb q'
      · rw [q'] at e; cases e) (S.keep b o hb e)
  · by_cases q : b ∈ Ma.map (·.1)
    · obtain ⟨p, hp, rfl⟩ := List.mem_map.mp (hx b hb q)
      exact ⟨_, hg p hp⟩
    · obtain ⟨o', e⟩ := S.xin b hb
      exact ⟨o', hk b o' q e⟩
  · exact hk _ _ (fun q => S.ia p hp (List.mem_append.mpr (.inr (by rw [List.map_append]; exact List.mem_append.mpr (.inl q))))) (S.led p hp)
  · rcases List.mem_append.mp hp with q | q
    · exact hg p q
    · refine hk _ _ (fun q' => ?_) (S.mu p (List.mem_append.mpr (.inr q)))
      exact (List.nodup_append.mp d.2.1).2.2 p.1 q' p.1 (List.mem_map_of_mem (f := (·.1)) q) rfl
  · rw [List.map_append]
    exact dd.sublist (List.Sublist.append_left (List.Sublist.append_right hsub _) _)
  · exact S.ia p hp ((List.mem_append.mp hq).elim (fun q => List.mem_append.mpr (.inl q)) fun q => List.mem_append.mpr (.inr (hsubM _ q)))
  · exact S.wr a ((List.mem_append.mp ha).elim (fun q => List.mem_append.mpr (.inl q)) fun q => List.mem_append.mpr (.inr (hsubM _ q)))

/-- an address without an object is no variable's, no ledger's -/
theorem St.fresh_of {C : Cx} {m : Vm} {I Mu : Led} {h : Heap} {a : Addr} (S : St C m I Mu h) (q : h.get? a = none) : a ∉ C.vars ++ Mu.map (·.1) ∧ C.h0.get? a = none := by
  refine ⟨fun ha => ?_, ?_⟩
  · rcases List.mem_append.mp ha with ha | ha
    · rcases List.mem_cons.mp ha with e | ha
      · obtain ⟨ml, hn, _⟩ := S.ns
        obtain ⟨oL, _, _, hg, _⟩ := hn
        rw [← e, q] at hg; cases hg
      · obtain ⟨⟨n, c⟩, hc, e⟩ := List.mem_map.mp ha
        obtain ⟨oc, hg, _⟩ := S.cell n c hc
        simp only at e
        rw [e, q] at hg; cases hg
    · obtain ⟨p', hp', e⟩ := List.mem_map.mp ha
      have := S.mu p' hp'
      rw [e, q] at this; cases this
  · cases hq : C.h0.get? a with
    | none => rfl
    | some o =>
      by_cases hx : a ∈ C.X
      · obtain ⟨o', e⟩ := S.xin _ hx
        rw [q] at e; cases e
      · have := S.keep _ _ hx hq
        rw [q] at this; cases this

def clOf (scope : Scope) (env : Env) : List (Str × Addr) := (scope.names.filterMap fun x => if x.2 == .free then (env.cells.lookup x.1).map fun c => (x.1, c) else none).reverse
theorem closureFor_eq {scope : Scope} {env : Env} (h : ∀ n, (n, NameKind.free) ∈ scope.names → ∃ c, env.cells.lookup n = some c) : closureFor scope env = pure (clOf scope env) := by
  unfold closureFor clOf
  have gen : ∀ (l : List (Str × NameKind)) (acc : List (Str × Addr)), (∀ n, (n, NameKind.free) ∈ l → ∃ c, env.cells.lookup n = some c) →
      (forIn l acc fun x cs => (if x.2 == NameKind.free then do let c ← cellOf env x.1; pure (ForInStep.yield ((x.1, c) :: cs)) else pure (ForInStep.yield cs) : Sem (ForInStep (List (Str × Addr))))) =
        pure ((l.filterMap fun x => if x.2 == .free then (env.cells.lookup x.1).map fun c => (x.1, c) else none).reverse ++ acc) := by
    intro l
    induction l with
    | nil => intro acc _; rfl
    | cons q r ih =>
      intro acc hl
      obtain ⟨n, k⟩ := q
      rw [List.forIn_cons]
      by_cases hk : (k == NameKind.free) = true
      · obtain ⟨c, hc⟩ := hl n (by rw [eq_of_beq hk]; exact .head _)
        have e : cellOf env n = pure c := by unfold cellOf; rw [hc]
        simp only [hk, if_true, e, hc, Option.map_some, List.filterMap_cons]
        show (forIn r ((n, c) :: acc) _ : Sem _) = _
        rw [ih _ fun n' hn' => hl n' (.tail _ hn')]
        simp
      · simp only [hk, List.filterMap_cons]
        show (forIn r acc _ : Sem _) = _
        rw [ih _ fun n' hn' => hl n' (.tail _ hn')]
        simp
  have := gen scope.names [] h
  simp only [List.append_nil] at this
  exact congrArg (fun t => Sem.bind t Sem.pure) this
theorem mem_clOf {scope : Scope} {env : Env} {n : Str} {c : Addr} : (n, c) ∈ clOf scope env ↔ (n, NameKind.free) ∈ scope.names ∧ env.cells.lookup n = some c := by
  unfold clOf
  rw [List.mem_reverse, List.mem_filterMap]
  constructor
  · rintro ⟨⟨n', k⟩, hm, e⟩
    by_cases hk : (k == NameKind.free) = true
    · simp only [hk, if_true] at e
      cases hl : env.cells.lookup n' with
      | none => rw [hl] at e; cases e
      | some c' => rw [hl] at e; simp only [Option.map_some, Option.some.injEq, Prod.mk.injEq] at e; obtain ⟨rfl, rfl⟩ := e; exact ⟨eq_of_beq hk ▸ hm, hl⟩
    · simp [hk] at e
  · rintro ⟨hm, hl⟩
    exact ⟨(n, .free), hm, by simp [hl]⟩
theorem clOf_names {scope : Scope} {env : Env} (hn : (scope.names.map (·.1)).Nodup) : ((clOf scope env).map (·.1)).Nodup := by
  unfold clOf
  rw [List.map_reverse]
  refine List.pairwise_reverse.mpr (List.Pairwise.imp (fun h e => h e.symm) (List.Nodup.sublist ?_ hn))
  induction scope.names with
  | nil => exact .slnil
  | cons q r ih =>
    rw [List.filterMap_cons]
    split
    · exact List.Sublist.cons _ ih
    · rename_i x hx
      obtain ⟨n, k⟩ := q
      by_cases hk : (k == NameKind.free) = true
      · simp only [hk, if_true] at hx
        cases hl : env.cells.lookup n with
        | none => rw [hl] at hx; cases hx
        | some c => rw [hl] at hx; simp only [Option.map_some, Option.some.injEq] at hx; subst hx; exact ih.cons_cons _
      · simp [hk] at hx

def relab (scope sc : Scope) : Scope := { scope with names := scope.names.map fun x => if x.2 == .free && sc.names.lookup x.1 == some .cell then (x.1, .cell) else (x.1, x.2) }
def compOk (scope sc : Scope) (x : Str) (cap : List Str) : Bool :=
  scope.kind == .function && (scope.names.all fun y => (y.2 == .local && scope.names.lookup y.1 == some .local) || (y.2 == .free && sc.names.lookup y.1 == some .cell && cap.contains y.1) || y.2 == .globalImplicit) &&
  scope.names.lookup x == some .local && decide (scope.names.map (·.1)).Nodup && cap.all fun n => scope.names.lookup n == some .free
def capt (cap : List Str) (m : Vm) : Vm := fun y => if cap.contains y then m y else none

theorem lookup_relab {c : Str → NameKind → Bool} : ∀ (l : List (Str × NameKind)) (y : Str), (l.map fun x => if c x.1 x.2 then (x.1, NameKind.cell) else (x.1, x.2)).lookup y = (l.lookup y).map fun k => if c y k then .cell else k
  | [], _ => rfl
  | (n, k) :: r, y => by
    have ih := lookup_relab (c := c) r y
    rw [List.map_cons]
    by_cases hy : (y == n) = true
    · have e := eq_of_beq hy
      subst e
      by_cases hc : c y k = true <;> simp [hc]
    · have hy' : (y == n) = false := by simpa using hy
      by_cases hc : c n k = true <;> simp only [hc, if_true, if_false, List.lookup_cons, hy', ih, Bool.false_eq_true]
theorem relabel_eq {C : Cx} {sc scope : Scope} (F : Fe C sc) : relabel scope C.env = relab scope sc := by
  unfold relabel relab
  congr 1
  apply List.map_congr_left
  rintro ⟨n, k⟩ _
  have h1 : C.env.scope.kind = .function := by rw [F.scope]; exact F.kind
  have h2 : C.env.kindOf n = sc.names.lookup n := by show C.env.scope.names.lookup n = _; rw [F.scope]
  simp [h1, h2]

section
variable {C : Cx} {sc : Scope} {m : Vm} {I Mu : Led} {K : Value → Vm → Led → Led → Prop} {KF : Flow → Vm → Led → Led → Prop}

/-- the frame of a comprehension, made -/
theorem comp_st {scope : Scope} {x : Str} {cap : List Str} {h : Heap} {Cad acc it : Addr} {oC oA oI : Obj} (F : Fe C sc) (hok : compOk scope sc x cap = true) (S : St C m I ((Cad, oC) :: (acc, oA) :: (it, oI) :: Mu) h) (hN : h.Ns Cad fun _ => none) :
    let C2 : Cx := { prog := C.prog, w := C.w, A := C.A, env := compEnvC scope (clOf scope C.env) Cad C.env, hr := C.hr, h0 := hideAll h [Cad, acc, it], X := [], own := [Cad], I0 := I, s := C.s }
    St C2 (capt cap m) I [(it, oI), (acc, oA)] h ∧ Fe C2 (relab scope sc) := by
  intro C2
  simp only [compOk, Bool.and_eq_true, List.all_eq_true, decide_eq_true_eq] at hok
  obtain ⟨⟨⟨⟨hk, hall⟩, hx⟩, hnd⟩, hcap⟩ := hok
  have hsc2 : C2.env.scope = relab scope sc := relabel_eq F
  have ek : ∀ y, C2.env.kindOf y = (scope.names.lookup y).map fun k => if (k == .free && sc.names.lookup y == some .cell) then .cell else k := fun y => by
    show C2.env.scope.names.lookup y = _
    rw [hsc2]
    exact lookup_relab (c := fun n k => k == .free && sc.names.lookup n == some .cell) scope.names y
  have hfree : ∀ n c, (n, c) ∈ clOf scope C.env → sc.names.lookup n = some .cell ∧ n ∈ cap ∧ (n, c) ∈ C.env.cells := by
    intro n c hc
    obtain ⟨h1, h2⟩ := mem_clOf.mp hc
    have := hall _ h1
    simp at this
    exact ⟨this.1, this.2, mem_of_lookup h2⟩
  have hcn := clOf_names (scope := scope) (env := C.env) hnd
  have dd := S.dist
  have d := List.nodup_append.mp dd
  have d1 := List.nodup_cons.mp d.1
  simp only [List.map_cons] at d
  have dm := List.nodup_cons.mp d.2.1
  have dm2 := List.nodup_cons.mp dm.2
  have dm3 := List.nodup_cons.mp dm2.2
  have hclv : ∀ a ∈ (clOf scope C.env).map (·.2), a ∈ C.vars := fun a ha => by
    obtain ⟨⟨n, c⟩, hc, rfl⟩ := List.mem_map.mp ha
    exact .tail _ (List.mem_map_of_mem (f := (·.2)) (hfree n c hc).2.2)
  have hnv : ∀ b ∈ ([Cad, acc, it] : List Addr), b ∉ (clOf scope C.env).map (·.2) := fun b hb ha => by
    refine d.2.2 b (hclv b ha) b ?_ rfl
    simp only [List.mem_cons, List.not_mem_nil, or_false] at hb ⊢
    rcases hb with rfl | rfl | rfl <;> simp
  have hap : C.env.cells.Pairwise fun x y => x.2 ≠ y.2 := List.pairwise_map.mp d1.2
  have hclnd : ((clOf scope C.env).map (·.2)).Nodup := by
    have hp : (clOf scope C.env).Pairwise fun x y => x.1 ≠ y.1 := List.pairwise_map.mp hcn
    refine List.pairwise_map.mpr (List.Pairwise.imp_of_mem ?_ hp)
    rintro ⟨n, c⟩ ⟨n', c'⟩ h1 h2 hne e
    simp only at e
    subst e
    exact hne (name_of_addr hap (hfree _ _ h1).2.2 (hfree _ _ h2).2.2)
  refine ⟨{ ns := ⟨_, hN, fun n hn => ?_⟩, cell := fun n c hc => ?_, root := S.root, keep := fun b o _ e => of_hideAll _ e, xin := fun b hb => (nomatch hb), led := S.led, mu := fun p hp => ?_, dist := ?_, ia := fun p hp hq => ?_, wr := fun a ha => ?_, new := fun p hp => .inl hp, cnd := hcn, ck := fun n c hc => ?_, lown := .head _ }, ⟨hsc2, ?_, ?_, ?_, ?_⟩⟩
  · rw [ek] at hn
    unfold capt
    split
    · rename_i hc
      have := hcap n (List.contains_iff_mem.mp hc)
      rw [eq_of_beq this] at hn
      simp only [Option.map_some, Option.some.injEq] at hn
      split at hn <;> cases hn
    · rfl
  · have := hfree n c hc
    unfold capt
    rw [if_pos (List.contains_iff_mem.mpr this.2.1)]
    exact S.cell n c this.2.2
  · simp only [List.mem_cons, List.not_mem_nil, or_false] at hp
    rcases hp with rfl | rfl
    · exact S.mu _ (.tail _ (.tail _ (.head _)))
    · exact S.mu _ (.tail _ (.head _))
  · show (Cad :: (clOf scope C.env).map (·.2) ++ [it, acc]).Nodup
    rw [List.cons_append, List.nodup_cons, List.nodup_append]
    refine ⟨fun q => ?_, hclnd, List.nodup_cons.mpr ⟨fun q => ?_, List.nodup_cons.mpr ⟨fun q => (nomatch q), .nil⟩⟩, fun a ha b hb e => ?_⟩
    · rcases List.mem_append.mp q with q | q
      · exact hnv Cad (.head _) q
      · simp only [List.mem_cons, List.not_mem_nil, or_false] at q
        exact dm.1 (by rcases q with e | e <;> simp [e])
    · simp only [List.mem_cons, List.not_mem_nil, or_false] at q
      exact dm2.1 (by simp [q])
    · subst e
      exact hnv a (by simp only [List.mem_cons, List.not_mem_nil, or_false] at hb ⊢; exact .inr hb.symm) ha
  · refine S.ia p hp ?_
    rcases List.mem_append.mp hq with q | q
    · rcases List.mem_cons.mp q with q | q
      · rw [show p.1 = Cad from q]; exact List.mem_append.mpr (.inr (.head _))
      · exact List.mem_append.mpr (.inl (hclv _ q))
    · refine List.mem_append.mpr (.inr ?_)
      simp only [List.map_cons, List.map_nil, List.mem_cons, List.not_mem_nil, or_false] at q ⊢
      rcases q with e | e <;> simp [e]
  · have : a ∈ ([Cad, acc, it] : List Addr) := by
      have : a ∈ ([Cad, it, acc] : List Addr) := by simpa [C2] using ha
      simp only [List.mem_cons, List.not_mem_nil, or_false] at this ⊢
      rcases this with e | e | e <;> simp [e]
    refine ⟨(S.wr a (List.mem_append.mpr (.inr ?_))).1, .inr (hideAll_none _ this)⟩
    simp only [List.mem_cons, List.not_mem_nil, or_false] at this
    rcases this with rfl | rfl | rfl <;> simp
  · rw [ek]
    obtain ⟨h1, h2⟩ := mem_clOf.mp hc
    have h3 := hcap n (hfree n c hc).2.1
    rw [eq_of_beq h3, (hfree n c hc).1]
    simp
  · exact eq_of_beq hk
  · exact F.glob
  · exact F.blt
  · intro y hy
    have e := ek y
    rw [show C2.env.kindOf y = (relab scope sc).names.lookup y from by show C2.env.scope.names.lookup y = _; rw [hsc2], hy] at e
    cases hl : scope.names.lookup y with
    | none => rw [hl] at e; cases e
    | some k =>
      rw [hl] at e
      simp only [Option.map_some, Option.some.injEq] at e
      have hm : (y, k) ∈ scope.names := mem_of_lookup hl
      split at e
      · rename_i hc
        simp only [Bool.and_eq_true] at hc
        obtain ⟨c, hc'⟩ := F.cells y (eq_of_beq hc.2)
        refine ⟨c, lookup_of_mem hcn (mem_clOf.mpr ⟨eq_of_beq hc.1 ▸ hm, hc'⟩)⟩
      · subst e
        have := hall _ hm
        simp at this

theorem W_append {l : Addr} {vs : List Value} {n : Nat} {v : Value} {Mu' : Led} (U : Up1 l (lstO vs n) (lstO (vs ++ [v]) (n + 1)) Mu Mu') (hsz : vs.length ≤ sizeLine) (k : K .none m I Mu') : W C m I Mu (call (.builtin "list.append") [.ref l, v]) K := .mk fun E h tk S => by
  have hl : IsL (C.st h tk).heap l vs.toArray n := S.mu _ U.mem
  refine call_meets F.slot_list_append ⟨_, hl, rfl⟩ F.entry_list_append (F.args_list_append_2 _ _) (list_append l vs.toArray n v (by simpa using hsz)) ⟨hl, ?_⟩
  refine back (S.mu_of_upd U (Heap.SameBut.update h l _).2 (Heap.SameBut.update h l _).1 ?_) k
  have := hl.update (fun x => x.push v)
  simp only [List.size_toArray, List.push_toArray] at this
  rw [if_neg (by simp)] at this
  exact this

abbrev testsT (ifs : List Expr) (env : Env) : Sem Bool := forIn ifs true fun c r => if r = true then do let ok ← isTrue c env (eval c env); pure (ForInStep.yield ok) else pure (ForInStep.yield r)
theorem W_tests_nil {KB : Bool → Vm → Led → Led → Prop} (k : KB true m I Mu) : W C m I Mu (testsT [] C.env) KB := .mk fun E h tk S => wpAny_tests_nil (back S k)
theorem W_tests_one {KB : Bool → Vm → Led → Led → Prop} {c : Expr} (k : W C m I Mu (isTrue c C.env (eval c C.env)) KB) : W C m I Mu (testsT [c] C.env) KB := .mk fun E h tk S => wpAny_tests_one (k.out E h tk S)

def CompTurn (C : Cx) (sc scope : Scope) (x : Str) (cap : List Str) (m : Vm) (I : Led) (src : Src I) (ifs : List Expr) (elt : Expr) (Inv : Nat → List Value → Led → Prop) : Prop :=
  ∀ (C2 : Cx), C2.prog = C.prog → C2.w = C.w → C2.hr = C.hr → C2.A = C.A → Fe C2 (relab scope sc) → ∀ i v ys I' Mu', i < src.n → (∀ p ∈ I, p ∈ I') → src.P i v → Inv i ys I' →
    W C2 (fun y => if y = x then some v else capt cap m y) I' Mu' (testsT ifs C2.env) fun ok m1 I1 Mu1 => if ok then
      W C2 m1 I1 Mu1 (eval elt C2.env) fun y m2 I2 Mu2 => m2 = (fun y => if y = x then some v else capt cap m y) ∧ Mu2 = Mu' ∧ (∀ p ∈ I, p ∈ I2) ∧ Inv (i + 1) (ys ++ [y]) I2
      else m1 = (fun y => if y = x then some v else capt cap m y) ∧ Mu1 = Mu' ∧ (∀ p ∈ I, p ∈ I1) ∧ Inv (i + 1) ys I1

theorem comp_loop {scope : Scope} {x : Str} {px pos : Pos} {cap : List Str} {iter elt : Expr} {ifs : List Expr} {h : Heap} {tk : Nat} {Cad acc it : Addr} {oC oI : Obj} {R : Result → Shared → Prop} (F : Fe C sc) (hh : C.A.handled = none) (hCX : C.X = []) (hok : compOk scope sc x cap = true)
    (S : St C m I ((Cad, oC) :: (acc, lstO [] 0) :: (it, oI) :: Mu) h) (hN : h.Ns Cad fun _ => none) (src : Src I) (ho : src.ob 0 oI) (hsz : src.n ≤ sizeLine)
    (Inv : Nat → List Value → Led → Prop) (h0 : Inv 0 [] I) (hmono : ∀ ys, Mono (Inv src.n ys)) (turn : CompTurn C sc scope x cap m I src ifs elt Inv)
    (done : ∀ h' tk' ys n J oC' mc, St C m (J ++ I) ((Cad, oC') :: (acc, lstO ys n) :: Mu) h' → h'.Ns Cad mc → Inv src.n ys (J ++ I) → R (.ok .next) (C.st h' tk')) :
    codeAny C.M C.A (.compStart (.ListComp elt [⟨.Name x px, iter, ifs, 0⟩] scope pos) 0 (.ref it) (.ref acc) (compEnvC scope (clOf scope C.env) Cad C.env)) R (C.st h tk) := by
  obtain ⟨S2, F2⟩ := comp_st F hok S hN
  revert S2 F2
  generalize hC2 : ({ prog := C.prog, w := C.w, A := C.A, env := compEnvC scope (clOf scope C.env) Cad C.env, hr := C.hr, h0 := hideAll h [Cad, acc, it], X := [], own := [Cad], I0 := I, s := C.s } : Cx) = C2
  intro S2 F2
  have e1 : C2.prog = C.prog := by rw [← hC2]
  have e2 : C2.w = C.w := by rw [← hC2]
  have e3 : C2.hr = C.hr := by rw [← hC2]
  have e4 : C2.A = C.A := by rw [← hC2]
  have e5 : C2.env = compEnvC scope (clOf scope C.env) Cad C.env := by rw [← hC2]
  have e6 : C2.X = [] := by rw [← hC2]
  have e7 : C2.h0 = hideAll h [Cad, acc, it] := by rw [← hC2]
  have e8 : C2.I0 = I := by rw [← hC2]
  have est : ∀ h tk, C2.st h tk = C.st h tk := fun h tk => by rw [← hC2]
  have eM : C2.M = C.M := by rw [← hC2]
  have eL : C2.env.locals = Cad := by rw [e5]; rfl
  have hxl : ((relab scope sc).names.lookup x == some .local) = true := by
    have hok' := hok
    simp only [compOk, Bool.and_eq_true] at hok'
    have hx := eq_of_beq hok'.1.1.2
    have : (relab scope sc).names.lookup x = _ := lookup_relab (c := fun n k => k == .free && sc.names.lookup n == some .cell) scope.names x
    rw [this, hx]; rfl
  -- the loop itself
  have loop : ∀ h1 t1, St C2 (capt cap m) I [(it, oI), (acc, lstO [] 0)] h1 → codeAny C2.M C2.A (.compLoop (.ListComp elt [⟨.Name x px, iter, ifs, 0⟩] scope pos) 0 (.ref it) (.ref acc) C2.env) R (C2.st h1 t1) := by
    intro h1 t1 S1
    refine codeAny_compLoop_tests (fun k s => ∃ i h tk m' I' ys n o', k = src.n - i ∧ i ≤ src.n ∧ s = C2.st h tk ∧ St C2 m' I' [(it, o'), (acc, lstO ys n)] h ∧ src.ob i o' ∧ (∀ p ∈ I, p ∈ I') ∧ (∀ y, y ≠ x → m' y = capt cap m y) ∧ ys.length ≤ i ∧ Inv i ys I') ?_ src.n
      ⟨0, h1, t1, _, I, [], 0, oI, rfl, Nat.zero_le _, rfl, S1, ho, fun _ hp => hp, fun _ _ => rfl, Nat.le_refl _, h0⟩
    rintro k s ⟨i, h', tk', m', I', ys, n, o', rfl, hi, rfl, S', ho', hI, hm', hyl, hInv⟩
    by_cases hlt : i < src.n
    · refine (src.item (C := C2) (K := fun r m2 I2 Mu2 => ∃ v o2, r = some v ∧ src.P i v ∧ src.ob (i + 1) o2 ∧ m2 = m' ∧ I2 = I' ∧ Mu2 = [(it, o2), (acc, lstO ys n)]) hI hlt ho' fun v o2 hP h2 => ⟨v, o2, rfl, hP, h2, rfl, rfl, rfl⟩).use S' ?_
      rintro r m2 I2 Mu2 h2 t2 S2' ⟨v, o2, rfl, hP, hob, rfl, rfl, rfl⟩
      refine wpAny_assign_Name ?_
      have st : W C2 m2 I2 [(it, o2), (acc, lstO ys n)] (storeName C2.env x v) fun _ m3 I3 Mu3 => m3 = (fun y => if y = x then some v else capt cap m y) ∧ I3 = I2 ∧ Mu3 = [(it, o2), (acc, lstO ys n)] := by
        refine W_store F2 hxl ⟨?_, rfl, rfl⟩
        funext y
        by_cases q : y = x
        · simp [q]
        · simp [q, hm' y q]
      refine st.use S2' ?_
      rintro _ m3 I3 Mu3 h3 t3 S3 ⟨rfl, rfl, rfl⟩
      refine (turn C2 e1 e2 e3 e4 F2 i v ys I3 _ hlt hI hP hInv).use S3 ?_
      intro ok m4 I4 Mu4 h4 t4 S4 k4
      cases ok with
      | true =>
        simp only [if_true] at k4 ⊢
        refine k4.use S4 ?_
        rintro y m5 I5 Mu5 h5 t5 S5 ⟨rfl, rfl, hI5, hInv5⟩
        refine (W_append (C := C2) (K := fun _ m6 I6 Mu6 => m6 = (fun y => if y = x then some v else capt cap m y) ∧ I6 = I5 ∧ Mu6 = [(it, o2), (acc, lstO (ys ++ [y]) (n + 1))]) (.tail .head) (by omega) ⟨rfl, rfl, rfl⟩).use S5 ?_
        rintro _ m6 I6 Mu6 h6 t6 S6 ⟨rfl, rfl, rfl⟩
        exact ⟨src.n - (i + 1), by omega, i + 1, h6, t6, _, I6, ys ++ [y], n + 1, o2, rfl, hlt, rfl, S6, hob, hI5, fun y hy => by simp [hy], by simp; omega, hInv5⟩
      | false =>
        simp only [Bool.false_eq_true, if_false] at k4 ⊢
        obtain ⟨rfl, rfl, hI4, hInv4⟩ := k4
        exact ⟨src.n - (i + 1), by omega, i + 1, h4, t4, _, I4, ys, n, o2, rfl, hlt, rfl, S4, hob, hI4, fun y hy => by simp [hy], by omega, hInv4⟩
    · have e : i = src.n := by omega
      subst e
      refine (src.stop (C := C2) (K := fun r m2 I2 Mu2 => r = none ∧ m2 = m' ∧ I2 = I' ∧ Mu2 = [(acc, lstO ys n)]) hI (by rw [e4]; exact hh) (by rw [e6]; exact fun q => nomatch q) ho' ⟨rfl, rfl, rfl, rfl⟩).use S' ?_
      rintro r m2 I2 Mu2 h2 t2 S2' ⟨rfl, rfl, rfl, rfl⟩
      obtain ⟨mc, hmc, _⟩ := S2'.ns
      rw [eL] at hmc
      obtain ⟨oC', es, ep, hgC, hrest⟩ := id hmc
      have hS : St C m I ([(Cad, oC'), (acc, lstO ys n)] ++ Mu) h2 := by
        refine St.change (Ma := [(Cad, oC), (acc, lstO [] 0), (it, oI)]) (C := C) (h := h) S (fun b o hb e => ?_) (List.Sublist.cons_cons _ (List.Sublist.cons_cons _ (List.nil_sublist _))) (fun b hb hb' => ?_) (fun p hp => ?_)
        · refine S2'.keep b o (by rw [e6]; exact fun q => nomatch q) ?_
          rw [e7]
          exact hideAll_get _ e hb
        · rw [hCX] at hb; cases hb
        · simp only [List.mem_cons, List.not_mem_nil, or_false] at hp
          rcases hp with rfl | rfl
          · exact hgC
          · exact S2'.mu _ (.head _)
      rw [est]
      refine done h2 t2 ys n I2 oC' mc ?_ hmc (hmono ys I2 _ (fun p hp => List.mem_append.mpr (.inl hp)) hInv)
      refine hS.more fun p hp => ⟨S2'.led p hp, ?_⟩
      have hp' := S'.new p hp
      rw [e7, e8] at hp'
      rcases hp' with q | q
      · refine ⟨hS.ia p q, hS.new p q⟩
      · have hne : p.1 ∉ ([Cad, acc, it] : List Addr) := fun hm => S'.ia p hp (by
          simp only [List.mem_cons, List.not_mem_nil, or_false] at hm
          rcases hm with e | e | e
          · rw [e]; exact List.mem_append.mpr (.inl (by rw [Cx.vars, eL]; exact .head _))
          · rw [e]; exact List.mem_append.mpr (.inr (.tail _ (.head _)))
          · rw [e]; exact List.mem_append.mpr (.inr (.head _)))
        have hnone : h.get? p.1 = none := by
          cases hq : h.get? p.1 with
          | none => rfl
          | some o => rw [hideAll_get _ hq hne] at q; cases q
        have hf := S.fresh_of hnone
        refine ⟨fun ha => hf.1 ?_, .inr hf.2⟩
        rcases List.mem_append.mp ha with ha | ha
        · exact List.mem_append.mpr (.inl ha)
        · refine List.mem_append.mpr (.inr ?_)
          simp only [List.cons_append, List.nil_append, List.map_cons, List.mem_cons] at ha ⊢
          rcases ha with e | e | e
          · exact .inl e
          · exact .inr (.inl e)
          · exact .inr (.inr (.inr e))
  rw [← eM, ← e4, ← e5, ← est]
  refine codeAny_compStart_list (loop _ _ S2) ?_
  refine (src.again (C := C2) (K := fun r m2 I2 Mu2 => r = .ref it ∧ m2 = capt cap m ∧ I2 = I ∧ Mu2 = [(it, oI), (acc, lstO [] 0)]) ho ⟨rfl, rfl, rfl, rfl⟩).use S2 ?_
  rintro r m2 I2 Mu2 h2 t2 S2' ⟨rfl, rfl, rfl, rfl⟩
  exact loop h2 t2 S2'

/-- where a comprehension's value goes -/
theorem W_ListComp {scope : Scope} {x : Str} {px pos : Pos} {cap : List Str} {iter elt : Expr} {ifs : List Expr} (F : Fe C sc) (hh : C.A.handled = none) (hCX : C.X = []) (hok : compOk scope sc x cap = true) (hs : ∀ x, foldedSetIterable iter C.env x = pure x)
    (k : W C m I Mu (eval iter C.env) fun v m1 I1 Mu1 => W C m1 I1 Mu1 (pyIter v) fun itv m2 I2 Mu2 => ∃ (it : Addr) (oI : Obj) (Mu3 : Led) (src : Src I2) (Inv : Nat → List Value → Led → Prop), itv = .ref it ∧ Mu2 = (it, oI) :: Mu3 ∧ src.ob 0 oI ∧ src.n ≤ sizeLine ∧ Inv 0 [] I2 ∧ (∀ ys, Mono (Inv src.n ys)) ∧
      CompTurn C sc scope x cap m2 I2 src ifs elt Inv ∧ ∀ acc ys n J, Inv src.n ys (J ++ I2) → K (.ref acc) m2 ((acc, lstO ys n) :: (J ++ I2)) Mu3) :
    W C m I Mu (eval (.ListComp elt [⟨.Name x px, iter, ifs, 0⟩] scope pos) C.env) K := .mk fun E h tk S => by
  rw [eval_ListComp]
  have hok' := hok
  simp only [compOk, Bool.and_eq_true, List.all_eq_true, decide_eq_true_eq] at hok'
  obtain ⟨⟨⟨⟨hk, hall⟩, hx⟩, hnd⟩, hcap⟩ := hok'
  have hkind : scope.kind = .function := eq_of_beq hk
  have hcl : closureFor scope C.env = pure (clOf scope C.env) := closureFor_eq fun n hn => by
    have := hall _ hn
    simp at this
    exact F.cells n this.1
  have hnc : ∀ y ∈ scope.names, y.2 ≠ .cell := fun y hy e => by
    have := hall _ hy
    rw [e] at this
    simp at this
  refine wpAny_comprehension_free (use := none) rfl hs hcl hkind (fun y hy hl => by
    have := hall _ hy
    rw [hl] at this
    simpa using this) (k.use S fun v m1 I1 Mu1 h1 t1 S1 k1 => k1.use S1 fun itv m2 I2 Mu2 h2 t2 S2 k2 => ?_)
  obtain ⟨it, oI, Mu3, src, Inv, rfl, rfl, ho, hsz, h0, hmono, turn, done⟩ := k2
  refine wpAny_newObj_type ?_ (by size_fits)
  have S3 := S2.allocM (lstO []) rfl
  refine wpAny_newFunctionEnv (s := C.st (h2.push (lstO [])) t2) (binds := []) hnc (fun _ hx => nomatch hx) (fun h4 hn4 hs4 => ?_) hkind
  have S4' := S3.allocM { cls := .type "dict", data := .dict #[] } rfl
  obtain ⟨oC, es, ep, hgC, hrest⟩ := id hn4
  have S4 := S4'.mu_of_upd (h' := h4) (o' := oC) .head hs4.2 hs4.1 hgC
  refine comp_loop (R := _) F hh hCX hok S4 hn4 src ho hsz Inv h0 hmono turn ?_
  intro h' tk' ys n J oC' mc S' hN hI
  refine ⟨mc, hN, fun h'' hs'' => ?_⟩
  refine back ?_ (done _ ys n J hI)
  exact (S'.dropUpd (by rw [hCX]; exact fun q => nomatch q) fun b o' hb e => hs''.extBut b o' hb e).freeze (by rw [hCX]; exact fun q => nomatch q)

theorem W_AssignComp {scope : Scope} {x y : Str} {px py pos spos : Pos} {cap : List Str} {iter elt : Expr} {ifs : List Expr} (F : Fe C sc) (hh : C.A.handled = none) (hCX : C.X = []) (hok : compOk scope sc x cap = true) (hs : ∀ x, foldedSetIterable iter C.env x = pure x)
    (hy : (sc.names.lookup y == some .local) = true) (hsw : swapsWith (.ListComp elt [⟨.Name x px, iter, ifs, 0⟩] scope pos) (some (.Name y py)) spos.line C.env = pure true)
    (k : W C m I Mu (eval iter C.env) fun v m1 I1 Mu1 => W C m1 I1 Mu1 (pyIter v) fun itv m2 I2 Mu2 => ∃ (it : Addr) (oI : Obj) (Mu3 : Led) (src : Src I2) (Inv : Nat → List Value → Led → Prop), itv = .ref it ∧ Mu2 = (it, oI) :: Mu3 ∧ src.ob 0 oI ∧ src.n ≤ sizeLine ∧ Inv 0 [] I2 ∧ (∀ ys, Mono (Inv src.n ys)) ∧
      CompTurn C sc scope x cap m2 I2 src ifs elt Inv ∧ ∀ acc ys n J, Inv src.n ys (J ++ I2) → KF .next (fun z => if z = y then some (.ref acc) else m2 z) ((acc, lstO ys n) :: (J ++ I2)) Mu3) :
    W C m I Mu (exec (.Assign [.Name y py] (.ListComp elt [⟨.Name x px, iter, ifs, 0⟩] scope pos) spos) C.env) KF := .mk fun E h tk S => by
  rw [exec_Assign_Name_used _ _ _ _ hsw]
  refine wpAny_bind (wpAny_standAt (wpAny_bind ?_))
  have hok' := hok
  simp only [compOk, Bool.and_eq_true, List.all_eq_true, decide_eq_true_eq] at hok'
  obtain ⟨⟨⟨⟨hk, hall⟩, hx⟩, hnd⟩, hcap⟩ := hok'
  have hkind : scope.kind = .function := eq_of_beq hk
  have hcl : closureFor scope C.env = pure (clOf scope C.env) := closureFor_eq fun n hn => by
    have := hall _ hn
    simp at this
    exact F.cells n this.1
  have hnc : ∀ y ∈ scope.names, y.2 ≠ .cell := fun y hy e => by
    have := hall _ hy
    rw [e] at this
    simp at this
  show wpAny _ C.A (do let _ ← comprehension (.ListComp elt [⟨.Name x px, iter, ifs, 0⟩] scope pos) scope C.env _ (newList []) false (eval iter C.env) (some (assign (.Name y py) C.env))) _ _ _
  refine wpAny_bind (wpAny_mono (wpAny_comprehension_free (use := some (assign (.Name y py) C.env)) (Q := fun _ s' => Back C KF .next s') rfl hs hcl hkind (fun y hy hl => by
    have := hall _ hy
    rw [hl] at this
    simpa using this) (k.use S fun v m1 I1 Mu1 h1 t1 S1 k1 => k1.use S1 fun itv m2 I2 Mu2 h2 t2 S2 k2 => ?_)) (fun _ s' hq => wpAny_pure (wpAny_pure hq)) fun _ _ e => e)
  obtain ⟨it, oI, Mu3, src, Inv, rfl, rfl, ho, hsz, h0, hmono, turn, done⟩ := k2
  refine wpAny_newObj_type ?_ (by size_fits)
  have S3 := S2.allocM (lstO []) rfl
  refine wpAny_newFunctionEnv (s := C.st (h2.push (lstO [])) t2) (binds := []) hnc (fun _ hx => nomatch hx) (fun h4 hn4 hs4 => ?_) hkind
  have S4' := S3.allocM { cls := .type "dict", data := .dict #[] } rfl
  obtain ⟨oC, es, ep, hgC, hrest⟩ := id hn4
  have S4 := S4'.mu_of_upd (h' := h4) (o' := oC) .head hs4.2 hs4.1 hgC
  refine comp_loop (R := _) F hh hCX hok S4 hn4 src ho hsz Inv h0 hmono turn ?_
  intro h' tk' ys n J oC' mc S' hN hI
  show wpAny _ C.A (assign (.Name y py) C.env _) _ _ _
  refine wpAny_assign_Name ?_
  obtain ⟨oC2, es2, ep2, hgC2, hrest2⟩ := id hN
  have eo : oC2 = oC' := by
    have := S'.mu _ (.head _)
    rw [hgC2] at this
    exact Option.some.inj this
  subst eo
  refine (W_store (C := C) (KU := fun _ m5 I5 Mu5 => m5 = (fun z => if z = y then some (.ref h2.objs.size) else m2 z) ∧ I5 = J ++ I2 ∧ Mu5 = ((h2.push (lstO [])).objs.size, oC2) :: (h2.objs.size, lstO ys n) :: Mu3) F hy ⟨rfl, rfl, rfl⟩).use S' ?_
  rintro _ m5 I5 Mu5 h5 t5 S5 ⟨rfl, rfl, rfl⟩
  refine ⟨mc, ⟨oC2, es2, ep2, S5.mu _ (.head _), hrest2⟩, fun h'' hs'' => ?_⟩
  refine back ?_ (done h2.objs.size ys n J hI)
  exact (S5.dropUpd (by rw [hCX]; exact fun q => nomatch q) fun b o' hb e => hs''.extBut b o' hb e).freeze (by rw [hCX]; exact fun q => nomatch q)
end
end
section
section
variable {C : Cx} {sc : Scope} {m : Vm} {I Mu : Led} {K : Value → Vm → Led → Led → Prop}

theorem W_modT {X X' T : Str} {t : Tok} {b : Addr} {vs : List Value} {n : Nat} (hX : X = X') (hb : Has I Mu b (tupO vs n))
    (hm : ∀ t, Meets (Builtin.«str.__mod__» ⟨[.str X' t, .ref b], []⟩) (fun _ R s => IsTup s.heap b vs.toArray ∧ ∀ t' k, R (.ok (.ret (.str T t'))) { s with toks := k }))
    (k : ∀ t', K (.str T t') m I Mu) : W C m I Mu (binaryOp .Mod (.str X t) (.ref b)) K := .mk fun E h tk S => by
  have N : News (hideAll h [b]) (b + 1) (C.st h tk).heap [(b, tupO vs n)] := fun p hp => by
    rw [List.mem_singleton.mp hp]
    exact ⟨S.has hb, Nat.ne_of_lt (Nat.lt_succ_self b), hideAll_none _ (.head _)⟩
  exact KPt.mod_tuple N (.head _) hX (hm t) fun t' _ => back S (k t')

end
end
section
section
variable {C : Cx} {sc : Scope} {m : Vm} {I Mu : Led} {K : Value → Vm → Led → Led → Prop} {KF : Flow → Vm → Led → Led → Prop} {KB : Bool → Vm → Led → Led → Prop} {KU : Unit → Vm → Led → Led → Prop} {KL : List Value → Vm → Led → Led → Prop}

/- methods -/
def Meth (C : Cx) (m : Vm) (I Mu : Led) (name : Str) (ov : Value) (pos : Pos) (trees : List (Bool × Sem Value)) (K : Value → Vm → Led → Led → Prop) : Prop :=
  ∃ (T id : String), PlainAttrs T ∧ Slot T name id ∧ typeOf (.builtin id) = pure (.type "method_descriptor") ∧ (∀ h tk, St C m I Mu h → (C.st h tk).TypeIs ov T) ∧ (∀ h, St C m I Mu h → ∀ a, ov = .ref a → ∃ ob, h.get? a = some ob ∧ ob.dict = none) ∧
    W C m I Mu (callWith pos (.builtin id) [ov] trees []) K
abbrev kMeth (C : Cx) (name : Str) (pos : Pos) (args : List Expr) (K : Value → Vm → Led → Led → Prop) : Value → Vm → Led → Led → Prop := fun ov m1 I1 Mu1 => Meth C m1 I1 Mu1 name ov pos (backTo pos (starEach args C.env)) K
abbrev kWith (C : Cx) (id : String) (first : List Value) (K : Value → Vm → Led → Led → Prop) : List Value → Vm → Led → Led → Prop := fun vs m1 I1 Mu1 => W C m1 I1 Mu1 (call (.builtin id) (first ++ vs)) K
theorem W_CallMeth {o : Expr} {name : Str} {apos pos : Pos} {args : List Expr} (hbase : attributeBase o name C.env (eval o C.env) = eval o C.env)
    (hfew : ((backTo pos (starEach args C.env)).all (fun x => !x.1) && (backToKw pos (keywordEach [] C.env)).all (fun x => x.1.isSome) && decide (args.length + ([] : List Keyword).length + (if ([] : List Keyword).isEmpty then 0 else 1) < 30)) = true)
    (hline : (apos.endLine == pos.line) = true) (k : W C m I Mu (eval o C.env) (kMeth C name pos args K)) :
    W C m I Mu (eval (.Call (.Attribute o name apos) args [] pos) C.env) K := .mk fun E h tk S =>
  wpAny_Call_method_lateS hbase hfew hline (k.use S fun ov _ _ _ h1 t1 S1 ⟨T, id, a1, a2, a3, a4, a5, k1⟩ => ⟨T, id, a1, a2, a3, a4 h1 t1 S1, a5 h1 S1, k1.out E h1 t1 S1⟩)
theorem Meth_list {name : Str} {id : String} {pos : Pos} {trees : List (Bool × Sem Value)} {l : Addr} {vs : List Value} {n : Nat} (slot : Slot "list" name id) (ty : typeOf (.builtin id) = pure (.type "method_descriptor")) (hl : Has I Mu l (lstO vs n))
    (k : W C m I Mu (callWith pos (.builtin id) [.ref l] trees []) K) : Meth C m I Mu name (.ref l) pos trees K :=
  ⟨"list", id, F.plainAttrs_list, slot, ty, fun h tk S => ⟨_, S.has hl, rfl⟩, fun h S a e => by cases e; exact ⟨_, S.has hl, rfl⟩, k⟩
theorem Meth_str {name : Str} {id : String} {pos : Pos} {trees : List (Bool × Sem Value)} {x : Str} {t : Tok} (slot : Slot "str" name id) (ty : typeOf (.builtin id) = pure (.type "method_descriptor"))
    (k : W C m I Mu (callWith pos (.builtin id) [.str x t] trees []) K) : Meth C m I Mu name (.str x t) pos trees K :=
  ⟨"str", id, F.plainAttrs_str, slot, ty, fun h tk S => typeIs_str _ _ _, (fun h S a e => nomatch e), k⟩
theorem Meth_dict {name : Str} {id : String} {pos : Pos} {trees : List (Bool × Sem Value)} {d : Addr} {o : Obj} (slot : Slot "dict" name id) (ty : typeOf (.builtin id) = pure (.type "method_descriptor")) (ho : C.hr.get? d = some o) (hc : o.cls = .type "dict") (hd : o.dict = none)
    (k : W C m I Mu (callWith pos (.builtin id) [.ref d] trees []) K) : Meth C m I Mu name (.ref d) pos trees K :=
  ⟨"dict", id, F.plainAttrs_dict, slot, ty, fun h tk S => ⟨o, S.root _ _ ho, hc⟩, fun h S a e => by cases e; exact ⟨_, S.root _ _ ho, hd⟩, k⟩
theorem W_with0 {pos : Pos} {id : String} {first : List Value} (k : W C m I Mu (call (.builtin id) first) K) : W C m I Mu (callWith pos (.builtin id) first (backTo pos (starEach [] C.env)) []) K := .mk fun E h tk S => callWith_method0 (k.out E h tk S)
theorem W_with1 {pos : Pos} {id : String} {first : List Value} {e : Expr} {rest : List Expr} (he : starEach (e :: rest) C.env = (false, eval e C.env) :: starEach rest C.env) (hp : (backTo pos (starEach rest C.env)).any (·.1) = false)
    (k : W C m I Mu (spliced (backTo pos (starEach (e :: rest) C.env))) (kWith C id first K)) : W C m I Mu (callWith pos (.builtin id) first (backTo pos (starEach (e :: rest) C.env)) []) K := .mk fun E h tk S =>
  callWith_method1 (k.use S fun _ _ _ _ h1 t1 S1 k1 => k1.out E h1 t1 S1) he hp

theorem W_pop {l : Addr} {vs : List Value} {n : Nat} {v : Value} {Mu' : Led} (U : Up1 l (lstO (vs ++ [v]) n) (lstO vs (n + 1)) Mu Mu') (hsz : vs.length + 1 ≤ sizeLine) (k : K v m I Mu') : W C m I Mu (call (.builtin "list.pop") [.ref l]) K := .mk fun E h tk S => by
  have hl : IsL (C.st h tk).heap l (vs ++ [v]).toArray n := S.mu _ U.mem
  have e1 : (vs ++ [v]).toArray.size - 1 = vs.length := by simp
  refine call_meets F.slot_list_pop ⟨_, hl, rfl⟩ F.entry_list_pop (F.args_list_pop_1 _) (MeetsSeq.list_pop_last l (vs ++ [v]).toArray n v (by rw [e1]; simp) (by simpa using hsz)) ⟨hl, ?_⟩
  refine back (S.mu_of_upd U (Heap.SameBut.update h l _).2 (Heap.SameBut.update h l _).1 ?_) k
  have e2 : (vs ++ [v]).toArray.eraseIdxIfInBounds vs.length = vs.toArray := by
    rw [List.eraseIdxIfInBounds_toArray]
    congr 1
    rw [List.eraseIdx_append_of_length_le (Nat.le_refl _)]
    simp
  have := hl.update (fun x => x.eraseIdxIfInBounds ((vs ++ [v]).toArray.size - 1))
  rw [e1, e2] at this
  rw [if_neg (by simp)] at this
  rw [e1]
  exact this

/- texts -/
theorem strs_from : ∀ (k : Nat) (l : List Str), Strs (strsFrom k l) l
  | _, [] => rfl
  | k, x :: r => by
    unfold strsFrom
    show _ :: _ = _ :: _
    rw [strs_from (k + 1) r]
    rfl
theorem W_split {x : Str} {t : Tok} (hx : x.length ≤ sizeLine) (hn : (Builtin.Str.spaceWords x (x.length + 1)).length ≤ sizeLine)
    (k : ∀ a vs, Strs vs (Txt.words x) → K (.ref a) m ((a, lstO vs) :: I) Mu) : W C m I Mu (call (.builtin "str.split") [.str x t]) K := .mk fun E h tk S => by
  refine call_meets F.slot_str_split (typeIs_str _ _ _) F.entry_str_split (F.args_str_split_1 _) (meets_str_split_space x t hx hn) ?_
  have k' := k
  unfold Txt.words at k'
  cases hw : Builtin.Str.spaceWords x (x.length + 1) == [(0, x.length)]
  · rw [hw] at k'
    simp only [Bool.false_eq_true, if_false] at k' ⊢
    exact back (S.alloc _ rfl) (k' _ _ (strs_from _ _))
  · rw [hw] at k'
    simp only [if_true] at k' ⊢
    exact back (S.alloc _ rfl) (k' _ _ rfl)
theorem W_strOf {a : Int} {t : Tok} (h0 : 0 ≤ a) (h1 : a < 10 ^ 10) (k : ∀ t, K (.str (Str.ofString (toString a)) t) m I Mu) : W C m I Mu (call (.type "str") [.int a t]) K := .mk fun E h tk S =>
  P.str_of_int (shown (N := 2 ^ 1920) (by omega) (by omega) (Int.le_refl _)) (back S (k _))
theorem W_intText {x : Str} {t : Tok} {n : Int} (hn : PySem.intText? x = some n) (hl : x.length ≤ 640) (k : ∀ t, K (.int n t) m I Mu) : W C m I Mu (call (.type "int") [.str x t]) K := .mk fun E h tk S => KIN.call_text hn hl (back S (k _))

/- iterators -/
theorem W_iterCall {l : Addr} {vs : List Value} {n : Nat} (hl : Has I Mu l (lstO vs n)) (k : ∀ it o, LIt l 0 o → K (.ref it) m I ((it, o) :: Mu)) : W C m I Mu (call (.builtin "iter") [.ref l]) K := .mk fun E h tk S => by
  refine call_function_entry (by decide +kernel) (by decide +kernel) kdk_entry_iter (kdk_args_iter _) ?_
  unfold Builtin.«iter»
  refine wpAny_bind (m := someArgs "iter" 1 2 _) (wpAny_of_eq (a := [Value.ref l]) (by first | rfl | kernel_rfl!) ?_)
  show wpAny _ _ (pyIter (.ref l) >>= _) _ _ _
  refine wpAny_bind (wpAny_pyIter_list (IsL.isList (S.has hl)) ?_)
  exact wpAny_pure ⟨_, rfl, back (S.allocM _ rfl) (k _ _ ⟨rfl, rfl⟩)⟩
theorem W_nextCall {i : Nat} {it l : Addr} {o : Obj} {vs : List Value} {n : Nat} {v : Value} (hl : (l, lstO vs n) ∈ I) (ho : LIt l i o) (hv : vs[i]? = some v)
    (k : ∀ o', LIt l (i + 1) o' → K v m I ((it, o') :: Mu)) : W C m I ((it, o) :: Mu) (call (.builtin "next") [.ref it]) K := .mk fun E h tk S => by
  have hit : (C.st h tk).heap.IsListIter it l i := ⟨o, S.mu _ (.head _), ho.1, ho.2⟩
  obtain ⟨oo, hoo, hc, hd⟩ := id hit
  refine call_function_entry (by decide +kernel) (by decide +kernel) kdk_entry_next (kdk_args_next _) ?_
  unfold Builtin.«next»
  refine wpAny_bind (m := someArgs "next" 1 2 _) (wpAny_of_eq (a := [Value.ref it]) (by first | rfl | kernel_rfl!) ?_)
  dsimp only
  refine wpAny_bind (wpAny_specialOf (name := Str.ofString "__next__") hit.typeIs slot_listiter_next.lookup ?_)
  refine wpAny_ite_split (fun hab => absurd hab (by decide)) (fun _ => ?_)
  refine wpAny_bind (wpAny_callSpecial?_slot (name := Str.ofString "__next__") hit.typeIs slot_listiter_next (wpAny_call_entry slot_listiter_next hit.typeIs entry_listiter_next ?_ (args_listiter_next _)))
  show wpAny _ _ (field (.ref it) 0 >>= _) _ _ _
  refine wpAny_bind (wpAny_field hoo hd (x := .ref l) rfl ?_)
  show wpAny _ _ (if (Value.ref l == Value.none) = true then _ else _) _ _ _
  rw [if_neg (show ¬ ((Value.ref l == Value.none) = true) from Bool.false_ne_true)]
  show wpAny _ _ (field (.ref it) 1 >>= _) _ _ _
  refine wpAny_bind (wpAny_field hoo hd (x := .int i 0) rfl ?_)
  show wpAny _ _ (seqItems? (.ref l) >>= _) _ _ _
  refine wpAny_bind (wpAny_seqItems (S.led _ hl) rfl ?_)
  have hx : vs.toArray[i]? = some v := by simpa using hv
  simp only [Int.toNat_natCast, hx]
  refine wpAny_bind (wpAny_setField hoo hd (by simp) (wpAny_pure ⟨v, rfl, ?_⟩))
  refine wpAny_pure ⟨_, rfl, back (S.mu_of_upd .head (Heap.SameBut.update ..).2 (Heap.SameBut.update ..).1 (Heap.get?_update_self _ hoo (Obj.isFreed_of_fields (Obj.data_mapFields hd _)))) (k _ ⟨(Obj.cls_mapFields ..).trans hc, ?_⟩)⟩
  rw [Obj.data_mapFields hd]; simp [rawInt]
end
end
section
section
variable {C : Cx} {sc : Scope} {m : Vm} {I Mu : Led} {K : Value → Vm → Led → Led → Prop} {KF : Flow → Vm → Led → Led → Prop} {KB : Bool → Vm → Led → Led → Prop} {KU : Unit → Vm → Led → Led → Prop} {KL : List Value → Vm → Led → Led → Prop}

/- dicts of the root, keyed by strs -/
theorem isStr_self (x : Str) (t : Tok) (prog : Program) (w : World) : (strKind prog w).is x (.str x t) = true := by show Value.isStrOf x (.str x t) = true; simp [Value.isStrOf]
theorem mapOf_keeps {prog : Program} {w : World} {h h' : Heap} {d : Addr} {f : Str → Option Value} (x : h.MapOf (strKind prog w) d f) (hk : ∀ b o, h.get? b = some o → h'.get? b = some o) : h'.MapOf (strKind prog w) d f :=
  let ⟨o, es, ep, e, r⟩ := x; ⟨o, es, ep, hk _ _ e, r⟩
theorem W_inD {d : Addr} {f : Str → Option Value} {x : Str} {t : Tok} (hd : (d == sysModules) = false) (hm : C.hr.MapOf (strKind C.prog C.w) d f) (k : K (.bool (f x).isSome) m I Mu) : W C m I Mu (compareOp .In (.str x t) (.ref d)) K := .mk fun E h tk S =>
  wpAny_in_of (isStr_self x t _ _) hd (mapOf_keeps hm S.root) (back S k)
theorem W_itemD {value slice : Expr} {d : Addr} {f : Str → Option Value} {x : Str} {t : Tok} {v : Value} (hs : subscripted slice false (.ref d) (.str x t) = operate [.ref d, .str x t] (getItem (.ref d) (.str x t))) (hm : C.hr.MapOf (strKind C.prog C.w) d f) (hv : f x = some v) (k : K v m I Mu) :
    W C m I Mu (subscriptTail value slice (.ref d) (.str x t)) K := .mk fun E h tk S =>
  tail_any (T := "dict") (mapOf_keeps hm S.root : Heap.MapOf (strKind C.prog C.w) (C.st h tk).heap d f).typeIs F.slot_dict_getitem.lookup (wpAny_getItem_of (isStr_self x t _ _) (mapOf_keeps hm S.root) hv (back S k)) hs
theorem W_getD {pos : Pos} {e₁ e₂ : Expr} {d : Addr} {f : Str → Option Value} (hd : (d == sysModules) = false) (hm : C.hr.MapOf (strKind C.prog C.w) d f) (hs : backTo pos (starEach [e₁, e₂] C.env) = [(false, eval e₁ C.env), (false, eval e₂ C.env)])
    (k : W C m I Mu (eval e₁ C.env) fun a m1 I1 Mu1 => W C m1 I1 Mu1 (eval e₂ C.env) fun b m2 I2 Mu2 => ∃ x t, a = .str x t ∧ K ((f x).getD b) m2 I2 Mu2) :
    W C m I Mu (callWith pos (.builtin "dict.get") [.ref d] (backTo pos (starEach [e₁, e₂] C.env)) []) K := .mk fun E h tk S => by
  rw [hs]
  refine wpAny_dict_get2 (knd := strKind C.prog C.w) hd (k.use S fun a _ _ _ _ _ S1 k1 => k1.use S1 fun b _ _ _ h2 t2 S2 k2 => ?_)
  obtain ⟨x, t, rfl, k2⟩ := k2
  exact ⟨x, f, isStr_self x t _ _, mapOf_keeps hm S2.root, back S2 k2⟩

/- chains -/
theorem W_link {pos : Pos} {a : Value} {op op' : CmpOp} {r r' : Sem Value} (k : W C m I Mu r fun b m1 I1 Mu1 => W C m1 I1 Mu1 (compareOp op a b) fun c m2 I2 Mu2 => W C m2 I2 Mu2 (truthy c) fun t m3 I3 Mu3 => if t then W C m3 I3 Mu3 (testChain pos b [op'] [r']) KB else KB false m3 I3 Mu3) :
    W C m I Mu (testChain pos a [op, op'] [r, r']) KB := .mk fun E h tk S =>
  test_link (k.use S fun b _ _ _ _ _ S1 k1 => k1.use S1 fun c _ _ _ _ _ S2 k2 => k2.use S2 fun t _ _ _ h3 t3 S3 k3 => by cases t <;> first | exact k3.out E h3 t3 S3 | exact back S3 k3)
theorem W_last {pos : Pos} {a : Value} {op : CmpOp} {r : Sem Value} (k : W C m I Mu r fun b m1 I1 Mu1 => W C m1 I1 Mu1 (compareOp op a b) fun c m2 I2 Mu2 => W C m2 I2 Mu2 (truthy c) KB) : W C m I Mu (testChain pos a [op] [r]) KB := .mk fun E h tk S =>
  test_last (k.use S fun b _ _ _ _ _ S1 k1 => k1.use S1 fun c _ _ _ h2 t2 S2 k2 => k2.out E h2 t2 S2)
theorem W_neg {a : Int} {t : Tok} (k : ∀ t, K (.int (-a) t) m I Mu) : W C m I Mu (unaryOp .USub (.int a t)) K := .mk fun E h tk S => PyProof.Rows.neg_int (back S (k _))
theorem W_Try {body orelse : List Stmt} {h₀ : ExceptHandler} {hs : List ExceptHandler} {pos : Pos} (k : W C m I Mu (execs body C.env) (kSeq C orelse KF)) :
    W C m I Mu (exec (.Try body (h₀ :: hs) orelse [] pos) C.env) KF := .mk fun E h tk S =>
  wpAny_Try_except (k.use S fun f m1 I1 Mu1 h1 t1 S1 k1 => by cases f <;> first | exact k1.out E h1 t1 S1 | exact back S1 k1)

/- unpacking -/
theorem W_assignTuple {elts : List Expr} {n : Nat} {pos : Pos} {t : Addr} {vs : List Value} {k' : Nat} (hh : C.A.handled = none) (ht : Has I Mu t (tupO vs k')) (hn : (assignEach elts C.env).length = vs.length) (hst : (assignEach elts C.env).findIdx? (·.1) = none)
    (k : W C m I Mu (assignInOrder ((assignEach elts C.env).map (·.2)) vs) KU) : W C m I Mu (assign (.Tuple elts n pos) C.env (.ref t)) KU := .mk fun E h tk S =>
  assign_Tuple_tuple hh ⟨_, S.has ht, rfl, _, rfl⟩ (by simpa using hn) hst fun h' he => by
    have S' := S.grow (h' := h') fun b o e => he b o (Nat.ne_of_lt (Heap.lt_size e)) e
    simpa using k.out E h' tk S'
theorem W_inOrder_nil (k : KU () m I Mu) : W C m I Mu (assignInOrder [] []) KU := W.pure k
theorem W_inOrder_cons {t : Value → Sem Unit} {ts : List (Value → Sem Unit)} {x : Value} {xs : List Value} (k : W C m I Mu (t x) (kT C (fun _ => assignInOrder ts xs) KU)) : W C m I Mu (assignInOrder (t :: ts) (x :: xs)) KU := .mk fun E h tk S => by
  show wpAny _ _ (do holding xs (t x); assignInOrder ts xs) _ _ _
  exact wpAny_bind (wpAny_holding (k.use S fun _ _ _ _ h1 t1 S1 k1 => k1.out E h1 t1 S1))
theorem W_assignName {x : Str} {pos : Pos} {v : Value} (k : W C m I Mu (storeName C.env x v) KU) : W C m I Mu (assign (.Name x pos) C.env v) KU := .mk fun E h tk S => PySem.wpAny_assign_Name (k.out E h tk S)
theorem W_unpackItems {t : Addr} {vs : List Value} {k' n : Nat} (hh : C.A.handled = none) (ht : Has I Mu t (tupO vs k')) (hn : n = vs.length) (k : KL vs m I Mu) : W C m I Mu (unpackItems (.ref t) n none) KL := .mk fun E h tk S => by
  have e : n = vs.toArray.size := by simpa using hn
  subst e
  refine unpackItems_tuple hh ⟨_, S.has ht, rfl, _, rfl⟩ fun h' he => ?_
  have S' := S.grow (h' := h') fun b o e => he b o (Nat.ne_of_lt (Heap.lt_size e)) e
  simpa using (back S' k : Back C KL vs (C.st h' tk))
theorem W_AssignSwap {elts : List Expr} {n : Nat} {tpos pos : Pos} {value : Expr} {names : List Str} (hs : swapsWithSole [.Tuple elts n tpos] value pos.line C.env = Pure.pure false) (hw : swappedStores [.Tuple elts n tpos] value C.env = Pure.pure (some names))
    (k : W C m I Mu (eval value C.env) fun v m1 I1 Mu1 => W C m1 I1 Mu1 (unpackItems v names.length none) fun items m2 I2 Mu2 => W C m2 I2 Mu2 (assignInOrder (names.reverse.map fun n => bindName C.env n) items.reverse) fun _ => KF .next) :
    W C m I Mu (exec (.Assign [.Tuple elts n tpos] value pos) C.env) KF := .mk fun E h tk S =>
  PyProof.Rows.Assign_Tuple_swapped (k.use S fun v _ _ _ _ _ S1 k1 => k1.use S1 fun items _ _ _ _ _ S2 k2 => k2.use S2 fun _ _ _ _ _ _ S3 k3 => back S3 k3) hs hw
theorem W_bindName {x : Str} {v : Value} (k : W C m I Mu (storeName C.env x v) KU) : W C m I Mu (bindName C.env x v) KU := .mk fun E h tk S => wpAny_bindName (k.out E h tk S)

/- slices -/
theorem W_Slice {value : Expr} {lower upper : Option Expr} {p pos : Pos}
    (k : W C m I Mu (eval value C.env) fun o m1 I1 Mu1 => W C m1 I1 Mu1 (evalPart lower C.env) fun vl m2 I2 Mu2 => W C m2 I2 Mu2 (evalPart upper C.env) fun vu m3 I3 Mu3 =>
      ∃ l vs n lo hi, o = .ref l ∧ Has I3 Mu3 l (lstO vs n) ∧ vs.length ≤ sizeLine ∧ PySem.IsPart vl lo ∧ PySem.IsPart vu hi ∧ ∀ a, K (.ref a) m3 ((a, lstO (slicePick vs.toArray lo hi none).toList) :: I3) Mu3)
    (ht : ∀ o r, letTemporaryGo value o r = Pure.pure ()) : W C m I Mu (eval (.Subscript value (.Slice lower upper none p) pos) C.env) K := .mk fun E h tk S => by
  refine wpAny_Subscript_list_slice (k.use S fun o _ _ _ _ _ S1 k1 => k1.use S1 fun vl _ _ _ _ _ S2 k2 => k2.use S2 fun vu _ _ _ h3 t3 S3 k3 => ?_) ht
  obtain ⟨l, vs, n, lo, hi, rfl, hl, hsz, pl, pu, k3⟩ := k3
  refine ⟨l, vs.toArray, lo, hi, rfl, IsL.isList (S3.has hl), by simpa using hsz, pl, pu, ?_⟩
  have S4 := S3.alloc { cls := .type "slice", data := .fields #[vl, vu, .none] } rfl
  have S5 := S4.alloc (lstO (slicePick vs.toArray lo hi none).toList) rfl
  have S6 := S5.less (J := ((h3.push { cls := .type "slice", data := .fields #[vl, vu, .none] }).objs.size, lstO (slicePick vs.toArray lo hi none).toList) :: _) (fun p hp => by
    rcases List.mem_cons.mp hp with rfl | hp
    · exact .head _
    · exact .tail _ (.tail _ hp))
  rw [Heap.size_push] at S6
  have := back (tk := t3) S6 (k3 _)
  simpa [lstO] using this
theorem W_part_none (k : K .none m I Mu) : W C m I Mu (evalPart none C.env) K := .mk fun E h tk S => wpAny_evalPart_none (back S k)
theorem W_part_some {e : Expr} (k : W C m I Mu (eval e C.env) K) : W C m I Mu (evalPart (some e) C.env) K := .mk fun E h tk S => wpAny_evalPart_some (k.out E h tk S)
end
end
section
theorem intsAre_of : ∀ {vs : List Value} {ns : List Int}, Ints vs ns → IntsAre vs ns
  | [], [], _ => .nil
  | [], _ :: _, h => by simp [Ints] at h
  | _ :: _, [], h => by simp [Ints] at h
  | v :: vs, n :: ns, h => by
    simp only [Ints, List.map_cons, List.cons.injEq] at h
    obtain ⟨t, rfl⟩ := intV_eq h.1
    exact .cons n t (intsAre_of h.2)
theorem argBest_le (bt : Nat → Nat → Bool) : ∀ k, argBest bt k ≤ k
  | 0 => Nat.le_refl _
  | k + 1 => by
    unfold argBest
    split
    · exact Nat.le_refl _
    · exact Nat.le_succ_of_le (argBest_le bt k)
theorem argBest_min (f : Nat → Int) : ∀ k i, i ≤ k → f (argBest (fun i j => decide (f i < f j)) k) ≤ f i
  | 0, i, h => by have : i = 0 := by omega
                  subst this; exact Int.le_refl _
  | k + 1, i, h => by
    unfold argBest
    by_cases q : f (k + 1) < f (argBest (fun i j => decide (f i < f j)) k)
    · rw [if_pos (decide_eq_true q)]
      by_cases e : i = k + 1
      · subst e; exact Int.le_refl _
      · have := argBest_min f k i (by omega); omega
    · rw [if_neg (by simpa using q)]
      by_cases e : i = k + 1
      · subst e; omega
      · exact argBest_min f k i (by omega)

section
variable {C : Cx} {sc : Scope} {m : Vm} {I Mu : Led} {K : Value → Vm → Led → Led → Prop}

theorem W_eqInts {l l' : Addr} {vs vs' : List Value} {ns ns' : List Int} {n n' : Nat} (hl : Has I Mu l (lstO vs n)) (hs : Ints vs ns) (hl' : Has I Mu l' (lstO vs' n')) (hs' : Ints vs' ns') (hu : C.A.units + 64 < cLine)
    (k : K (.bool (decide (ns = ns'))) m I Mu) : W C m I Mu (compareOp .Eq (.ref l) (.ref l')) K := .mk fun E h tk S =>
  eq_intsK (IsL.isList (S.has hl)) (intsAre_of hs) (IsL.isList (S.has hl')) (intsAre_of hs') hu (back S k)
theorem W_neNil {l l' : Addr} {vs : List Value} {n n' : Nat} (hl : Has I Mu l (lstO vs n)) (hl' : Has I Mu l' (lstO [] n')) (hu : C.A.units + 64 < cLine)
    (k : K (.bool (!vs.isEmpty)) m I Mu) : W C m I Mu (compareOp .NotEq (.ref l) (.ref l')) K := .mk fun E h tk S => by
  cases vs with
  | nil => exact ne_intsK (ns := []) (ms := []) (IsL.isList (S.has hl)) .nil (IsL.isList (S.has hl')) .nil hu (back S (by simpa using k))
  | cons v vs =>
    show wpAny _ _ (richCompare .NotEq _ _) _ _ _
    exact SeqAt.RcNeAt.lists_lengths (IsL.isList (S.has hl)) (IsL.isList (S.has hl')) (by simp) (by omega) _ _ _ _ (back S (by simpa using k))
theorem strs_all : ∀ {vs vs' : List Value} {ws ws' : List Str}, Strs vs ws → Strs vs' ws' → ws.length = ws'.length →
    ((List.range vs.toArray.size).all fun j => (ws[j]?.getD (Str.ofString "")).cps.toList == (ws'[j]?.getD (Str.ofString "")).cps.toList) = decide (ws = ws') := by
  intro vs vs' ws ws' h h' hl
  have hv := h.length
  rw [List.size_toArray, hv]
  rw [Bool.eq_iff_iff, List.all_eq_true, decide_eq_true_iff]
  constructor
  · intro q
    apply List.ext_getElem? 
    intro i
    by_cases hi : i < ws.length
    · have := q i (List.mem_range.mpr hi)
      have h1 : ws[i]? = some ws[i] := List.getElem?_eq_getElem hi
      have h2 : ws'[i]? = some (ws'[i]'(hl ▸ hi)) := List.getElem?_eq_getElem _
      rw [h1, h2] at this ⊢
      simp only [Option.getD_some, beq_iff_eq] at this
      congr 1
      generalize ws[i] = a at this ⊢
      generalize ws'[i]'(hl ▸ hi) = b at this ⊢
      cases a; cases b; simp at this; simp [this]
    · rw [List.getElem?_eq_none (by omega), List.getElem?_eq_none (by omega)]
  · rintro rfl i _
    simp
theorem W_eqStrs {l l' : Addr} {vs vs' : List Value} {ws ws' : List Str} {n n' : Nat} (hl : Has I Mu l (lstO vs n)) (hs : Strs vs ws) (hl' : Has I Mu l' (lstO vs' n')) (hs' : Strs vs' ws') (hu : C.A.units + 64 < cLine)
    (k : K (.bool (decide (ws = ws'))) m I Mu) : W C m I Mu (compareOp .Eq (.ref l) (.ref l')) K := .mk fun E h tk S => by
  by_cases hlen : ws.length = ws'.length
  · have e := strs_all hs hs' hlen
    refine P.eq_list (e := fun j => (ws[j]?.getD (Str.ofString "")).cps.toList == (ws'[j]?.getD (Str.ofString "")).cps.toList) (S.has hl) (S.has hl') (by simp [hs.length, hs'.length, hlen]) (fun j h1 h2 => ?_) (by omega) (by rw [e]; exact back S k)
    have h1' : j < ws.length := by simpa [hs.length] using h1
    have h2' : j < ws'.length := by simpa [hs'.length] using h2
    obtain ⟨t1, e1⟩ := hs.get (List.getElem?_eq_getElem h1')
    obtain ⟨t2, e2⟩ := hs'.get (List.getElem?_eq_getElem h2')
    have f1 : vs.toArray[j] = .str ws[j] t1 := by
      have : vs.toArray[j]? = some (.str ws[j] t1) := by simpa using e1
      rw [Array.getElem?_eq_getElem h1] at this
      exact Option.some.inj this
    have f2 : vs'.toArray[j] = .str ws'[j] t2 := by
      have : vs'.toArray[j]? = some (.str ws'[j] t2) := by simpa using e2
      rw [Array.getElem?_eq_getElem h2] at this
      exact Option.some.inj this
    rw [f1, f2, List.getElem?_eq_getElem h1', List.getElem?_eq_getElem h2']
    exact SeqRoads2.EqGives.str _ _ _ _
  · refine P.eq_list_lengths (S.has hl) (S.has hl') (by simp [hs.length, hs'.length, hlen]) (by omega) ?_
    have : decide (ws = ws') = false := decide_eq_false fun q => hlen (by rw [q])
    rw [this] at k
    exact back S k
theorem W_minL {l : Addr} {vs : List Value} {ns : List Int} {n : Nat} (hh : C.A.handled = none) (hl : Has I Mu l (lstO vs n)) (hs : Ints vs ns) (hne : ns ≠ []) (k : ∀ x t, x ∈ ns → (∀ y ∈ ns, x ≤ y) → K (.int x t) m I Mu) : W C m I Mu (call (.builtin "min") [.ref l]) K := .mk fun E h tk S => by
  obtain ⟨xs, hxs⟩ : ∃ xs : List (Int × Tok), vs = xs.map fun p => .int p.1 p.2 := by
    clear hl hne k
    induction ns generalizing vs with
    | nil => cases vs <;> simp [Ints] at hs; exact ⟨[], rfl⟩
    | cons a ns ih =>
      cases vs with
      | nil => simp [Ints] at hs
      | cons v vs =>
        simp only [Ints, List.map_cons, List.cons.injEq] at hs
        obtain ⟨t, rfl⟩ := intV_eq hs.1
        obtain ⟨xs, hx⟩ := ih hs.2
        exact ⟨(a, t) :: xs, by simp [hx]⟩
  subst hxs
  have hns : ns = xs.map (·.1) := by
    have : (xs.map (·.1)).map some = ns.map some := by
      rw [← hs, List.map_map, List.map_map]; rfl
    have := congrArg (List.filterMap id) this
    simpa [List.filterMap_map] using this.symm
  have e : intItems xs.toArray = (xs.map fun p => Value.int p.1 p.2).toArray := by simp [intItems]
  have hpos : 0 < xs.toArray.size := by
    cases xs with
    | nil => rw [hns] at hne; exact absurd rfl hne
    | cons _ _ => simp
  refine min_intList (xs := xs.toArray) hh (by rw [e]; exact IsL.isList (S.has hl)) hpos fun v h' tk' hv hk => ?_
  have S' := S.grow hk
  obtain ⟨t, rfl⟩ := intItems_at hv
  have hle := argBest_le (fun i j => decide (numAt xs.toArray i < numAt xs.toArray j)) (xs.toArray.size - 1)
  have hmin := argBest_min (numAt xs.toArray) (xs.toArray.size - 1)
  have hnum : ∀ i, i < xs.length → ns[i]? = some (numAt xs.toArray i) := fun i hi => by
    rw [hns, List.getElem?_map]; simp [numAt, List.getElem?_eq_getElem hi]
  refine back S' (k _ t ?_ ?_)
  · exact List.mem_of_getElem? (hnum _ (by simp at hle hpos ⊢; omega))
  · intro y hy
    obtain ⟨i, hi⟩ := List.getElem?_of_mem hy
    have hi' : i < xs.length := by have := (List.getElem?_eq_some_iff.mp hi).1; rw [hns] at this; simpa using this
    rw [hnum i hi'] at hi
    cases hi
    exact hmin i (by simp; omega)
end

theorem typeCall_int_2 (a b : Value) : checkTypeCall "int" ⟨[a, b], []⟩ = pure () := by kernel_rfl
theorem newCall_int_2 (a b : Value) : checkBuiltinCall "int.__new__" ⟨[.type "int", a, b], []⟩ = pure () := by kernel_rfl
theorem initArgs_2 (obj a b : Value) : argsOk "object.__init__" ⟨[obj, a, b], []⟩ := F.initArgs_range_2 obj a b
end
section
open PySem.W.KIN
set_option maxHeartbeats 4000000 in
theorem gives_text10 {x : Str} {u u' : Tok} {n : Int} (hl : x.length ≤ 640) (hn : PySem.intText? x = some n) : Gives (Builtin.«int.__new__» ⟨[.type "int", .str x u, .int 10 u'], []⟩) (.int n) :=
  .of_wp fun M A E s Q h => by
    obtain ⟨hp, g, d, tk, os⟩ := s
    have f1 := F.conv_sub_int
    have f2 := F.madeHere_int
    have f3 := str_int
    have f4 := str_idx
    have f5 := str_trunc
    have f6 : typeOf (.str x u) = pure (.type "str") := rfl
    have hs : (numSeenOf x).length ≤ 640 := Nat.le_trans (seen_length x) hl
    have hr : (int_private% "readNumeral") 0 10 (numSeenOf x) = (int_private% "Numeral.value") n ∧ ((numSeenOf x).length == (numTextOf x).length) = true := by
      rcases read0 x hs with ⟨m, h1, h2, h3⟩ | ⟨h1, _⟩
      · rw [hn] at h1
        injection h1 with h1
        subst h1
        exact ⟨h3, h2⟩
      · rw [hn] at h1
        cases h1
    have hk := Hid.mk (And.intro hs hr)
    clear hs hr hl hn
    repeat (any_goals (first
      | assumption
      | ((with_reducible show wpAny _ _ ((int_private% "intFromText") _ _ _) _ _ _); refine wp_text hk.out.1 hk.out.2.1 hk.out.2.2 ?_)
      | wp_step))
    all_goals exact ⟨_, rfl, h⟩
theorem W_intText10 {C : Cx} {m : Vm} {I Mu : Led} {K : Value → Vm → Led → Led → Prop} {x : Str} {t u : Tok} {n : Int} (hn : PySem.intText? x = some n) (hl : x.length ≤ 640) (k : ∀ t, K (.int n t) m I Mu) : W C m I Mu (call (.type "int") [.str x t, .int 10 u]) K := .mk fun E h tk S =>
  callType_new F.called_int F.newNe_int (typeCall_int_2 _ _) (newCall_int_2 _ _) (fun obj => initArgs_2 obj _ _) F.entry_int_new (gives_text10 hl hn).meets (show (Made.int n).post _ (C.st h tk) from ⟨rfl, back S (k _)⟩)
end
section
section
variable {C : Cx} {sc : Scope} {m : Vm} {I Mu : Led} {KF : Flow → Vm → Led → Led → Prop}
theorem W_ExprF (F : Fe C sc) {e : Expr} {pos : Pos} (hs : swapsWith e none pos.line C.env = Pure.pure false) (k : W C m I Mu (eval e C.env) (kEx KF)) : W C m I Mu (exec (.Expr e pos) C.env) KF :=
  W_Expr (by unfold interactive; rw [F.scope, F.kind]; rfl) hs k
/-- a comprehension's value kept in a captured name -/
theorem W_Assign_cell (F : Fe C sc) {x : Str} {pos' pos : Pos} {value : Expr} (hx : (sc.names.lookup x == some .cell) = true)
    (hv : match value with | .ListComp .. => True | _ => False)
    (k : W C m I Mu (eval value C.env) (kT C (storeName C.env x) (kNx KF))) : W C m I Mu (exec (.Assign [.Name x pos'] value pos) C.env) KF := by
  refine W_Assign_Name ?_ k
  cases value <;> simp only at hv
  have e : C.env.kindOf x = some .cell := by show C.env.scope.names.lookup x = _; rw [F.scope]; exact beq_iff_eq.mp hx
  unfold swapsWith
  simp only [e]
  have : (some NameKind.cell == some NameKind.local) = false := by decide
  simp [this]
theorem swaps_comp (F : Fe C sc) {elt : Expr} {gens : List Comprehension} {scope : Scope} {pos py spos : Pos} {y : Str} (hy : (sc.names.lookup y == some .local) = true) (hl : (py.line == pos.line) = true)
    (hn : (scope.names.any fun x => x.1 == y && (x.2 == .local || x.2 == .cell)) = false) : swapsWith (.ListComp elt gens scope pos) (some (.Name y py)) spos.line C.env = pure true := by
  have e : C.env.kindOf y = some .local := by show C.env.scope.names.lookup y = _; rw [F.scope]; exact beq_iff_eq.mp hy
  have e2 : C.env.blockKind = .function := by
    unfold Env.blockKind
    rw [F.scope, F.kind]
    rfl
  have hn' : (scope.names.any fun x => match x with | (n, k) => n == y && (k == NameKind.local || k == NameKind.cell)) = false := hn
  unfold swapsWith
  simp only [e, e2]
  show (pure _ : Sem Bool) = pure true
  congr 1
  simp only [hn']
  have : (py.line == (Expr.ListComp elt gens scope pos).pos.line) = true := hl
  simp [this]
end
theorem W_rangeZ {C : Cx} {m : Vm} {I Mu : Led} {n : Nat} {z : Int} {u : Tok} {K : Value → Vm → Led → Led → Prop} (hz : z = (n : Int)) (k : ∀ a t v, K (.ref a) m ((a, rngO n t u v) :: I) Mu) : W C m I Mu (call (.type "range") [.int z u]) K := by
  subst hz; exact W_range k
theorem St.perm {C : Cx} {m : Vm} {I Mu Mu' : Led} {h : Heap} (S : St C m I Mu h) (p : Mu.Perm Mu') : St C m I Mu' h := by
  have pm := p.map (·.1)
  exact { S with
    mu := fun q hq => S.mu q (p.mem_iff.mpr hq)
    dist := ((List.Perm.append_left C.vars pm).nodup_iff).mp S.dist
    ia := fun q hq hn => S.ia q hq ((List.Perm.append_left C.vars pm).mem_iff.mpr hn)
    wr := fun a ha => S.wr a ((List.Perm.append_left C.own pm).mem_iff.mpr ha) }
theorem W.perm {C : Cx} {m : Vm} {I Mu Mu' : Led} {α : Type} {t : Sem α} {K : α → Vm → Led → Led → Prop} (p : Mu.Perm Mu') (x : W C m I Mu' t K) : W C m I Mu t K := .mk fun E h tk S => x.out E h tk (S.perm p)
theorem W.swap1 {C : Cx} {m : Vm} {I Mu : Led} {a b : Addr × Obj} {α : Type} {t : Sem α} {K : α → Vm → Led → Led → Prop} (x : W C m I (b :: a :: Mu) t K) : W C m I (a :: b :: Mu) t K := x.perm (List.Perm.swap b a Mu)
def envSc (sc : Scope) : Env := { scope := sc, locals := 0, globals := 0, cells := [], qual := "", func := none, code := .none, frame := none, builtins := 0 }
theorem swapped_of {C : Cx} {sc : Scope} (F : Fe C sc) {ts : List Expr} {v : Expr} {r : Option (List Str)} (h : swappedStores ts v (envSc sc) = pure r) : swappedStores ts v C.env = pure r := by
  have e1 : C.env.kindOf = (envSc sc).kindOf := by funext x; show C.env.scope.names.lookup x = sc.names.lookup x; rw [F.scope]
  have e2 : C.env.blockKind = (envSc sc).blockKind := by unfold Env.blockKind envSc; rw [F.scope]
  rw [← h]
  unfold swappedStores
  rw [e1, e2]
theorem ite_self' {x : Str} {u : Value} {o : Option Value} : (if x = x then some u else o) = some u := if_pos rfl
theorem ite_ne' {x y : Str} {u v : Value} {o : Option Value} (h : (y == x) = false) (k : o = some v) : (if y = x then some u else o) = some v := by
  rw [if_neg (by simpa using h)]; exact k
theorem capt_pos {cap : List Str} {m : Vm} {y : Str} {v : Value} (h : cap.contains y = true) (k : m y = some v) : capt cap m y = some v := by unfold capt; rw [if_pos h]; exact k
theorem W_mid {C : Cx} {m : Vm} {I Mu : Led} {KF : Flow → Vm → Led → Led → Prop} {t : Sem Flow} (J : Vm → Led → Led → Prop) (h1 : W C m I Mu t fun f m' I' Mu' => f = .next ∧ J m' I' Mu')
    (h2 : ∀ m' I' Mu', J m' I' Mu' → KF .next m' I' Mu') : W C m I Mu t KF :=
  h1.mono fun f m' I' Mu' h => by obtain ⟨rfl, h⟩ := h; exact h2 m' I' Mu' h
theorem W_cut {C : Cx} {m : Vm} {I Mu : Led} {KF : Flow → Vm → Led → Led → Prop} {st : Stmt} {rest : List Stmt} (J : Vm → Led → Led → Prop) (h1 : W C m I Mu (exec st C.env) fun f m' I' Mu' => f = .next ∧ J m' I' Mu')
    (h2 : ∀ m' I' Mu', J m' I' Mu' → W C m' I' Mu' (execs rest C.env) KF) : W C m I Mu (execs (st :: rest) C.env) KF :=
  W_execs_cons (h1.mono fun f m' I' Mu' h => by obtain ⟨rfl, h⟩ := h; exact h2 m' I' Mu' h)
theorem W.gen {C : Cx} {m : Vm} {I Mu : Led} {α : Type} {t : Sem α} {K : α → Vm → Led → Led → Prop} (h : ∀ K' : α → Vm → Led → Led → Prop, (∀ a m' I' Mu', K a m' I' Mu' → K' a m' I' Mu') → W C m I Mu t K') : W C m I Mu t K := h K fun _ _ _ _ k => k
theorem W.absI {C : Cx} {m : Vm} {I Mu : Led} {α : Type} {t : Sem α} {K : α → Vm → Led → Led → Prop} (P : Led → Prop) (hP : P I) (h : ∀ J, P J → W C m J Mu t K) : W C m I Mu t K := h I hP
theorem Strs.nil' : Strs [] [] := rfl
theorem Strs.cons' {x : Str} {t : Tok} {vs : List Value} {ws : List Str} (h : Strs vs ws) : Strs (.str x t :: vs) (x :: ws) := by show _ :: _ = _ :: _; rw [h]; rfl
theorem Strs.append' {vs vs' : List Value} {ws ws' : List Str} (h : Strs vs ws) (h' : Strs vs' ws') : Strs (vs ++ vs') (ws ++ ws') := by simp only [Strs, List.map_append] at h h' ⊢; rw [h, h']
theorem Ints.nil' : Ints [] [] := rfl
theorem Ints.cons' {x : Int} {t : Tok} {vs : List Value} {ws : List Int} (h : Ints vs ws) : Ints (.int x t :: vs) (x :: ws) := by show _ :: _ = _ :: _; rw [h]; rfl
theorem Ints.append' {vs vs' : List Value} {ws ws' : List Int} (h : Ints vs ws) (h' : Ints vs' ws') : Ints (vs ++ vs') (ws ++ ws') := by simp only [Ints, List.map_append] at h h' ⊢; rw [h, h']
end
local macro_rules | `(tactic| walk_at "strs") => `(tactic| first
  | assumption
  | exact Mine.Strs.nil'
  | (apply Mine.Strs.cons'; walk_at "strs")
  | (apply Mine.Strs.append'; walk_at "strs"; walk_at "strs"))
local macro_rules | `(tactic| walk_at "ints") => `(tactic| first
  | assumption
  | exact Mine.Ints.nil'
  | (apply Mine.Ints.cons'; walk_at "ints")
  | (apply Mine.Ints.append'; walk_at "ints"; walk_at "ints"))
local macro_rules | `(tactic| walk_at "mem") => `(tactic| first
  | assumption
  | exact List.mem_cons_self
  | (refine List.mem_cons_of_mem _ ?_; walk_at "mem")
  | (refine List.mem_append.mpr (Or.inl ?_); walk_at "mem")
  | (refine List.mem_append.mpr (Or.inr ?_); walk_at "mem"))
local macro_rules | `(tactic| walk_at "has") => `(tactic| first | (refine Or.inl ?_; walk_at "mem") | (refine Or.inr ?_; walk_at "mem"))
local macro_rules | `(tactic| walk_at "sz") => `(tactic| first | exact Nat.le_of_ble_eq_true rfl | omega | (simp only [List.length_append, List.length_cons, List.length_nil]; omega))
local macro_rules | `(tactic| walk_at "var") => `(tactic| first
  | (with_reducible assumption)
  | (with_reducible exact Mine.ite_self')
  | (with_reducible exact Mine.ite_ne' (by decide +kernel) (by walk_at "var"))
  | (with_reducible exact Mine.capt_pos (by decide +kernel) (by walk_at "var"))
  | (with_unfolding_all rfl))
local macro_rules | `(tactic| walk_at "gl") => `(tactic| with_reducible first
  | exact Mine.Gl.parse (by assumption)
  | exact Mine.Gl.apply (by assumption)
  | exact Mine.Gl.br (by assumption)
  | exact Mine.Gl.pair (by assumption)
  | exact Mine.Gl.cut (by assumption)
  | exact Mine.Gl.read (by assumption)
  | exact Mine.Gl.ops (by assumption)
  | exact Mine.Gl.c2 (by assumption))
local macro_rules | `(tactic| walk_at "bl1") => `(tactic| with_reducible first
  | exact (Mine.Gl.len (by assumption)).1
  | exact (Mine.Gl.max (by assumption)).1
  | exact (Mine.Gl.min (by assumption)).1
  | exact (Mine.Gl.next (by assumption)).1
  | exact (Mine.Gl.iter (by assumption)).1
  | exact (Mine.Gl.int (by assumption)).1
  | exact (Mine.Gl.str (by assumption)).1
  | exact (Mine.Gl.range (by assumption)).1)
local macro_rules | `(tactic| walk_at "bl2") => `(tactic| with_reducible first
  | exact (Mine.Gl.len (by assumption)).2
  | exact (Mine.Gl.max (by assumption)).2
  | exact (Mine.Gl.min (by assumption)).2
  | exact (Mine.Gl.next (by assumption)).2
  | exact (Mine.Gl.iter (by assumption)).2
  | exact (Mine.Gl.int (by assumption)).2
  | exact (Mine.Gl.str (by assumption)).2
  | exact (Mine.Gl.range (by assumption)).2)
local macro_rules | `(tactic| walk_at "w1") => `(tactic| first
  | ((with_reducible refine (?_ : W _ _ _ _ (eval _ _) _)); first
    | ((with_reducible refine' W_Name ?F ?hx ?hd ?hv ?_); (case F => assumption); (case hx => decide +kernel); (case hd => decide +kernel); (case hv => walk_at "var"))
    | ((with_reducible refine W_int ?_); intro _)
    | ((with_reducible refine W_str ?_); intro _)
    | with_reducible refine W_bool ?_
    | with_reducible refine W_none ?_
    | with_reducible refine W_BinOp ?_
    | with_reducible refine W_Unary ?_
    | with_reducible refine W_Compare ?_ rfl
    | with_reducible refine W_IfExp ?_
    | with_reducible refine W_And2 ?_
    | with_reducible refine W_Slice ?_ (fun _ _ => rfl)
    | with_reducible refine W_Subscript ?_
    | with_reducible refine W_Tuple ?_
    | with_reducible refine W_List ?_
    | ((with_reducible refine' W_CallMeth ?hbase ?hfew ?hline ?_); (case hbase => rfl); (case hfew => rfl); (case hline => rfl))
    | with_reducible refine W_Call rfl ?_
    | ((with_reducible refine' W_Builtin ?F ?R ?hx ?hd ?hg ?hv ?_); (case F => assumption); (case R => assumption); (case hx => decide +kernel); (case hd => decide +kernel); (case hg => walk_at "bl1"); (case hv => walk_at "bl2"))
    | ((with_reducible refine' W_Global ?F ?R ?hx ?hd ?hv ?_); (case F => assumption); (case R => assumption); (case hx => decide +kernel); (case hd => decide +kernel); (case hv => walk_at "gl")))
  | ((with_reducible refine (?_ : W _ _ _ _ (exec _ _) _)); first
    | with_reducible refine W_Assign_Name rfl ?_
    | with_reducible refine W_Aug ?_
    | with_reducible refine W_If ?_
    | with_reducible refine W_Return ?_
    | with_reducible refine W_Break ?_
    | with_reducible refine W_Continue ?_
    | ((with_reducible refine' W_ExprF ?F ?hs ?_); (case F => assumption); (case hs => rfl))
    | with_reducible refine W_Try ?_
    | with_reducible refine W_AssignTuple ?_ rfl rfl)
  | ((with_reducible refine (?_ : W _ _ _ _ (execs _ _) _)); first
    | with_reducible refine W_execs_cons ?_
    | with_reducible refine W_execs_nil ?_)
  | ((with_reducible refine (?_ : W _ _ _ _ (isTrue _ _ _) _)); first
    | with_reducible refine W_tCompare ?_ rfl
    | with_reducible refine W_tChain2 ?_ rfl
    | with_reducible refine W_tNot ?_
    | with_reducible refine W_tBool ?_
    | with_reducible refine W_tValue ?_ rfl)
  | ((with_reducible refine (?_ : W _ _ _ _ (allTrue _ _ _) _)); first
    | with_reducible refine W_and_cons ?_
    | with_reducible refine W_and_nil ?_)
  | ((with_reducible refine (?_ : W _ _ _ _ (truthy _) _)); first
    | with_reducible refine W_truthy_bool ?_
    | with_reducible refine W_truthy_int ?_)
  | ((with_reducible refine (?_ : W _ _ _ _ (binaryOp _ _ _) _)); first
    | ((with_reducible refine W_add ?_); intro _)
    | ((with_reducible refine W_sub ?_); intro _)
    | ((with_reducible refine' W_mod ?hb ?_); (case hb => decide); intro _)
    | ((with_reducible refine W_subb ?_); intro _)
    | ((with_reducible refine' W_addL ?hl ?hl' ?hsz ?_); (case hl => walk_at "has"); (case hl' => walk_at "has"); (case hsz => walk_at "sz"); intro _))
  | ((with_reducible refine (?_ : W _ _ _ _ (inplaceOp _ _ _) _)); first
    | ((with_reducible refine W_iadd ?_); intro _))
  | ((with_reducible refine (?_ : W _ _ _ _ (unaryOp _ _) _)); first
    | with_reducible refine W_not ?_
    | ((with_reducible refine W_neg ?_); intro _))
  | ((with_reducible refine (?_ : W _ _ _ _ (compareOp _ _ _) _)); first
    | with_reducible refine W_lt ?_
    | with_reducible refine W_gt ?_
    | with_reducible refine W_le ?_
    | with_reducible refine W_eq ?_
    | with_reducible refine W_ne ?_
    | with_reducible refine W_eqb ?_
    | with_reducible refine W_seq ?_
    | with_reducible refine W_sne ?_
    | with_reducible refine W_in_strs (by walk_at "has") (by walk_at "strs") ?_
    | with_reducible refine W_in_ints (by walk_at "has") (by walk_at "ints") ?_
    | with_reducible refine W_in_intsT (by walk_at "has") (by walk_at "ints") ?_
    | ((with_reducible refine' W_neNil ?hl ?hl' ?hu ?_); (case hl => walk_at "has"); (case hl' => walk_at "has"); (case hu => first | assumption | omega)))
  | ((with_reducible refine (?_ : W _ _ _ _ (subscriptTail _ _ _ _) _)); first
    | ((with_reducible refine' W_itemT ?hs ?hl ?h0 ?hi ?hv ?_); (case hl => walk_at "has"); (case hs => rfl); (case h0 => decide); (case hi => decide); (case hv => rfl))
    | ((with_reducible refine' W_itemL ?hs ?hl ?h0 ?hi ?hv ?_); (case hl => walk_at "has"); (case hs => rfl); (case h0 => decide); (case hi => decide); (case hv => rfl)))
  | ((with_reducible refine (?_ : W _ _ _ _ (spliced _) _)); first
    | with_reducible refine W_items_cons rfl ?_
    | with_reducible refine W_items_nil ?_)
  | ((with_reducible refine (?_ : W _ _ _ _ (storeName _ _ _) _)); first
    | ((with_reducible refine' W_store ?F ?hx ?_); (case F => assumption); (case hx => decide +kernel))
    | ((with_reducible refine' W_storeC ?F ?ho ?hx ?_); (case F => assumption); (case ho => assumption); (case hx => decide +kernel)))
  | ((with_reducible refine (?_ : W _ _ _ _ (call _ _ _) _)); first
    | ((with_reducible refine' W_intb ?_); intro _)
    | ((with_reducible refine' W_max ?hh ?_); (case hh => assumption); intro _)
    | ((with_reducible refine' W_min ?hh ?_); (case hh => assumption); intro _)
    | ((with_reducible refine' W_len ?hl ?hf ?_); (case hl => walk_at "has"); (case hf => omega); intro _))
  | ((with_reducible refine (?_ : W _ _ _ _ (callWith _ _ _ _ _) _)); first
    | with_reducible refine W_withBuiltin rfl rfl ?_
    | with_reducible refine W_withType rfl rfl ?_)
  | with_reducible refine W_part_none ?_
  | with_reducible refine W_part_some ?_
  | ((with_reducible refine' And.intro (a := List.length _ ≤ sizeLine) ?hsz ?_); (case hsz => walk_at "sz"); intro _)
  | ((with_reducible refine' W_loadName ?F ?hx ?hv ?_); (case F => assumption); (case hx => decide +kernel); (case hv => walk_at "var"))
  | with_reducible refine W_inOrder_cons ?_
  | with_reducible refine W_inOrder_nil ?_
  | with_reducible refine W_assignName ?_
  | ((with_reducible refine' W_assignTuple ?hh ?ht ?hn ?hst ?_); (case ht => walk_at "has"); (case hh => assumption); (case hn => rfl); (case hst => rfl)))
section
structure Part where
  r : Int
  t : Bool
  ws : List Str
  ns : List Int
def PartIs (I : Led) (v : Value) (p : Part) : Prop := ∃ a tk lw lv vw vv n1 n2 n3, v = .ref a ∧ (a, tupO [.int p.r tk, .bool p.t, .ref lw, .ref lv] n1) ∈ I ∧ (lw, lstO vw n2) ∈ I ∧ Strs vw p.ws ∧ (lv, lstO vv n3) ∈ I ∧ Ints vv p.ns
theorem PartIs.mono {v : Value} {p : Part} : Mono (fun I => PartIs I v p) := fun I J h ⟨a, tk, lw, lv, vw, vv, n1, n2, n3, e, h1, h2, h3, h4, h5⟩ => ⟨a, tk, lw, lv, vw, vv, n1, n2, n3, e, h _ h1, h _ h2, h3, h _ h4, h5⟩

theorem bracketed_spec {prog : Program} {w : World} {hr : Heap} {mg mb : Vm} {f : Addr} (D : DefAt hr 8 "_law_bracketed" f .none) (R : Rt hr mg mb) {I : Led} {v : Value} {p : Part} (hp : PartIs I v p) (hsz : p.ws.length + 2 ≤ sizeLine) :
    FSpec prog w hr 1 f [v] I fun r J => PartIs J r ⟨8, p.t, ("(" : Str) :: (p.ws ++ [(")" : Str)]), p.ns⟩ := by
  obtain ⟨kV, doc, pm, an, cdv, ct, D⟩ := D
  obtain ⟨a, tk, lw, lv, vw, vv, n1, n2, n3, rfl, h1, h2, h3, h4, h5⟩ := hp
  refine FSpec.intro D R (binds := [("part", .ref a)]) (ns := ["part"]) (fun s _ => BindsTo.of_eq (by with_unfolding_all rfl)) rfl (by decide +kernel) (fun v => PartIs.mono) ?_
  intro C _ _ e3 hd hu hh hX hown F
  have hsl : sizeLine = 16777216 := rfl
  have hvl := h3.length
  refine W_execs_cons (st := ?st) (rest := ?rest) ?_
  repeat walk_at "w1"
  refine ⟨_, rfl, _, _, _, _, _, _, _, _, _, rfl, .head _, by walk_at "mem", ?_, by walk_at "mem", h5⟩
  simp only [Strs, List.map_append, List.map_cons, List.map_nil, h3, strV, List.append_assoc, List.cons_append, List.nil_append] at h3 ⊢
end
section
def applyF (op : Str) (a b : Int) : Int :=
  if op ∈ [Str.ofString "||", Str.ofString "&&"] then (if op == Str.ofString "||" then max a b else min a b)
  else if op ∈ [Str.ofString "+", Str.ofString "-", Str.ofString "*"] then (if op == Str.ofString "+" then a + b else if op == Str.ofString "-" then a - b else a * b)
  else if op ∈ [Str.ofString "/", Str.ofString "//", Str.ofString "%"] then (if op == Str.ofString "%" then a.fmod b else a.fdiv b)
  else if op ∈ [Str.ofString "==", Str.ofString "!="] then (if (a == b) == (op == Str.ofString "==") then 1 else 0)
  else if op ∈ [Str.ofString "<", Str.ofString ">="] then (if (decide (a < b)) == (op == Str.ofString "<") then 1 else 0)
  else (if (decide (b < a)) == (op == Str.ofString ">") then 1 else 0)

structure ApplyOk (op : Str) (a b : Int) : Prop where
  mul : op = Str.ofString "*" → IntMulOk a b
  div : op ∈ [Str.ofString "/", Str.ofString "//", Str.ofString "%"] → b ≠ 0 ∧ Builtin.divisionGoesByPylong a b = false

set_option maxHeartbeats 2000000 in
theorem apply_spec {prog : Program} {w : World} {hr : Heap} {mg mb : Vm} {p1 p2 p3 p4 p5 p6 p7 p8 : Addr} {f : Addr} (G : Gl mg mb p1 p2 p3 p4 p5 p6 p7 p8) (D : DefAt hr 7 "_law_apply" f .none) (R : Rt hr mg mb) {I : Led} {op : Str} {a b : Int} {t u v : Tok} (ok : ApplyOk op a b) :
    FSpec prog w hr 1 f [.str op t, .int a u, .int b v] I fun r J => ∃ t, r = .int (applyF op a b) t := by
  obtain ⟨kV, doc, pm, an, cdv, ct, D⟩ := D
  refine FSpec.intro D R (binds := [("op", .str op t), ("a", .int a u), ("b", .int b v)]) (ns := ["op", "a", "b"]) (fun s _ => BindsTo.of_eq (by with_unfolding_all rfl)) rfl (by decide +kernel) (fun v => fun _ _ _ h => h) ?_
  intro C _ _ e3 hd hu hh hX hown F
  have hsl : sizeLine = 16777216 := rfl
  rw [← e3] at R
  refine W_execs_cons (st := ?st) (rest := ?rest) ?_
  repeat walk_at "w1"
  unfold applyF
  by_cases h1 : op ∈ [Str.ofString "||", Str.ofString "&&"]
  · rw [if_pos (decide_eq_true h1), if_pos h1]
    repeat walk_at "w1"
    by_cases h2 : (op == Str.ofString "||") = true
    · rw [if_pos h2, if_pos h2]
      repeat walk_at "w1"
      exact ⟨_, rfl, _, rfl⟩
    · rw [if_neg h2, if_neg h2]
      repeat walk_at "w1"
      exact ⟨_, rfl, _, rfl⟩
  rw [if_neg (by simpa using h1), if_neg h1]
  repeat walk_at "w1"
  by_cases h2 : op ∈ [Str.ofString "+", Str.ofString "-", Str.ofString "*"]
  · rw [if_pos (decide_eq_true h2), if_pos h2]
    repeat walk_at "w1"
    by_cases h3 : (op == Str.ofString "+") = true
    · rw [if_pos h3, if_pos h3]
      repeat walk_at "w1"
      exact ⟨_, rfl, _, rfl⟩
    rw [if_neg h3, if_neg h3]
    repeat walk_at "w1"
    by_cases h4 : (op == Str.ofString "-") = true
    · rw [if_pos h4, if_pos h4]
      repeat walk_at "w1"
      exact ⟨_, rfl, _, rfl⟩
    rw [if_neg h4, if_neg h4]
    repeat walk_at "w1"
    have h5 : op = Str.ofString "*" := by
      simp only [List.mem_cons, List.not_mem_nil, or_false] at h2
      rcases h2 with e | e | e
      · exact absurd (beq_iff_eq.mpr e) h3
      · exact absurd (beq_iff_eq.mpr e) h4
      · exact e
    refine W_mul (ok.mul h5) fun _ => ?_
    exact ⟨_, rfl, _, rfl⟩
  rw [if_neg (by simpa using h2), if_neg h2]
  repeat walk_at "w1"
  by_cases h3 : op ∈ [Str.ofString "/", Str.ofString "//", Str.ofString "%"]
  · rw [if_pos (decide_eq_true h3), if_pos h3]
    have hq := ok.div h3
    repeat walk_at "w1"
    by_cases h4 : (op == Str.ofString "%") = true
    · rw [if_pos h4, if_pos h4]
      repeat walk_at "w1"
      refine W_mod hq.1 fun _ => ?_
      exact ⟨_, rfl, _, rfl⟩
    rw [if_neg h4, if_neg h4]
    repeat walk_at "w1"
    refine W_div hq.1 hq.2 fun _ => ?_
    exact ⟨_, rfl, _, rfl⟩
  rw [if_neg (by simpa using h3), if_neg h3]
  repeat walk_at "w1"
  by_cases h4 : op ∈ [Str.ofString "==", Str.ofString "!="]
  · rw [if_pos (decide_eq_true h4), if_pos h4]
    repeat walk_at "w1"
    exact ⟨_, rfl, _, rfl⟩
  rw [if_neg (by simpa using h4), if_neg h4]
  repeat walk_at "w1"
  by_cases h5 : op ∈ [Str.ofString "<", Str.ofString ">="]
  · rw [if_pos (decide_eq_true h5), if_pos h5]
    repeat walk_at "w1"
    exact ⟨_, rfl, _, rfl⟩
  rw [if_neg (by simpa using h5), if_neg h5]
  repeat walk_at "w1"
  exact ⟨_, rfl, _, rfl⟩
end
section
def zeroP : Part := ⟨8, true, [Str.ofString "0"], [0, 0, 0, 0, 0, 0]⟩
def bracketF (p : Part) : Part := ⟨8, p.t, Str.ofString "(" :: (p.ws ++ [Str.ofString ")"]), p.ns⟩
def pairG (r : Int) (op : Str) (p0 q0 : Part) : Part :=
  let p := if p0.r < r then bracketF p0 else p0
  let q := if q0.r ≤ r then bracketF q0 else q0
  ⟨r, decide (r ≤ 5), p.ws ++ [op] ++ q.ws, (List.range 6).map fun k => applyF op (p.ns.getD k 0) (q.ns.getD k 0)⟩
def truthF (p : Part) : Part := if p.t then p else pairG 4 (Str.ofString "!=") p zeroP
def pairF (r : Int) (op : Str) (p q : Part) : Part := if r ≤ 2 then pairG r op (truthF p) (truthF q) else pairG r op p q

def rowsL : List Str := [Str.ofString "", Str.ofString "||", Str.ofString "&&", Str.ofString "", Str.ofString "== !=", Str.ofString "< > <= >=", Str.ofString "+ -", Str.ofString "* / %"]
def RankIs (op : Str) (r : Nat) : Prop := (List.range 8).filter (fun k => decide (op ∈ Txt.words (rowsL.getD k (Str.ofString "")))) = [r]


theorem getD_some {l : List Int} {k : Nat} (h : k < l.length) : l[k]? = some (l.getD k 0) := by simp [List.getD, List.getElem?_eq_getElem h]
set_option maxHeartbeats 2000000 in
theorem pair_end {C : Cx} {mg mb : Vm} {p1 p2 p3 p4 p5 p6 p7 p8 : Addr} (G : Gl mg mb p1 p2 p3 p4 p5 p6 p7 p8) (Da : DefAt C.hr 7 "_law_apply" p2 .none) (R : Rt C.hr mg mb)
    {I : Led} {m : Vm} {op : Str} {t tr : Tok} {vl vr : Value} {p q : Part} {r : Nat} (F : Fe C (scopeOf (stmtAt 9))) (hh : C.A.handled = none) (hX : C.X = []) (hd : C.A.depth + 1 < recursionLimit) (hu : C.A.units + 8 + 100 < cLine)
    (m1 : m (Str.ofString "op") = some (.str op t)) (m2 : m (Str.ofString "rank") = some (.int (r : Int) tr)) (m3 : m (Str.ofString "left") = some vl) (m4 : m (Str.ofString "right") = some vr)
    (hl : PartIs I vl p) (hq : PartIs I vr q) (hpl : p.ns.length = 6) (hql : q.ns.length = 6) (hsz : p.ws.length + q.ws.length + 10 ≤ sizeLine)
    (ok : ∀ k, k < 6 → ApplyOk op (p.ns.getD k 0) (q.ns.getD k 0)) :
    W C m I [] (execs (List.drop 6 (bodyOf (stmtAt 9))) C.env) fun fl m' I' Mu' => ∃ v, fl = .ret v ∧ PartIs I' v ⟨r, decide ((r : Int) ≤ 5), p.ws ++ [op] ++ q.ws, (List.range 6).map fun k => applyF op (p.ns.getD k 0) (q.ns.getD k 0)⟩ := by
  have hsl : sizeLine = 16777216 := rfl
  have hcl : cLine = 9900 := rfl
  obtain ⟨a, tk, lw, lv, vw, vv, n1, n2, n3, rfl, g1, g2, g3, g4, g5⟩ := id hl
  obtain ⟨a', tk', lw', lv', vw', vv', n1', n2', n3', rfl, g1', g2', g3', g4', g5'⟩ := id hq
  have s3 := g3.length
  have s3' := g3'.length
  refine W.gen fun K' hK => ?_
  refine W_execs_cons (st := ?st) (rest := ?rest) ?_
  refine W_AssignComp F hh hX (cap := ["op", "left", "right"]) (by decide +kernel) (fun _ => rfl) (by decide +kernel) (swaps_comp F (by decide +kernel) (by decide +kernel) (by decide +kernel)) ?_
  repeat walk_at "w1"
  refine W_rangeZ (n := 6) rfl ?_
  intro ra rt rv
  refine W_iter_range (n := 6) (by decide) (by walk_at "has") ?_
  intro it
  refine ⟨it, _, _, rangeSrc _ 6, fun i ys J => Ints ys ((List.range i).map fun k => applyF op (p.ns.getD k 0) (q.ns.getD k 0)), rfl, rfl, rfl, by show 6 ≤ _; omega, rfl, fun ys _ _ _ h => h, ?_, ?_⟩
  · intro C2 f1 f2 f3 f4 F2 i v ys I' Mu' hi hsub hP hInv
    obtain ⟨tki, rfl⟩ := hP
    have hi6 : i < 6 := hi
    refine W_tests_nil ?_
    rw [if_pos rfl]
    refine W.gen fun K' hK => ?_
    rw [← f3] at R Da
    have g1 := hsub _ (List.mem_cons_of_mem _ g1)
    have g4 := hsub _ (List.mem_cons_of_mem _ g4)
    have g1' := hsub _ (List.mem_cons_of_mem _ g1')
    have g4' := hsub _ (List.mem_cons_of_mem _ g4')
    obtain ⟨t5, e5⟩ := g5.get (getD_some (l := p.ns) (k := i) (by omega))
    obtain ⟨t5', e5'⟩ := g5'.get (getD_some (l := q.ns) (k := i) (by omega))
    repeat walk_at "w1"
    refine W_withDef' Da rfl ?_
    repeat walk_at "w1"
    refine W_itemL (i := (i : Int)) rfl (Or.inl g4) (by omega) (by omega) (by simpa using e5) ?_
    repeat walk_at "w1"
    refine W_itemL (i := (i : Int)) rfl (Or.inl g4') (by omega) (by omega) (by simpa using e5') ?_
    repeat walk_at "w1"
    refine W_call (apply_spec G Da R (ok i hi6)) (by rw [f4]; exact hh) (by rw [f4]; exact hd) (by rw [f4]; omega) ?_
    rintro w J ⟨t6, rfl⟩
    refine hK _ _ _ _ ⟨rfl, rfl, fun p hp => List.mem_append.mpr (.inr (hsub p hp)), ?_⟩
    show Ints _ ((List.range (i + 1)).map _)
    rw [List.range_succ, List.map_append]
    exact hInv.append' (.cons' .nil')
  intro acc ys n J hInv
  have hI6 : Ints ys ((List.range 6).map fun k => applyF op (p.ns.getD k 0) (q.ns.getD k 0)) := hInv
  repeat walk_at "w1"
  refine hK _ _ _ _ ⟨_, rfl, _, _, _, _, _, _, _, _, _, rfl, List.mem_cons_self, by walk_at "mem", ?_, by walk_at "mem", hI6⟩
  walk_at "strs"

set_option maxHeartbeats 2000000 in
theorem pair_tail {C : Cx} {mg mb : Vm} {p1 p2 p3 p4 p5 p6 p7 p8 : Addr} (G : Gl mg mb p1 p2 p3 p4 p5 p6 p7 p8) (Da : DefAt C.hr 7 "_law_apply" p2 .none) (Db : DefAt C.hr 8 "_law_bracketed" p3 .none) (R : Rt C.hr mg mb)
    {I : Led} {m : Vm} {op : Str} {t tr : Tok} {vl vr : Value} {p q : Part} {r : Nat} (F : Fe C (scopeOf (stmtAt 9))) (hh : C.A.handled = none) (hX : C.X = []) (hown : C.own = C.vars) (hd : C.A.depth + 1 < recursionLimit) (hu : C.A.units + 8 + 100 < cLine)
    (m1 : m (Str.ofString "op") = some (.str op t)) (m2 : m (Str.ofString "rank") = some (.int (r : Int) tr)) (m3 : m (Str.ofString "left") = some vl) (m4 : m (Str.ofString "right") = some vr)
    (hl : PartIs I vl p) (hq : PartIs I vr q) (hpl : p.ns.length = 6) (hql : q.ns.length = 6) (hsz : p.ws.length + q.ws.length + 20 ≤ sizeLine)
    (ok : ∀ k, k < 6 → ApplyOk op (p.ns.getD k 0) (q.ns.getD k 0)) :
    W C m I [] (execs (List.drop 4 (bodyOf (stmtAt 9))) C.env) fun fl m' I' Mu' => ∃ v, fl = .ret v ∧ PartIs I' v (pairG r op p q) := by
  have hsl : sizeLine = 16777216 := rfl
  have hcl : cLine = 9900 := rfl
  unfold pairG
  refine W_cut (st := ?st) (rest := ?rest) (fun m' I' Mu' => Mu' = [] ∧ m' (Str.ofString "op") = some (.str op t) ∧ m' (Str.ofString "rank") = some (.int (r : Int) tr) ∧ m' (Str.ofString "right") = some vr ∧ PartIs I' vr q ∧
    ∃ vl', m' (Str.ofString "left") = some vl' ∧ PartIs I' vl' (if p.r < r then bracketF p else p)) ?_ ?_
  · refine W.gen fun K' hK => ?_
    obtain ⟨a, tk, lw, lv, vw, vv, n1, n2, n3, rfl, g1, g2, g3, g4, g5⟩ := id hl
    repeat walk_at "w1"
    by_cases hc : p.r < r
    · rw [if_pos (decide_eq_true hc)]
      repeat walk_at "w1"
      refine W_withDef' Db rfl ?_
      repeat walk_at "w1"
      refine W_call (bracketed_spec Db R hl (by omega)) hh hd hu ?_
      intro w J hw
      repeat walk_at "w1"
      exact hK _ _ _ _ ⟨rfl, rfl, by walk_at "var", by walk_at "var", by walk_at "var", PartIs.mono _ _ (fun p hp => List.mem_append.mpr (.inr hp)) hq, w, by walk_at "var", by rw [if_pos hc]; exact hw⟩
    · rw [if_neg (by simpa using hc)]
      repeat walk_at "w1"
      exact hK _ _ _ _ ⟨rfl, rfl, m1, m2, m4, hq, _, m3, by rw [if_neg hc]; exact hl⟩
  rintro m' I' Mu' ⟨rfl, k1, k2, k4, hq', vl', k3, hl'⟩
  have hpl' : (if p.r < r then bracketF p else p).ns = p.ns := by split <;> rfl
  have hpw' : (if p.r < r then bracketF p else p).ws.length ≤ p.ws.length + 2 := by split <;> simp [bracketF]
  refine W_cut (fun m' I' Mu' => Mu' = [] ∧ m' (Str.ofString "op") = some (.str op t) ∧ m' (Str.ofString "rank") = some (.int (r : Int) tr) ∧ m' (Str.ofString "left") = some vl' ∧ PartIs I' vl' (if p.r < r then bracketF p else p) ∧
    ∃ vr', m' (Str.ofString "right") = some vr' ∧ PartIs I' vr' (if q.r ≤ r then bracketF q else q)) ?_ ?_
  · refine W.gen fun K' hK => ?_
    obtain ⟨a, tk, lw, lv, vw, vv, n1, n2, n3, rfl, g1, g2, g3, g4, g5⟩ := id hq'
    repeat walk_at "w1"
    by_cases hc : q.r ≤ r
    · rw [if_pos (decide_eq_true hc)]
      repeat walk_at "w1"
      refine W_withDef' Db rfl ?_
      repeat walk_at "w1"
      refine W_call (bracketed_spec Db R hq' (by omega)) hh hd hu ?_
      intro w J hw
      repeat walk_at "w1"
      exact hK _ _ _ _ ⟨rfl, rfl, by walk_at "var", by walk_at "var", by walk_at "var", PartIs.mono _ _ (fun p hp => List.mem_append.mpr (.inr hp)) hl', w, by walk_at "var", by rw [if_pos hc]; exact hw⟩
    · rw [if_neg (by simpa using hc)]
      repeat walk_at "w1"
      exact hK _ _ _ _ ⟨rfl, rfl, k1, k2, k3, hl', _, k4, by rw [if_neg hc]; exact hq'⟩
  rintro m'' I'' Mu'' ⟨rfl, j1, j2, j3, hl'', vr', j4, hq''⟩
  have hql' : (if q.r ≤ r then bracketF q else q).ns = q.ns := by split <;> rfl
  have hqw' : (if q.r ≤ r then bracketF q else q).ws.length ≤ q.ws.length + 2 := by split <;> simp [bracketF]
  exact pair_end G Da R F hh hX hd hu j1 j2 j3 j4 hl'' hq'' (by rw [hpl']; exact hpl) (by rw [hql']; exact hql) (by omega) (by rw [hpl', hql']; exact ok)
end
section
set_option maxHeartbeats 4000000 in
/-- the head of the def: what rank comes out -/
theorem pair_head {C : Cx} {mg mb : Vm} {p1 p2 p3 p4 p5 p6 p7 p8 : Addr} (G : Gl mg mb p1 p2 p3 p4 p5 p6 p7 p8) (R : Rt C.hr mg mb) {I : Led} {m : Vm} {op : Str} {t : Tok} {vl vr : Value} {r : Nat} (hrk : RankIs op r)
    (F : Fe C (scopeOf (stmtAt 9))) (hh : C.A.handled = none) (hX : C.X = []) (hown : C.own = C.vars)
    (m1 : m (Str.ofString "op") = some (.str op t)) (m3 : m (Str.ofString "left") = some vl) (m4 : m (Str.ofString "right") = some vr) {KF : Flow → Vm → Led → Led → Prop}
    (k : ∀ m' I' tr, (∀ p ∈ I, p ∈ I') → m' (Str.ofString "op") = some (.str op t) → m' (Str.ofString "rank") = some (.int (r : Int) tr) → m' (Str.ofString "left") = some vl → m' (Str.ofString "right") = some vr → W C m' I' [] (execs (List.drop 2 (bodyOf (stmtAt 9))) C.env) KF) :
    W C m I [] (execs (bodyOf (stmtAt 9)) C.env) KF := by
  have hsl : sizeLine = 16777216 := rfl
  have hrow : ∀ i, i < 8 → (rowsL.getD i (Str.ofString "")).length ≤ 20 ∧ (Builtin.Str.spaceWords (rowsL.getD i (Str.ofString "")) ((rowsL.getD i (Str.ofString "")).length + 1)).length ≤ 20 := by decide +kernel
  refine W_execs_cons ?_
  refine W_mid (fun m' I' Mu' => Mu' = [] ∧ m' (Str.ofString "op") = some (.str op t) ∧ m' (Str.ofString "left") = some vl ∧ m' (Str.ofString "right") = some vr ∧ (∀ p ∈ I, p ∈ I') ∧
    ∃ ar vrows, m' (Str.ofString "rows") = some (.ref ar) ∧ (ar, lstO vrows) ∈ I' ∧ Strs vrows rowsL) ?_ ?_
  · refine W.gen fun K' hK => ?_
    repeat walk_at "w1"
    exact hK _ _ _ _ ⟨rfl, rfl, by walk_at "var", by walk_at "var", by walk_at "var", fun p hp => List.mem_cons_of_mem _ hp, _, _, by walk_at "var", List.mem_cons_self, by unfold rowsL; walk_at "strs"⟩
  rintro m' I' Mu' ⟨rfl, k1, k3, k4, hsubI, ar, vrows, kr, har, hrs⟩
  refine W_cut (fun m'' I'' Mu'' => Mu'' = [] ∧ m'' (Str.ofString "op") = some (.str op t) ∧ m'' (Str.ofString "left") = some vl ∧ m'' (Str.ofString "right") = some vr ∧ (∀ p ∈ I, p ∈ I'') ∧
    ∃ tr, m'' (Str.ofString "rank") = some (.int (r : Int) tr)) ?_ ?_
  · refine W.gen fun K' hK => ?_
    repeat walk_at "w1"
    refine W_ListComp F hh hX (cap := ["op", "rows"]) (by decide +kernel) (fun _ => rfl) ?_
    repeat walk_at "w1"
    refine W_rangeZ (n := 8) rfl ?_
    intro ra rt rv
    refine W_iter_range (n := 8) (by decide) (by walk_at "has") ?_
    intro it
    refine ⟨it, _, _, rangeSrc _ 8, fun i ys J => Ints ys (((List.range i).filter (fun k => decide (op ∈ Txt.words (rowsL.getD k (Str.ofString ""))))).map fun (k : Nat) => (k : Int)), rfl, rfl, rfl, by show 8 ≤ _; omega, rfl, fun ys _ _ _ h => h, ?_, ?_⟩
    · intro C2 f1 f2 f3 f4 F2 i v ys I2 Mu' hi hsub hP hInv
      obtain ⟨tk, rfl⟩ := hP
      have hi8 : i < 8 := hi
      refine W_tests_one ?_
      repeat walk_at "w1"
      have hx : rowsL[i]? = some (rowsL.getD i (Str.ofString "")) := by
        have hlt : i < rowsL.length := by simpa [rowsL] using hi8
        simp [List.getD, List.getElem?_eq_getElem hlt]
      obtain ⟨tx, htx⟩ := hrs.get hx
      have hmem := hsub _ (List.mem_cons_of_mem _ har)
      refine W_itemL (i := (i : Int)) rfl (Or.inl hmem) (by omega) (by omega) (by rw [Int.toNat_natCast]; exact htx) ?_
      refine Meth_str PySem.F.slot_str_split PySem.F.type_str_split ?_
      refine W_with0 ?_
      have hrw := hrow i hi8
      refine W_split (by have := hrw.1; omega) (by have := hrw.2; omega) ?_
      intro aw vw hw
      repeat walk_at "w1"
      by_cases hin : op ∈ Txt.words (rowsL.getD i (Str.ofString ""))
      · rw [if_pos (decide_eq_true hin)]
        repeat walk_at "w1"
        refine ⟨rfl, rfl, fun p hp => List.mem_cons_of_mem _ (hsub p hp), ?_⟩
        show Ints _ (((List.range (i + 1)).filter _).map _)
        rw [List.range_succ, List.filter_append, List.map_append]
        refine hInv.append' ?_
        rw [List.filter_cons, if_pos (decide_eq_true hin)]
        exact .cons' .nil'
      · rw [if_neg (by simpa using hin)]
        refine ⟨rfl, rfl, fun p hp => List.mem_cons_of_mem _ (hsub p hp), ?_⟩
        show Ints _ (((List.range (i + 1)).filter _).map _)
        rw [List.range_succ, List.filter_append, List.map_append, List.filter_cons, if_neg (by simpa using hin)]
        simpa using hInv
    intro acc ys n J hInv
    have hys : ∃ tr, ys = [.int (r : Int) tr] := by
      have h8 : Ints ys (((List.range 8).filter (fun k => decide (op ∈ Txt.words (rowsL.getD k (Str.ofString ""))))).map fun (k : Nat) => (k : Int)) := hInv
      unfold RankIs at hrk
      rw [hrk] at h8
      obtain ⟨tr, h0⟩ := h8.get (i := 0) rfl
      have hlen := h8.length
      match ys, hlen, h0 with
      | [y], _, h0 => exact ⟨tr, by simpa using h0⟩
    obtain ⟨tr, rfl⟩ := hys
    clear hInv
    repeat walk_at "w1"
    exact hK _ _ _ _ ⟨rfl, rfl, by walk_at "var", by walk_at "var", by walk_at "var", fun p hp => List.mem_cons_of_mem _ (List.mem_append.mpr (.inr (List.mem_cons_of_mem _ (hsubI p hp)))), _, by walk_at "var"⟩
  rintro m'' I'' Mu'' ⟨rfl, j1, j3, j4, hs, tr, jr⟩
  exact k m'' I'' tr hs j1 jr j3 j4
end
section
theorem W_mulLZ {C : Cx} {m : Vm} {I Mu : Led} {K : Value → Vm → Led → Led → Prop} {l : Addr} {vs : List Value} {n : Nat} {j : Nat} {z : Int} {u : Tok} (hz : z = (j : Int)) (hl : Has I Mu l (lstO vs n)) (hne : vs ≠ []) (hj : (j : Int) < 2 ^ 63) (hsz : vs.length * j ≤ 2 ^ 24)
    (k : ∀ c, K (.ref c) m ((c, lstO ((List.replicate j vs).flatten)) :: I) Mu) : W C m I Mu (binaryOp .Mult (.ref l) (.int z u)) K := by
  subst hz; exact W_mulL hl hne hj hsz k

def PairSpec (prog : Program) (w : World) (hr : Heap) (need : Nat) (f : Addr) (op : Str) (r sz : Nat) : Prop :=
  ∀ (I : Led) (t : Tok) (vl vr : Value) (p q : Part), PartIs I vl p → PartIs I vr q → p.ns.length = 6 → q.ns.length = 6 → p.ws.length + q.ws.length + sz ≤ sizeLine →
    (∀ k, k < 6 → ApplyOk op ((if r ≤ 2 then truthF p else p).ns.getD k 0) ((if r ≤ 2 then truthF q else q).ns.getD k 0)) → FSpec prog w hr need f [.str op t, vl, vr] I fun v J => PartIs J v (pairF r op p q)

theorem pairG_ns (r : Int) (op : Str) (p q : Part) : (pairG r op p q).ns.length = 6 := by simp [pairG]
theorem truthF_ns {p : Part} (h : p.ns.length = 6) : (truthF p).ns.length = 6 := by unfold truthF; split; exact h; exact pairG_ns ..
theorem truthF_ws (p : Part) : (truthF p).ws.length ≤ p.ws.length + 4 := by
  unfold truthF; split
  · omega
  · unfold pairG zeroP; simp only [List.length_append, List.length_cons, List.length_nil]
    split <;> split <;> simp [bracketF] <;> omega

set_option maxHeartbeats 4000000 in
theorem pair_ifs {C : Cx} {mg mb : Vm} {p1 p2 p3 p4 p5 p6 p7 p8 : Addr} (G : Gl mg mb p1 p2 p3 p4 p5 p6 p7 p8) (D : DefAt C.hr 9 "_law_pair" p4 .none) (Da : DefAt C.hr 7 "_law_apply" p2 .none) (Db : DefAt C.hr 8 "_law_bracketed" p3 .none) (R : Rt C.hr mg mb)
    {I : Led} {m : Vm} {op : Str} {t tr : Tok} {vl vr : Value} {p q : Part} {r : Nat} (F : Fe C (scopeOf (stmtAt 9))) (hh : C.A.handled = none) (hX : C.X = []) (hown : C.own = C.vars) (hd : C.A.depth + 1 < recursionLimit) (hu : C.A.units + 8 + 100 < cLine)
    (hd2 : r ≤ 2 → C.A.depth + 2 < recursionLimit ∧ C.A.units + 16 + 100 < cLine)
    (H : r ≤ 2 → PairSpec C.prog C.w C.hr 2 p4 (Str.ofString "!=") 4 40)
    (m1 : m (Str.ofString "op") = some (.str op t)) (m2 : m (Str.ofString "rank") = some (.int (r : Int) tr)) (m3 : m (Str.ofString "left") = some vl) (m4 : m (Str.ofString "right") = some vr)
    (hl : PartIs I vl p) (hq : PartIs I vr q) (hpl : p.ns.length = 6) (hql : q.ns.length = 6) (hsz : p.ws.length + q.ws.length + 40 ≤ sizeLine) (hsz2 : r ≤ 2 → p.ws.length + q.ws.length + 100 ≤ sizeLine)
    (ok : ∀ k, k < 6 → ApplyOk op ((if r ≤ 2 then truthF p else p).ns.getD k 0) ((if r ≤ 2 then truthF q else q).ns.getD k 0)) :
    W C m I [] (execs (List.drop 2 (bodyOf (stmtAt 9))) C.env) fun fl m' I' Mu' => ∃ v, fl = .ret v ∧ PartIs I' v (pairF r op p q) := by
  have hsl : sizeLine = 16777216 := rfl
  have hcl : cLine = 9900 := rfl
  have z6 : ∀ t, Ints (List.replicate 6 [Value.int 0 t]).flatten [0, 0, 0, 0, 0, 0] := fun t => rfl
  have okn : ∀ a b, ApplyOk (Str.ofString "!=") a b := fun a b => ⟨fun e => absurd e (by decide +kernel), fun e => absurd e (by decide +kernel)⟩
  have e : pairF r op p q = pairG r op (if r ≤ 2 then truthF p else p) (if r ≤ 2 then truthF q else q) := by
    unfold pairF
    by_cases hr2 : r ≤ 2
    · rw [if_pos (by omega), if_pos hr2, if_pos hr2]
    · rw [if_neg (by omega), if_neg hr2, if_neg hr2]
  rw [e]
  have w1 := truthF_ws p
  have w2 := truthF_ws q
  have hPl : (if r ≤ 2 then truthF p else p).ns.length = 6 := by split; exact truthF_ns hpl; exact hpl
  have hQl : (if r ≤ 2 then truthF q else q).ns.length = 6 := by split; exact truthF_ns hql; exact hql
  have hPw : (if r ≤ 2 then truthF p else p).ws.length ≤ p.ws.length + 4 := by split <;> omega
  have hQw : (if r ≤ 2 then truthF q else q).ws.length ≤ q.ws.length + 4 := by split <;> omega
  generalize hP : (if r ≤ 2 then truthF p else p) = P at ok hPl hPw ⊢
  generalize hQ : (if r ≤ 2 then truthF q else q) = Q at ok hQl hQw ⊢
  refine W_cut (fun m' I' Mu' => Mu' = [] ∧ m' (Str.ofString "op") = some (.str op t) ∧ m' (Str.ofString "rank") = some (.int (r : Int) tr) ∧ m' (Str.ofString "right") = some vr ∧ PartIs I' vr q ∧
    ∃ vl', m' (Str.ofString "left") = some vl' ∧ PartIs I' vl' P) ?_ ?_
  · refine W.gen fun K' hK => ?_
    obtain ⟨a, tk, lw, lv, vw, vv, n1, n2, n3, rfl, g1, g2, g3, g4, g5⟩ := id hl
    repeat walk_at "w1"
    by_cases hr2 : r ≤ 2
    · have hrz : (r : Int) ≤ 2 := by omega
      rw [if_pos (decide_eq_true hrz)]
      repeat walk_at "w1"
      cases hpt : p.t with
      | true =>
        have eP : P = p := by rw [← hP, if_pos hr2]; unfold truthF; rw [hpt]; rfl
        rw [if_neg (by simp)]
        rw [if_neg (by simp)]
        repeat walk_at "w1"
        exact hK _ _ _ _ ⟨rfl, rfl, m1, m2, m4, hq, _, m3, eP ▸ hl⟩
      | false =>
        rw [if_pos (by simp)]
        repeat walk_at "w1"
        rw [if_pos rfl]
        repeat walk_at "w1"
        refine W_withDef' D rfl ?_
        repeat walk_at "w1"
        refine W_mulLZ (j := 6) rfl (by walk_at "has") (by simp) (by decide) (by simp) ?_
        intro c
        repeat walk_at "w1"
        refine W_call (H hr2 _ _ _ _ p zeroP (PartIs.mono _ _ (fun p hp => ?_) hl) ⟨_, _, _, _, _, _, _, _, _, rfl, List.mem_cons_self, by walk_at "mem", by unfold zeroP; walk_at "strs", by walk_at "mem", z6 _⟩ hpl rfl (by have := hsz2 hr2; show _ + 1 + 40 ≤ _; omega) (fun k hk => okn _ _)) hh (hd2 hr2).1 (hd2 hr2).2 ?_
        · walk_at "mem"
        · intro w J hw
          repeat walk_at "w1"
          refine hK _ _ _ _ ⟨rfl, rfl, by walk_at "var", by walk_at "var", by walk_at "var", PartIs.mono _ _ (fun p hp => by walk_at "mem") hq, w, by walk_at "var", ?_⟩
          rw [← hP, if_pos hr2]
          unfold truthF
          rw [hpt]
          exact hw
    · have hrz : ¬ (r : Int) ≤ 2 := by omega
      rw [if_neg (by simpa using hrz)]
      rw [if_neg (by simp)]
      repeat walk_at "w1"
      exact hK _ _ _ _ ⟨rfl, rfl, m1, m2, m4, hq, _, m3, (show P = p by rw [← hP, if_neg hr2]) ▸ hl⟩
  rintro m' I' Mu' ⟨rfl, k1, k2, k4, hq', vl', k3, hl'⟩
  refine W_cut (fun m' I' Mu' => Mu' = [] ∧ m' (Str.ofString "op") = some (.str op t) ∧ m' (Str.ofString "rank") = some (.int (r : Int) tr) ∧ m' (Str.ofString "left") = some vl' ∧ PartIs I' vl' P ∧
    ∃ vr', m' (Str.ofString "right") = some vr' ∧ PartIs I' vr' Q) ?_ ?_
  · refine W.gen fun K' hK => ?_
    obtain ⟨a, tk, lw, lv, vw, vv, n1, n2, n3, rfl, g1, g2, g3, g4, g5⟩ := id hq'
    repeat walk_at "w1"
    by_cases hr2 : r ≤ 2
    · have hrz : (r : Int) ≤ 2 := by omega
      rw [if_pos (decide_eq_true hrz)]
      repeat walk_at "w1"
      cases hpt : q.t with
      | true =>
        have eQ : Q = q := by rw [← hQ, if_pos hr2]; unfold truthF; rw [hpt]; rfl
        rw [if_neg (by simp)]
        rw [if_neg (by simp)]
        repeat walk_at "w1"
        exact hK _ _ _ _ ⟨rfl, rfl, k1, k2, k3, hl', _, k4, eQ ▸ hq'⟩
      | false =>
        rw [if_pos (by simp)]
        repeat walk_at "w1"
        rw [if_pos rfl]
        repeat walk_at "w1"
        refine W_withDef' D rfl ?_
        repeat walk_at "w1"
        refine W_mulLZ (j := 6) rfl (by walk_at "has") (by simp) (by decide) (by simp) ?_
        intro c
        repeat walk_at "w1"
        refine W_call (H hr2 _ _ _ _ q zeroP (PartIs.mono _ _ (fun p hp => ?_) hq') ⟨_, _, _, _, _, _, _, _, _, rfl, List.mem_cons_self, by walk_at "mem", by unfold zeroP; walk_at "strs", by walk_at "mem", z6 _⟩ hql rfl (by have := hsz2 hr2; show _ + 1 + 40 ≤ _; omega) (fun k hk => okn _ _)) hh (hd2 hr2).1 (hd2 hr2).2 ?_
        · walk_at "mem"
        · intro w J hw
          repeat walk_at "w1"
          refine hK _ _ _ _ ⟨rfl, rfl, by walk_at "var", by walk_at "var", by walk_at "var", PartIs.mono _ _ (fun p hp => by walk_at "mem") hl', w, by walk_at "var", ?_⟩
          rw [← hQ, if_pos hr2]
          unfold truthF
          rw [hpt]
          exact hw
    · have hrz : ¬ (r : Int) ≤ 2 := by omega
      rw [if_neg (by simpa using hrz)]
      rw [if_neg (by simp)]
      repeat walk_at "w1"
      exact hK _ _ _ _ ⟨rfl, rfl, k1, k2, k3, hl', _, k4, (show Q = q by rw [← hQ, if_neg hr2]) ▸ hq'⟩
  rintro m'' I'' Mu'' ⟨rfl, j1, j2, j3, hl'', vr', j4, hq''⟩
  exact pair_tail G Da Db R F hh hX hown hd hu j1 j2 j3 j4 hl'' hq'' hPl hQl (by omega) ok

theorem rank_ne : RankIs (Str.ofString "!=") 4 := by unfold RankIs; decide +kernel

set_option maxHeartbeats 4000000 in
theorem pair_spec2 {prog : Program} {w : World} {hr : Heap} {mg mb : Vm} {p1 p2 p3 p4 p5 p6 p7 p8 : Addr} (G : Gl mg mb p1 p2 p3 p4 p5 p6 p7 p8) (D : DefAt hr 9 "_law_pair" p4 .none) (Da : DefAt hr 7 "_law_apply" p2 .none) (Db : DefAt hr 8 "_law_bracketed" p3 .none) (R : Rt hr mg mb)
    {op : Str} {r : Nat} (hrk : RankIs op r) (h2 : ¬ r ≤ 2) : PairSpec prog w hr 2 p4 op r 40 := by
  intro I t vl vr p q hl hq hpl hql hsz ok
  obtain ⟨kV, doc, pm, an, cdv, ct, D'⟩ := id D
  refine FSpec.intro D' R (binds := [("op", .str op t), ("left", vl), ("right", vr)]) (ns := ["op", "left", "right"]) (fun s _ => BindsTo.of_eq (by with_unfolding_all rfl)) rfl (by decide +kernel) (fun v => PartIs.mono) ?_
  intro C _ _ e3 hd hu hh hX hown F
  rw [← e3] at R D Da Db
  refine pair_head (vl := vl) (vr := vr) (t := t) G R hrk F hh hX hown ?_ ?_ ?_ ?_
  · rfl
  · rfl
  · rfl
  intro m' I' tr hs k1 k2 k3 k4
  exact pair_ifs G D Da Db R F hh hX hown (by omega) (by omega) (fun h => absurd h h2) (fun h => absurd h h2) k1 k2 k3 k4 (PartIs.mono _ _ hs hl) (PartIs.mono _ _ hs hq) hpl hql hsz (fun h => absurd h h2) ok
set_option maxHeartbeats 4000000 in
theorem pair_spec3 {prog : Program} {w : World} {hr : Heap} {mg mb : Vm} {p1 p2 p3 p4 p5 p6 p7 p8 : Addr} (G : Gl mg mb p1 p2 p3 p4 p5 p6 p7 p8) (D : DefAt hr 9 "_law_pair" p4 .none) (Da : DefAt hr 7 "_law_apply" p2 .none) (Db : DefAt hr 8 "_law_bracketed" p3 .none) (R : Rt hr mg mb)
    {op : Str} {r : Nat} (hrk : RankIs op r) : PairSpec prog w hr 3 p4 op r 100 := by
  intro I t vl vr p q hl hq hpl hql hsz ok
  obtain ⟨kV, doc, pm, an, cdv, ct, D'⟩ := id D
  refine FSpec.intro D' R (binds := [("op", .str op t), ("left", vl), ("right", vr)]) (ns := ["op", "left", "right"]) (fun s _ => BindsTo.of_eq (by with_unfolding_all rfl)) rfl (by decide +kernel) (fun v => PartIs.mono) ?_
  intro C e1 e2 e3 hd hu hh hX hown F
  rw [← e3] at R D Da Db
  refine pair_head (vl := vl) (vr := vr) (t := t) G R hrk F hh hX hown ?_ ?_ ?_ ?_
  · rfl
  · rfl
  · rfl
  intro m' I' tr hs k1 k2 k3 k4
  exact pair_ifs G D Da Db R F hh hX hown (by omega) (by omega) (fun _ => ⟨by omega, by omega⟩) (fun _ => pair_spec2 G D Da Db R rank_ne (by omega)) k1 k2 k3 k4 (PartIs.mono _ _ hs hl) (PartIs.mono _ _ hs hq) hpl hql (by omega) (fun _ => hsz) ok
end
section
structure CutSt where
  P : List (List Str)
  L : List Str
  S : List Str
  d : Int
def dep (w : Str) : Int := b2i (w == Str.ofString "(") - b2i (w == Str.ofString ")")
def cutStep (ms : List Str) (s : CutSt) (w : Str) : CutSt :=
  if s.d + dep w = 0 ∧ w ∈ ms then ⟨s.P ++ [s.L], [], s.S ++ [w], s.d + dep w⟩ else ⟨s.P, s.L ++ [w], s.S, s.d + dep w⟩
def cutF (ms ws : List Str) : CutSt := ws.foldl (cutStep ms) ⟨[], [], [], 0⟩

def LsIs (I : Led) : List Value → List (List Str) → Prop
  | [], [] => True
  | r :: rs, w :: ws => (∃ a v n, r = .ref a ∧ (a, lstO v n) ∈ I ∧ Strs v w) ∧ LsIs I rs ws
  | _, _ => False
theorem LsIs.mono {I J : Led} (h : ∀ p ∈ I, p ∈ J) : ∀ {rs : List Value} {ws : List (List Str)}, LsIs I rs ws → LsIs J rs ws
  | [], [], _ => trivial
  | _ :: _, _ :: _, ⟨⟨a, v, n, e, m, s⟩, r⟩ => ⟨⟨a, v, n, e, h _ m, s⟩, LsIs.mono h r⟩
  | [], _ :: _, x => x
  | _ :: _, [], x => x
theorem LsIs.snoc {I : Led} {a : Addr} {v : List Value} {n : Nat} {w : List Str} (hm : (a, lstO v n) ∈ I) (hs : Strs v w) : ∀ {rs : List Value} {ws : List (List Str)}, LsIs I rs ws → LsIs I (rs ++ [.ref a]) (ws ++ [w])
  | [], [], _ => ⟨⟨a, v, n, rfl, hm, hs⟩, trivial⟩
  | _ :: _, _ :: _, ⟨x, r⟩ => ⟨x, LsIs.snoc hm hs r⟩
  | [], _ :: _, x => x.elim
  | _ :: _, [], x => x.elim
theorem LsIs.length {I : Led} : ∀ {rs : List Value} {ws : List (List Str)}, LsIs I rs ws → rs.length = ws.length
  | [], [], _ => rfl
  | _ :: _, _ :: _, ⟨_, r⟩ => by simp [LsIs.length r]
  | [], _ :: _, x => x.elim
  | _ :: _, [], x => x.elim
def CutIs (I : Led) (v : Value) (s : CutSt) : Prop := ∃ a ap as rs sv n1 n2 n3, v = .ref a ∧ (a, tupO [.ref ap, .ref as] n1) ∈ I ∧ (ap, lstO rs n2) ∈ I ∧ LsIs I rs (s.P ++ [s.L]) ∧ (as, lstO sv n3) ∈ I ∧ Strs sv s.S
theorem CutIs.mono {v : Value} {s : CutSt} : Mono fun I => CutIs I v s := fun I J h ⟨a, ap, as, rs, sv, n1, n2, n3, e, g1, g2, g3, g4, g5⟩ => ⟨a, ap, as, rs, sv, n1, n2, n3, e, h _ g1, h _ g2, g3.mono h, h _ g4, g5⟩

theorem cutF_snoc (ms ws : List Str) (w : Str) : cutF ms (ws ++ [w]) = cutStep ms (cutF ms ws) w := by unfold cutF; rw [List.foldl_append]; rfl
theorem cut_sizes (ms : List Str) : ∀ ws : List Str, (cutF ms ws).P.length ≤ ws.length ∧ (cutF ms ws).L.length ≤ ws.length ∧ (cutF ms ws).S.length ≤ ws.length := by
  have gen : ∀ (ws : List Str) (s : CutSt) (n : Nat), s.P.length ≤ n → s.L.length ≤ n → s.S.length ≤ n → (ws.foldl (cutStep ms) s).P.length ≤ n + ws.length ∧ (ws.foldl (cutStep ms) s).L.length ≤ n + ws.length ∧ (ws.foldl (cutStep ms) s).S.length ≤ n + ws.length := by
    intro ws
    induction ws with
    | nil => intro s n h1 h2 h3; exact ⟨h1, h2, h3⟩
    | cons w ws ih =>
      intro s n h1 h2 h3
      have := ih (cutStep ms s w) (n + 1) (by unfold cutStep; split <;> simp <;> omega) (by unfold cutStep; split <;> simp <;> omega) (by unfold cutStep; split <;> simp <;> omega)
      simp only [List.foldl_cons, List.length_cons]
      omega
  intro ws
  have := gen ws ⟨[], [], [], 0⟩ 0 (by simp) (by simp) (by simp)
  simpa [cutF] using this

def CutInv (ws ms : List Str) (vw vm : Value) (i : Nat) (m : Vm) (I Mu : Led) : Prop :=
  ∃ al lv nl ap rs np as sv ns, Mu = [(al, lstO lv nl), (ap, lstO (rs ++ [.ref al]) np), (as, lstO sv ns)] ∧ m (Str.ofString "parts") = some (.ref ap) ∧ m (Str.ofString "seen") = some (.ref as) ∧
    (∃ td, m (Str.ofString "depth") = some (.int (cutF ms (ws.take i)).d td)) ∧ m (Str.ofString "marks") = some vm ∧ LsIs I rs (cutF ms (ws.take i)).P ∧ Strs lv (cutF ms (ws.take i)).L ∧ Strs sv (cutF ms (ws.take i)).S

set_option maxHeartbeats 4000000 in
theorem cut_spec {prog : Program} {w : World} {hr : Heap} {mg mb : Vm} {f : Addr} (D : DefAt hr 10 "_law_cut" f .none) (R : Rt hr mg mb) {I : Led} {lw lm : Addr} {vw vm : List Value} {n n' : Nat} {ws ms : List Str}
    (hw : (lw, lstO vw n) ∈ I) (hws : Strs vw ws) (hm : (lm, lstO vm n') ∈ I) (hms : Strs vm ms) (hsz : ws.length + 20 ≤ sizeLine) :
    FSpec prog w hr 1 f [.ref lw, .ref lm] I fun v J => CutIs J v (cutF ms ws) := by
  obtain ⟨kV, doc, pm, an, cdv, ct, D⟩ := D
  refine FSpec.intro D R (binds := [("words", .ref lw), ("marks", .ref lm)]) (ns := ["words", "marks"]) (fun s _ => BindsTo.of_eq (by with_unfolding_all rfl)) rfl (by decide +kernel) (fun v => CutIs.mono) ?_
  intro C _ _ e3 hd hu hh hX hown F
  have hsl : sizeLine = 16777216 := rfl
  have hvl := hws.length
  refine W_execs_cons ?_
  refine W_AssignSwap (names := ["parts", "seen", "depth"]) rfl (swapped_of F (by with_unfolding_all rfl)) ?_
  refine W_Tuple ?_
  refine W_items_cons rfl ?_
  refine W_ListM ?_
  refine W_items_cons rfl ?_
  refine W_ListM ?_
  refine W_items_nil ⟨by simp, ?_⟩
  intro al
  refine W_items_nil ⟨by simp; omega, ?_⟩
  intro ap
  refine W_items_cons rfl ?_
  refine W_ListM ?_
  refine W_items_nil ⟨by simp, ?_⟩
  intro as
  repeat walk_at "w1"
  refine W_unpackItems hh (by walk_at "has") rfl ?_
  refine W_inOrder_cons ?_
  refine W_bindName ?_
  repeat walk_at "w1"
  refine W_inOrder_cons ?_
  refine W_bindName ?_
  repeat walk_at "w1"
  refine W_inOrder_cons ?_
  refine W_bindName ?_
  repeat walk_at "w1"
  refine W_inOrder_nil ?_
  refine W.perm (Mu' := [(al, lstO []), (ap, lstO [Value.ref al]), (as, lstO [])]) (List.reverse_perm [(al, lstO []), (ap, lstO [Value.ref al]), (as, lstO [])]) ?_
  refine W_execs_cons ?_
  refine W_For (fun _ => rfl) ?_
  repeat walk_at "w1"
  refine W_iter_list (by walk_at "has") ?_
  intro it oi hoi
  refine W_forLoop F hh (listSrc (vs := vw) (n := n) (by walk_at "mem")) hoi (by rw [hX]; exact fun q => nomatch q) (.inl (by decide +kernel)) (CutInv ws ms (.ref lw) (.ref lm)) ?_ ?_ ?_
  · exact ⟨al, [], 0, ap, [], 0, as, [], 0, rfl, by walk_at "var", by walk_at "var", ⟨_, by walk_at "var"⟩, by walk_at "var", trivial, rfl, rfl⟩
  · intro i v m' I' Mu' o' hi hI hP hInv KT hT
    have hiv : i < vw.length := hi
    have hiw : i < ws.length := by omega
    have hP' : vw[i]? = some v := hP
    obtain ⟨tw, htw⟩ := hws.get (List.getElem?_eq_getElem hiw)
    rw [htw] at hP'
    cases hP'
    have hsp : ws.take (i + 1) = ws.take i ++ [ws[i]] := by rw [List.take_add_one, List.getElem?_eq_getElem hiw]; rfl
    have hcs := cut_sizes ms (ws.take i)
    have htk : (ws.take i).length ≤ ws.length := by simp; omega
    generalize hw' : ws[i] = w at hsp htw ⊢
    obtain ⟨al, lv, nl, ap, rs, np, as, sv, ns, rfl, k1, k2, ⟨td, k3⟩, k4, g1, g2, g3⟩ := hInv
    have hm' : (lm, lstO vm n') ∈ I' := hI _ (by walk_at "mem")
    have e1 := g2.length
    have e2 := g3.length
    have e3 := g1.length
    generalize hs : cutF ms (ws.take i) = s at k3 g1 g2 g3 hcs e1 e2 e3
    have hstep : cutF ms (ws.take (i + 1)) = cutStep ms s w := by rw [hsp, cutF_snoc, hs]
    repeat walk_at "w1"
    have hdep : s.d + (b2i (w == Str.ofString "(") - b2i (w == Str.ofString ")")) = s.d + dep w := rfl
    rw [hdep]
    by_cases hc : s.d + dep w = 0 ∧ w ∈ ms
    · rw [if_pos (by rw [hc.1]; rfl)]
      repeat walk_at "w1"
      rw [if_pos (decide_eq_true hc.2)]
      repeat walk_at "w1"
      rw [if_pos rfl]
      repeat walk_at "w1"
      refine Meth_list PySem.F.slot_list_append PySem.F.type_list_append (by walk_at "has") ?_
      refine W_with1 rfl rfl ?_
      refine W_items_cons rfl ?_
      refine W_ListM ?_
      refine W_items_nil ⟨by simp, ?_⟩
      intro an
      repeat walk_at "w1"
      refine W_append (.tail (.tail (.tail .head))) (by simp; omega) ⟨rfl, ?_⟩
      refine W.swap1 ?_
      refine W.perm (Mu' := [(al, lstO lv nl), (it, o'), (an, lstO []), (ap, lstO (rs ++ [.ref al] ++ [.ref an]) (np + 1)), (as, lstO sv ns)]) ?_ ?_
      · refine (List.Perm.cons _ (List.Perm.swap _ _ _)).trans ?_
        exact List.Perm.swap _ _ _
      refine W.freeze (by rw [hX]; exact fun q => nomatch q) ?_
      repeat walk_at "w1"
      refine Meth_list PySem.F.slot_list_append PySem.F.type_list_append (by walk_at "has") ?_
      refine W_with1 rfl rfl ?_
      repeat walk_at "w1"
      refine W_append (.tail (.tail (.tail .head))) (by omega) ⟨rfl, ?_⟩
      repeat walk_at "w1"
      refine hT _ _ _ _ ⟨_, rfl, fun p hp => List.mem_cons_of_mem _ (hI p hp), an, [], 0, ap, _, _, as, _, _, rfl, by walk_at "var", by walk_at "var", ?_, by walk_at "var", ?_, ?_, ?_⟩
      · rw [hstep]; unfold cutStep; rw [if_pos hc]; exact ⟨_, by walk_at "var"⟩
      · rw [hstep]; unfold cutStep; rw [if_pos hc]
        exact LsIs.snoc List.mem_cons_self g2 (g1.mono fun p hp => List.mem_cons_of_mem _ hp)
      · rw [hstep]; unfold cutStep; rw [if_pos hc]; rfl
      · rw [hstep]; unfold cutStep; rw [if_pos hc]
        exact g3.append' (.cons' .nil')
    · have fin : ∀ m2, m2 (Str.ofString "parts") = some (.ref ap) → m2 (Str.ofString "seen") = some (.ref as) → (∃ td, m2 (Str.ofString "depth") = some (.int (s.d + dep w) td)) → m2 (Str.ofString "marks") = some (.ref lm) →
          CutInv ws ms (.ref lw) (.ref lm) (i + 1) m2 I' [(al, lstO (lv ++ [.str w tw]) (nl + 1)), (ap, lstO (rs ++ [.ref al]) np), (as, lstO sv ns)] := by
        intro m2 q1 q2 q3 q4
        refine ⟨al, _, _, ap, _, _, as, _, _, rfl, q1, q2, ?_, q4, ?_, ?_, ?_⟩
        · rw [hstep]; unfold cutStep; rw [if_neg hc]; exact q3
        · rw [hstep]; unfold cutStep; rw [if_neg hc]; exact g1
        · rw [hstep]; unfold cutStep; rw [if_neg hc]; exact g2.append' (.cons' .nil')
        · rw [hstep]; unfold cutStep; rw [if_neg hc]; exact g3
      by_cases h0 : s.d + dep w = 0
      · rw [if_pos (by rw [h0]; rfl)]
        repeat walk_at "w1"
        rw [if_neg (by simpa using fun h => hc ⟨h0, h⟩)]
        rw [if_neg (by simp)]
        repeat walk_at "w1"
        refine W_itemNeg rfl (by walk_at "has") (v := .ref al) (by simp) ?_
        refine Meth_list PySem.F.slot_list_append PySem.F.type_list_append (by walk_at "has") ?_
        refine W_with1 rfl rfl ?_
        repeat walk_at "w1"
        refine W_append (.tail .head) (by omega) ⟨rfl, ?_⟩
        repeat walk_at "w1"
        exact hT _ _ _ _ ⟨_, rfl, hI, fin _ (by walk_at "var") (by walk_at "var") ⟨_, by walk_at "var"⟩ (by walk_at "var")⟩
      · rw [if_neg (by simpa using h0)]
        rw [if_neg (by simp)]
        repeat walk_at "w1"
        refine W_itemNeg rfl (by walk_at "has") (v := .ref al) (by simp) ?_
        refine Meth_list PySem.F.slot_list_append PySem.F.type_list_append (by walk_at "has") ?_
        refine W_with1 rfl rfl ?_
        repeat walk_at "w1"
        refine W_append (.tail .head) (by omega) ⟨rfl, ?_⟩
        repeat walk_at "w1"
        exact hT _ _ _ _ ⟨_, rfl, hI, fin _ (by walk_at "var") (by walk_at "var") ⟨_, by walk_at "var"⟩ (by walk_at "var")⟩
  · intro m' I' Mu' hI hInv
    have hn : CutInv ws ms (.ref lw) (.ref lm) ws.length m' I' Mu' := hvl ▸ hInv
    obtain ⟨al, lv, nl, ap, rs, np, as, sv, ns, rfl, k1, k2, ⟨td, k3⟩, k4, g1, g2, g3⟩ := hn
    rw [List.take_length] at g1 g2 g3
    have hf : ∀ a, a ∉ C.X := fun a => by rw [hX]; exact fun q => nomatch q
    refine W.freeze (hf _) ?_
    refine W.freeze (hf _) ?_
    refine W.freeze (hf _) ?_
    repeat walk_at "w1"
    refine ⟨_, rfl, _, ap, as, rs ++ [.ref al], sv, _, _, _, rfl, List.mem_cons_self, by walk_at "mem", ?_, by walk_at "mem", g3⟩
    exact LsIs.snoc (a := al) (v := lv) (n := nl) (by walk_at "mem") g2 (g1.mono fun p hp => by walk_at "mem")
end
section
def IFS : List Str := [Str.ofString "if", Str.ofString "else"]
def boolMk (k : Nat) : Str := if k = 0 then Str.ofString "or" else Str.ofString "and"
def CMP : List Str := [Str.ofString "==", Str.ofString "!=", Str.ofString "<", Str.ofString ">", Str.ofString "<=", Str.ofString ">="]
def opMk (k : Nat) : List Str := if k = 0 then CMP else if k = 1 then [Str.ofString "+", Str.ofString "-"] else [Str.ofString "*", Str.ofString "//", Str.ofString "%"]
def NoCut (ms ws : List Str) : Prop := (cutF ms ws).S = []
def CutSt.parts (c : CutSt) : List (List Str) := c.P ++ [c.L]
def foldOps : List Str → Int → List Int → Int
  | s :: ss, v, w :: ws => foldOps ss (applyF s v w) ws
  | _, v, _ => v
def foldOk : List Str → Int → List Int → Prop
  | s :: ss, v, w :: ws => ApplyOk s v w ∧ foldOk ss (applyF s v w) ws
  | _, _, _ => True

inductive ReadR (n : Int) : Nat → List Str → Int → Prop
  | ifT {d : Nat} {ws p0 p1 : List Str} {b v : Int} : (cutF IFS ws).S ≠ [] → (cutF IFS ws).parts[0]? = some p0 → (cutF IFS ws).parts[1]? = some p1 → ReadR n d p1 b → b ≠ 0 → ReadR n d p0 v → ReadR n (d + 1) ws v
  | ifF {d : Nat} {ws p0 p1 : List Str} {v : Int} : (cutF IFS ws).S ≠ [] → (cutF IFS ws).parts[0]? = some p0 → (cutF IFS ws).parts[1]? = some p1 → ReadR n d p1 0 → ReadR n d (ws.drop (p0.length + p1.length + 2)) v → ReadR n (d + 1) ws v
  | bool {d : Nat} {ws : List Str} {v : Int} (k : Nat) (vals : List Int) : k < 2 → NoCut IFS ws → (∀ j, j < k → NoCut [boolMk j] ws) → (cutF [boolMk k] ws).S ≠ [] → vals.length = (cutF [boolMk k] ws).parts.length →
      (∀ i p, (cutF [boolMk k] ws).parts[i]? = some p → ReadR n d p (vals.getD i 0)) → (vals.filter (fun x => (x != 0) == (k == 0)) ++ vals.drop (vals.length - 1))[0]? = some v → ReadR n (d + 1) ws v
  | not {d : Nat} {r : List Str} {b : Int} : NoCut IFS (Str.ofString "not" :: r) → (∀ j, j < 2 → NoCut [boolMk j] (Str.ofString "not" :: r)) → ReadR n d r b → ReadR n (d + 1) (Str.ofString "not" :: r) (if b == 0 then 1 else 0)
  | cmp {d : Nat} {w0 : Str} {r : List Str} {v : Int} (vals : List Int) : NoCut IFS (w0 :: r) → (∀ j, j < 2 → NoCut [boolMk j] (w0 :: r)) → w0 ≠ Str.ofString "not" → (cutF CMP (w0 :: r)).S ≠ [] → vals.length = (cutF CMP (w0 :: r)).parts.length →
      (∀ i p, (cutF CMP (w0 :: r)).parts[i]? = some p → ReadR n d p (vals.getD i 0)) → (∀ i, i < (cutF CMP (w0 :: r)).S.length → ApplyOk ((cutF CMP (w0 :: r)).S.getD i (Str.ofString "")) (vals.getD i 0) (vals.getD (i + 1) 0)) →
      v ∈ (List.range (cutF CMP (w0 :: r)).S.length).map (fun i => applyF ((cutF CMP (w0 :: r)).S.getD i (Str.ofString "")) (vals.getD i 0) (vals.getD (i + 1) 0)) →
      (∀ y ∈ (List.range (cutF CMP (w0 :: r)).S.length).map (fun i => applyF ((cutF CMP (w0 :: r)).S.getD i (Str.ofString "")) (vals.getD i 0) (vals.getD (i + 1) 0)), v ≤ y) → ReadR n (d + 1) (w0 :: r) v
  | arith {d : Nat} {w0 : Str} {r : List Str} {v0 : Int} (k : Nat) (vals : List Int) : 0 < k → k < 3 → NoCut IFS (w0 :: r) → (∀ j, j < 2 → NoCut [boolMk j] (w0 :: r)) → w0 ≠ Str.ofString "not" → (∀ j, j < k → NoCut (opMk j) (w0 :: r)) → (cutF (opMk k) (w0 :: r)).S ≠ [] → (v0 :: vals).length = (cutF (opMk k) (w0 :: r)).parts.length →
      (∀ i p, (cutF (opMk k) (w0 :: r)).parts[i]? = some p → ReadR n d p ((v0 :: vals).getD i 0)) → foldOk (cutF (opMk k) (w0 :: r)).S v0 vals → ReadR n (d + 1) (w0 :: r) (foldOps (cutF (opMk k) (w0 :: r)).S v0 vals)
  | paren {d : Nat} {r : List Str} {c : Str} {v : Int} : NoCut IFS (Str.ofString "(" :: (r ++ [c])) → (∀ j, j < 2 → NoCut [boolMk j] (Str.ofString "(" :: (r ++ [c]))) → (∀ j, j < 3 → NoCut (opMk j) (Str.ofString "(" :: (r ++ [c]))) → ReadR n d r v → ReadR n (d + 1) (Str.ofString "(" :: (r ++ [c])) v
  | leafN {d : Nat} : ReadR n (d + 1) [Str.ofString "n"] n
  | leafK {d : Nat} {x : Str} {k : Int} : PySem.intText? x = some k → x.length ≤ 640 → NoCut IFS [x] → (∀ j, j < 2 → NoCut [boolMk j] [x]) → (∀ j, j < 3 → NoCut (opMk j) [x]) → x ≠ Str.ofString "not" → x ≠ Str.ofString "(" → x ≠ Str.ofString "n" → ReadR n (d + 1) [x] k

/-- where the body of _law_read stands -/
structure RdAt (C : Cx) (m : Vm) (I : Led) (ws : List Str) (n : Int) : Prop where
  words : ∃ lw vw k, m (Str.ofString "words") = some (.ref lw) ∧ (lw, lstO vw k) ∈ I ∧ Strs vw ws
  n : ∃ t, m (Str.ofString "n") = some (.int n t)

theorem RdAt.mono {C : Cx} {m : Vm} {I J : Led} {ws : List Str} {n : Int} (h : ∀ p ∈ I, p ∈ J) (x : RdAt C m I ws n) : RdAt C m J ws n := by
  obtain ⟨⟨lw, vw, k, a, b, c⟩, d⟩ := x
  exact ⟨⟨lw, vw, k, a, h _ b, c⟩, d⟩

structure RdC (C : Cx) (mg mb : Vm) (p1 p2 p3 p4 p5 p6 p7 p8 : Addr) (d : Nat) : Prop where
  G : Gl mg mb p1 p2 p3 p4 p5 p6 p7 p8
  R : Rt C.hr mg mb
  cut : DefAt C.hr 10 "_law_cut" p5 .none
  app : DefAt C.hr 7 "_law_apply" p2 .none
  read : DefAt C.hr 11 "_law_read" p6 .none
  F : Fe C (scopeOf (stmtAt 11))
  hh : C.A.handled = none
  hX : C.X = []
  own : C.own = C.vars
  dep : C.A.depth + (d + 1) < recursionLimit
  un : C.A.units + 8 * (d + 1) + 100 < cLine


theorem RdC.u64 {C : Cx} {mg mb : Vm} {p1 p2 p3 p4 p5 p6 p7 p8 : Addr} {d : Nat} (X : RdC C mg mb p1 p2 p3 p4 p5 p6 p7 p8 d) : C.A.units + 64 < cLine := by have := X.un; omega
theorem RdC.dep1 {C : Cx} {mg mb : Vm} {p1 p2 p3 p4 p5 p6 p7 p8 : Addr} {d : Nat} (X : RdC C mg mb p1 p2 p3 p4 p5 p6 p7 p8 d) : C.A.depth + 1 < recursionLimit := by have := X.dep; omega
theorem RdC.un1 {C : Cx} {mg mb : Vm} {p1 p2 p3 p4 p5 p6 p7 p8 : Addr} {d : Nat} (X : RdC C mg mb p1 p2 p3 p4 p5 p6 p7 p8 d) : C.A.units + 8 * 1 + 100 < cLine := by have := X.un; omega

def RSpec (prog : Program) (w : World) (hr : Heap) (f : Addr) (n : Int) (need : Nat) (ws : List Str) (v : Int) : Prop :=
  ∀ (I : Led) (a : Addr) (vw : List Value) (k : Nat) (t : Tok), (a, lstO vw k) ∈ I → Strs vw ws → ws.length + 20 ≤ sizeLine → FSpec prog w hr need f [.ref a, .int n t] I fun r _ => ∃ t, r = .int v t
abbrev RK (v : Int) : Flow → Vm → Led → Led → Prop := fun fl _ _ _ => ∃ t, fl = .ret (.int v t)

theorem LsIs.get {I : Led} : ∀ {rs : List Value} {ws : List (List Str)} {i : Nat} {w : List Str}, LsIs I rs ws → ws[i]? = some w → ∃ a v n, rs[i]? = some (.ref a) ∧ (a, lstO v n) ∈ I ∧ Strs v w
  | [], [], _, _, _, e => by simp at e
  | r :: rs, w :: ws, 0, _, ⟨⟨a, v, n, e1, e2, e3⟩, _⟩, e => by simp at e; subst e; exact ⟨a, v, n, by rw [e1]; rfl, e2, e3⟩
  | r :: rs, w :: ws, i + 1, _, ⟨_, x⟩, e => by simp only [List.getElem?_cons_succ] at e ⊢; exact x.get e
  | [], _ :: _, _, _, x, _ => x.elim
  | _ :: _, [], _, _, x, _ => x.elim
theorem seen_nil {vs : List Value} {ws : List Str} (h : Strs vs ws) (e : ws = []) : ¬ (!vs.isEmpty) = true := by
  have := h.length; rw [e] at this; cases vs <;> simp at this ⊢
theorem seen_cons {vs : List Value} {ws : List Str} (h : Strs vs ws) (e : ws ≠ []) : (!vs.isEmpty) = true := by
  have := h.length
  cases vs with
  | nil => exact absurd (List.length_eq_zero_iff.mp this.symm) e
  | cons => rfl
theorem Strs.drop' {vs : List Value} {ws : List Str} (h : Strs vs ws) (k : Nat) : Strs (vs.drop k) (ws.drop k) := by simp only [Strs, List.map_drop] at h ⊢; rw [h]
theorem Strs.take' {vs : List Value} {ws : List Str} (h : Strs vs ws) (k : Nat) : Strs (vs.take k) (ws.take k) := by simp only [Strs, List.map_take] at h ⊢; rw [h]

theorem cut_total (ms : List Str) (ws : List Str) : ∀ p ∈ (cutF ms ws).parts, p.length ≤ ws.length := by
  have gen : ∀ (ws : List Str) (s : CutSt) (n : Nat), (∀ p ∈ s.P, p.length ≤ n) → s.L.length ≤ n → (∀ p ∈ (ws.foldl (cutStep ms) s).P, p.length ≤ n + ws.length) ∧ (ws.foldl (cutStep ms) s).L.length ≤ n + ws.length := by
    intro ws
    induction ws with
    | nil => intro s n h1 h2; exact ⟨h1, h2⟩
    | cons w ws ih =>
      intro s n h1 h2
      have h1' : ∀ p ∈ (cutStep ms s w).P, p.length ≤ n + 1 := by
        unfold cutStep; split
        · intro p hp; simp only [List.mem_append, List.mem_singleton] at hp
          rcases hp with hp | rfl
          · have := h1 p hp; omega
          · omega
        · intro p hp; have := h1 p hp; omega
      have h2' : (cutStep ms s w).L.length ≤ n + 1 := by unfold cutStep; split <;> simp <;> omega
      have := ih (cutStep ms s w) (n + 1) h1' h2'
      simp only [List.foldl_cons, List.length_cons]
      refine ⟨fun p hp => ?_, ?_⟩
      · have := this.1 p hp; omega
      · omega
  intro p hp
  have g := gen ws ⟨[], [], [], 0⟩ 0 (by simp) (by simp)
  simp only [CutSt.parts, List.mem_append, List.mem_singleton] at hp
  rcases hp with hp | rfl
  · have := g.1 p hp; simpa using this
  · simpa [cutF] using g.2

set_option maxHeartbeats 4000000 in
/-- the cut by if and else -/
theorem rd_if {C : Cx} {mg mb : Vm} {p1 p2 p3 p4 p5 p6 p7 p8 : Addr} {d : Nat} (X : RdC C mg mb p1 p2 p3 p4 p5 p6 p7 p8 d) {m : Vm} {I : Led} {ws : List Str} {n v : Int} (A : RdAt C m I ws n) (hsz : ws.length + 20 ≤ sizeLine)
    (H : (NoCut IFS ws ∧ ∀ m' I', RdAt C m' I' ws n → W C m' I' [] (execs (List.drop 2 (bodyOf (stmtAt 11))) C.env) (RK v)) ∨
      ∃ p0 p1 b, (cutF IFS ws).S ≠ [] ∧ (cutF IFS ws).parts[0]? = some p0 ∧ (cutF IFS ws).parts[1]? = some p1 ∧ RSpec C.prog C.w C.hr p6 n (d + 1) p1 b ∧
        (b ≠ 0 ∧ RSpec C.prog C.w C.hr p6 n (d + 1) p0 v ∨ b = 0 ∧ RSpec C.prog C.w C.hr p6 n (d + 1) (ws.drop (p0.length + p1.length + 2)) v)) : W C m I [] (execs (bodyOf (stmtAt 11)) C.env) (RK v) := by
  have hsl : sizeLine = 16777216 := rfl
  have hcl : cLine = 9900 := rfl
  have hd := X.dep
  have hu := X.un
  have hu64 := X.u64
  have G := X.G
  have R := X.R
  have F := X.F
  have hh := X.hh
  have hown := X.own
  obtain ⟨lw, vw, kw, a1, a2, a3⟩ := A.words
  obtain ⟨tn, a4⟩ := A.n
  have hvl := a3.length
  refine W_execs_cons ?_
  refine W_mid (fun m' I' Mu' => Mu' = [] ∧ (∀ p ∈ I, p ∈ I') ∧ RdAt C m' I' ws n ∧ m' (Str.ofString "words") = some (.ref lw) ∧ m' (Str.ofString "n") = some (.int n tn) ∧ ∃ ap as rs sv n2 n3, m' (Str.ofString "parts") = some (.ref ap) ∧ m' (Str.ofString "seen") = some (.ref as) ∧ (ap, lstO rs n2) ∈ I' ∧ LsIs I' rs (cutF IFS ws).parts ∧ (as, lstO sv n3) ∈ I' ∧ Strs sv (cutF IFS ws).S) ?_ ?_
  · refine W.gen fun K' hK => ?_
    repeat walk_at "w1"
    refine W_withDef' X.cut rfl ?_
    repeat walk_at "w1"
    refine W_call (cut_spec X.cut R (ms := IFS) (by walk_at "mem") a3 (by walk_at "mem") (by unfold IFS; walk_at "strs") hsz) hh X.dep1 X.un1 ?_
    rintro w J ⟨a, ap, as, rs, sv, n1, n2, n3, rfl, g1, g2, g3, g4, g5⟩
    repeat walk_at "w1"
    refine W_inOrder_cons ?_
    refine W_assignName ?_
    repeat walk_at "w1"
    refine W_inOrder_cons ?_
    refine W_assignName ?_
    repeat walk_at "w1"
    refine W_inOrder_nil ?_
    refine hK _ _ _ _ ⟨rfl, rfl, fun p hp => by walk_at "mem", ⟨⟨lw, vw, kw, by walk_at "var", by walk_at "mem", a3⟩, tn, by walk_at "var"⟩, by walk_at "var", by walk_at "var", ap, as, rs, sv, n2, n3, by walk_at "var", by walk_at "var", g2, g3, g4, g5⟩
  rintro m' I' Mu' ⟨rfl, hsub, A', k1, k4, ap, as, rs, sv, n2, n3, k2, k3, g2, g3, g4, g5⟩
  have a2' := hsub _ a2
  refine W_execs_cons ?_
  repeat walk_at "w1"
  rcases H with ⟨hno, k⟩ | ⟨q0, q1, b, hS, e0, e1, r1, r2⟩
  · rw [if_neg (seen_nil g5 hno)]
    refine W_execs_nil ?_
    exact k _ _ (A'.mono fun p hp => List.mem_cons_of_mem _ hp)
  · rw [if_pos (seen_cons g5 hS)]
    obtain ⟨x0, y0, z0, b0, c0, d0⟩ := g3.get e0
    obtain ⟨x1, y1, z1, b1, c1, d1⟩ := g3.get e1
    have l0 := cut_total IFS ws q0 (List.mem_of_getElem? e0)
    have l1 := cut_total IFS ws q1 (List.mem_of_getElem? e1)
    have l0' := d0.length
    have l1' := d1.length
    repeat walk_at "w1"
    refine W_withDef' X.read rfl ?_
    repeat walk_at "w1"
    refine W_itemL (i := 1) rfl (by walk_at "has") (by decide) (by decide) b1 ?_
    repeat walk_at "w1"
    refine W_call (r1 _ x1 _ _ _ (by walk_at "mem") d1 (by omega)) hh hd hu ?_
    rintro w J ⟨tb, rfl⟩
    repeat walk_at "w1"
    rcases r2 with ⟨hb, r2⟩ | ⟨rfl, r2⟩
    · rw [if_pos (by simpa using hb)]
      repeat walk_at "w1"
      refine W_withDef' X.read rfl ?_
      repeat walk_at "w1"
      refine W_itemL (i := 0) rfl (by walk_at "has") (by decide) (by decide) b0 ?_
      repeat walk_at "w1"
      refine W_call (r2 _ x0 _ _ _ (by walk_at "mem") d0 (by omega)) hh hd hu ?_
      rintro w J' ⟨tv, rfl⟩
      exact ⟨tv, rfl⟩
    · rw [if_neg (by simp)]
      repeat walk_at "w1"
      refine W_withDef' X.read rfl ?_
      repeat walk_at "w1"
      refine W_itemL (i := 0) rfl (by walk_at "has") (by decide) (by decide) b0 ?_
      repeat walk_at "w1"
      refine W_itemL (i := 1) rfl (by walk_at "has") (by decide) (by decide) b1 ?_
      repeat walk_at "w1"
      refine ⟨lw, vw, kw, some ((q0.length + q1.length + 2 : Nat) : Int), none, rfl, by walk_at "has", by omega, ?_, .none, ?_⟩
      · have : (y0.length : Int) + (y1.length : Int) + 2 = ((q0.length + q1.length + 2 : Nat) : Int) := by omega
        rw [this]
        exact .int _ _
      intro sa
      rw [slicePick_from']
      repeat walk_at "w1"
      refine W_call (r2 _ sa _ _ _ (by walk_at "mem") (by simpa using a3.drop' _) (by simp; omega)) hh hd hu ?_
      rintro w J' ⟨tv, rfl⟩
      exact ⟨tv, rfl⟩
end
section
def forBody : Stmt → List Stmt
  | .For _ _ b _ _ => b
  | _ => []
def ifBody : Stmt → List Stmt
  | .If _ b _ _ => b
  | _ => []
def compScope : Stmt → Scope
  | .Assign _ (.ListComp _ _ sc _) _ => sc
  | _ => PySem.Challenge.pw_dm0127_12.main.scope
def nth (l : List Stmt) (i : Nat) : Stmt := (l[i]?).getD (.Pass default)
def rdVals1 : Stmt := nth (ifBody (nth (forBody (nth (bodyOf (stmtAt 11)) 2)) 1)) 0
def rdSc : Scope := compScope rdVals1

set_option maxHeartbeats 4000000 in
theorem rd_vals {C : Cx} {mg mb : Vm} {p1 p2 p3 p4 p5 p6 p7 p8 : Addr} {d : Nat} (X : RdC C mg mb p1 p2 p3 p4 p5 p6 p7 p8 d) {m : Vm} {I Mu : Led} {n : Int} {tn : Tok} {ap : Addr} {rs : List Value} {k : Nat} {parts : List (List Str)} {vals : List Int}
    {q1 q2 q3 q4 q5 q6 q7 q8 q9 : Pos} {KF : Flow → Vm → Led → Led → Prop}
    (hn : m (Str.ofString "n") = some (.int n tn)) (hp : m (Str.ofString "parts") = some (.ref ap)) (ha : (ap, lstO rs k) ∈ I) (hl : LsIs I rs parts) (hps : ∀ p ∈ parts, p.length + 20 ≤ sizeLine) (hpl : parts.length ≤ sizeLine)
    (hlen : vals.length = parts.length) (hv : ∀ i p, parts[i]? = some p → RSpec C.prog C.w C.hr p6 n (d + 1) p (vals.getD i 0))
    (K : ∀ av vv kv J, Ints vv vals → KF .next (fun y => if y = Str.ofString "values" then some (.ref av) else m y) ((av, lstO vv kv) :: (J ++ I)) Mu) :
    W C m I Mu (exec (.Assign [.Name (Str.ofString "values") q1] (.ListComp (.Call (.Name (Str.ofString "_law_read") q2) [.Name (Str.ofString "part") q3, .Name (Str.ofString "n") q4] [] q5) [⟨.Name (Str.ofString "part") q6, .Name (Str.ofString "parts") q7, [], 0⟩] rdSc q8) q9) C.env) KF := by
  have hsl : sizeLine = 16777216 := rfl
  have hcl : cLine = 9900 := rfl
  have hd := X.dep
  have hu := X.un
  have hu64 := X.u64
  have G := X.G
  have R := X.R
  have F := X.F
  have hh := X.hh
  have hown := X.own
  have D := X.read
  refine W_Assign_cell F (by decide +kernel) trivial ?_
  refine W_ListComp F hh X.hX (cap := ["n"]) (by decide +kernel) (fun _ => rfl) ?_
  repeat walk_at "w1"
  refine W_iter_list (by walk_at "has") ?_
  intro it oi hoi
  refine ⟨it, _, _, listSrc (vs := rs) (n := k) ha, fun i ys J => Ints ys (vals.take i), rfl, rfl, hoi, ?_, rfl, fun ys _ _ _ h => h, ?_, ?_⟩
  · show rs.length ≤ _
    rw [hl.length]; exact hpl
  · intro C2 f1 f2 f3 f4 F2 i v ys I' Mu' hi hsub hP hInv
    have hiv : i < rs.length := hi
    have hir := hl.length
    have hip : i < parts.length := by omega
    have hP' : rs[i]? = some v := hP
    obtain ⟨a, va, na, b1, b2, b3⟩ := hl.get (List.getElem?_eq_getElem hip)
    rw [b1] at hP'
    cases hP'
    rw [← f3] at R D
    have b2' := hsub _ b2
    have hr := hv i _ (List.getElem?_eq_getElem hip)
    rw [← f1, ← f2, ← f3] at hr
    refine W_tests_nil ?_
    rw [if_pos rfl]
    refine W.gen fun K' hK => ?_
    repeat walk_at "w1"
    refine W_withDef' D rfl ?_
    repeat walk_at "w1"
    refine W_call (hr _ a _ _ _ b2' b3 (hps _ (List.getElem_mem hip))) (by rw [f4]; exact hh) (by rw [f4]; exact hd) (by rw [f4]; exact hu) ?_
    rintro w J ⟨tv, rfl⟩
    refine hK _ _ _ _ ⟨rfl, rfl, fun p hp => List.mem_append.mpr (.inr (hsub p hp)), ?_⟩
    show Ints _ (vals.take (i + 1))
    rw [List.take_add_one, getD_some (by omega)]
    exact hInv.append' (.cons' .nil')
  intro acc ys n' J hInv
  have hI : Ints ys (vals.take rs.length) := hInv
  rw [hl.length, ← hlen, List.take_length] at hI
  repeat walk_at "w1"
  exact K _ _ _ _ hI

theorem slice_last (vs : List Value) : (slicePick vs.toArray (some (-1)) none none).toList = vs.drop (vs.length - 1) := by
  rw [slicePick_plain]
  simp only [Option.elim, show (-1 : Int) = -((1 : Nat) : Int) from rfl]
  rw [clipAt_neg _ 1 (by omega)]
  simp only [List.size_toArray]
  rw [List.take_of_length_le]
  simp
theorem Ints.drop' {vs : List Value} {ws : List Int} (h : Ints vs ws) (k : Nat) : Ints (vs.drop k) (ws.drop k) := by simp only [Ints, List.map_drop] at h ⊢; rw [h]
theorem parts_len (ms ws : List Str) : (cutF ms ws).parts.length ≤ ws.length + 1 := by
  have := (cut_sizes ms ws).1
  simp [CutSt.parts]; omega

set_option maxHeartbeats 4000000 in
theorem rd_bool {C : Cx} {mg mb : Vm} {p1 p2 p3 p4 p5 p6 p7 p8 : Addr} {d : Nat} (X : RdC C mg mb p1 p2 p3 p4 p5 p6 p7 p8 d) {m : Vm} {I : Led} {ws : List Str} {n v : Int} (A : RdAt C m I ws n) (hsz : ws.length + 20 ≤ sizeLine)
    (H : ((∀ j, j < 2 → NoCut [boolMk j] ws) ∧ ∀ m' I', RdAt C m' I' ws n → W C m' I' [] (execs (List.drop 3 (bodyOf (stmtAt 11))) C.env) (RK v)) ∨
      ∃ (k : Nat) (vals : List Int), k < 2 ∧ (∀ j, j < k → NoCut [boolMk j] ws) ∧ (cutF [boolMk k] ws).S ≠ [] ∧ vals.length = (cutF [boolMk k] ws).parts.length ∧ (∀ i p, (cutF [boolMk k] ws).parts[i]? = some p → RSpec C.prog C.w C.hr p6 n (d + 1) p (vals.getD i 0)) ∧
        (vals.filter (fun x => (x != 0) == (k == 0)) ++ vals.drop (vals.length - 1))[0]? = some v) : W C m I [] (execs (List.drop 2 (bodyOf (stmtAt 11))) C.env) (RK v) := by
  have hsl : sizeLine = 16777216 := rfl
  have hcl : cLine = 9900 := rfl
  have hd := X.dep
  have hu := X.un
  have hu64 := X.u64
  have G := X.G
  have R := X.R
  have F := X.F
  have hh := X.hh
  have hown := X.own
  refine W_execs_cons ?_
  refine W_For (fun _ => rfl) ?_
  repeat walk_at "w1"
  refine W_iter_list (by walk_at "has") ?_
  intro it oi hoi
  refine W_forLoop F hh (listSrc (by walk_at "mem")) hoi (by rw [X.hX]; exact fun q => nomatch q) (.inr ⟨by decide +kernel, hown⟩) (fun i m' I' Mu' => Mu' = [] ∧ RdAt C m' I' ws n ∧ ∀ j, j < i → NoCut [boolMk j] ws) ?_ ?_ ?_
  · exact ⟨rfl, A.mono fun p hp => by walk_at "mem", fun j hj => absurd hj (Nat.not_lt_zero _)⟩
  · rintro i x m' I' Mu' o' hi hI hP ⟨rfl, A', hno⟩ KT hT
    have hi2 : i < 2 := hi
    have hx : ∃ tx, x = .str (boolMk i) tx := by
      match i, hi2, hP with
      | 0, _, hP => cases hP; exact ⟨_, rfl⟩
      | 1, _, hP => cases hP; exact ⟨_, rfl⟩
    obtain ⟨tx, rfl⟩ := hx
    obtain ⟨lw, vw, kw, a1, a2, a3⟩ := A'.words
    obtain ⟨tn, a4⟩ := A'.n
    have hvl := a3.length
    refine W_cut (fun m2 I2 Mu2 => Mu2 = [(it, o')] ∧ (∀ p ∈ I', p ∈ I2) ∧ RdAt C m2 I2 ws n ∧ m2 (Str.ofString "mark") = some (.str (boolMk i) tx) ∧ m2 (Str.ofString "n") = some (.int n tn) ∧ ∃ ap as rs sv n2 n3, m2 (Str.ofString "parts") = some (.ref ap) ∧ m2 (Str.ofString "seen") = some (.ref as) ∧ (ap, lstO rs n2) ∈ I2 ∧ LsIs I2 rs (cutF [boolMk i] ws).parts ∧ (as, lstO sv n3) ∈ I2 ∧ Strs sv (cutF [boolMk i] ws).S) ?_ ?_
    · refine W.gen fun K' hK => ?_
      repeat walk_at "w1"
      refine W_withDef' X.cut rfl ?_
      repeat walk_at "w1"
      refine W_call (cut_spec X.cut R (ms := [boolMk i]) (by walk_at "mem") a3 (by walk_at "mem") (by walk_at "strs") hsz) hh X.dep1 X.un1 ?_
      rintro w J ⟨a, ap, as, rs, sv, n1, n2, n3, rfl, g1, g2, g3, g4, g5⟩
      repeat walk_at "w1"
      refine W_inOrder_cons ?_
      refine W_assignName ?_
      repeat walk_at "w1"
      refine W_inOrder_cons ?_
      refine W_assignName ?_
      repeat walk_at "w1"
      refine W_inOrder_nil ?_
      refine hK _ _ _ _ ⟨rfl, rfl, fun p hp => by walk_at "mem", ⟨⟨lw, vw, kw, by walk_at "var", by walk_at "mem", a3⟩, tn, by walk_at "var"⟩, by walk_at "var", by walk_at "var", ap, as, rs, sv, n2, n3, by walk_at "var", by walk_at "var", g2, g3, g4, g5⟩
    rintro m2 I2 Mu2 ⟨rfl, hsub, A2, k0, k4, ap, as, rs, sv, n2, n3, k2, k3, g2, g3, g4, g5⟩
    refine W_execs_cons ?_
    repeat walk_at "w1"
    by_cases hS : (cutF [boolMk i] ws).S = []
    · rw [if_neg (seen_nil g5 hS)]
      refine W_execs_nil ?_
      refine W_execs_nil ?_
      refine hT _ _ _ _ ⟨_, rfl, fun p hp => List.mem_cons_of_mem _ (hsub p (hI p hp)), rfl, A2.mono fun p hp => List.mem_cons_of_mem _ hp, fun j hj => ?_⟩
      by_cases e : j = i
      · subst e; exact hS
      · exact hno j (by omega)
    · rw [if_pos (seen_cons g5 hS)]
      rcases H with ⟨hall, _⟩ | ⟨k, vals, hk, hbef, hSk, hlen, hvs, hfin⟩
      · exact absurd (hall i hi2) hS
      have hik : i = k := by
        rcases Nat.lt_trichotomy i k with q | q | q
        · exact absurd (hbef i q) hS
        · exact q
        · exact absurd (hno k q) hSk
      subst hik
      have hpl := parts_len [boolMk i] ws
      refine W_execs_cons ?_
      refine rd_vals X (by walk_at "var") (by walk_at "var") (by walk_at "mem") (g3.mono fun p hp => by walk_at "mem") (fun p hp => by have := cut_total _ ws p hp; omega) (by omega) hlen hvs ?_
      intro av vv kv J hvv
      refine W_execs_cons ?_
      refine W_AssignComp F hh X.hX (cap := ["mark"]) (by decide +kernel) (fun _ => rfl) (by decide +kernel) (swaps_comp F (by decide +kernel) (by decide +kernel) (by decide +kernel)) ?_
      repeat walk_at "w1"
      refine W_iter_list (by walk_at "has") ?_
      intro it2 oi2 hoi2
      have hvvl := hvv.length
      refine ⟨it2, _, _, listSrc (vs := vv) (n := kv) (by walk_at "mem"), fun i2 ys J => Ints ys ((vals.take i2).filter (fun x => (x != 0) == (i == 0))), rfl, rfl, hoi2, by show vv.length ≤ _; omega, rfl, fun ys _ _ _ h => h, ?_, ?_⟩
      · intro C2 f1 f2 f3 f4 F2 i2 y ys I3 Mu' hi3 hsub2 hP2 hInv
        have hiv : i2 < vv.length := hi3
        have hiw : i2 < vals.length := by omega
        obtain ⟨ty, hy⟩ := hvv.get (getD_some (l := vals) hiw)
        have hP3 : vv[i2]? = some y := hP2
        rw [hy] at hP3
        cases hP3
        refine W_tests_one ?_
        repeat walk_at "w1"
        have hmk : (boolMk i == Str.ofString "or") = (i == 0) := by
          match i, hi2 with
          | 0, _ => decide +kernel
          | 1, _ => decide +kernel
        rw [hmk]
        have hstep : ((vals.take (i2 + 1)).filter (fun x => (x != 0) == (i == 0))) = ((vals.take i2).filter (fun x => (x != 0) == (i == 0))) ++ (if ((vals.getD i2 0 != 0) == (i == 0)) = true then [vals.getD i2 0] else []) := by
          rw [List.take_add_one, getD_some hiw, List.filter_append]; congr 1; show List.filter _ [vals.getD i2 0] = _; rw [List.filter_cons]; rfl
        by_cases hc : ((vals.getD i2 0 != 0) == (i == 0)) = true
        · rw [if_pos hc]
          repeat walk_at "w1"
          refine ⟨rfl, rfl, hsub2, ?_⟩
          show Ints _ ((vals.take (i2 + 1)).filter _)
          rw [hstep, if_pos hc]
          exact hInv.append' (.cons' .nil')
        · rw [if_neg hc]
          refine ⟨rfl, rfl, hsub2, ?_⟩
          show Ints _ ((vals.take (i2 + 1)).filter _)
          rw [hstep, if_neg hc, List.append_nil]
          exact hInv
      intro acc ys n' J2 hInv
      have hI : Ints ys ((vals.take vv.length).filter (fun x => (x != 0) == (i == 0))) := hInv
      rw [hvvl, List.take_length] at hI
      repeat walk_at "w1"
      refine ⟨av, vv, kv, some (-1), none, rfl, by walk_at "has", by omega, .int _ _, .none, ?_⟩
      intro sa
      rw [slice_last]
      have hyl := hI.length
      have hdl : (List.drop (vv.length - 1) vv).length ≤ 1 := by rw [List.length_drop]; omega
      have hfl := List.length_filter_le (fun x => (x != 0) == (i == 0)) vals
      repeat walk_at "w1"
      obtain ⟨tv, htv⟩ := (hI.append' (hvv.drop' (vv.length - 1))).get (show _ = some v by rw [hvvl]; exact hfin)
      refine W_itemL (i := 0) rfl (by walk_at "has") (by decide) (by decide) htv ?_
      exact hT _ _ _ _ ⟨tv, rfl⟩
  · rintro m' I' Mu' hI ⟨rfl, A', hno⟩
    have hno2 : ∀ j, j < 2 → NoCut [boolMk j] ws := hno
    rcases H with ⟨hall, k⟩ | ⟨k, vals, hk, hbef, hSk, _⟩
    · refine W_execs_nil ?_
      exact k _ _ A'
    · exact absurd (hno2 k hk) hSk
end
section
set_option maxHeartbeats 4000000 in
theorem rd_not {C : Cx} {mg mb : Vm} {p1 p2 p3 p4 p5 p6 p7 p8 : Addr} {d : Nat} (X : RdC C mg mb p1 p2 p3 p4 p5 p6 p7 p8 d) {m : Vm} {I : Led} {w0 : Str} {r : List Str} {n v : Int} (A : RdAt C m I (w0 :: r) n) (hsz : (w0 :: r).length + 20 ≤ sizeLine)
    (H : (w0 ≠ Str.ofString "not" ∧ ∀ m' I', RdAt C m' I' (w0 :: r) n → W C m' I' [] (execs (List.drop 4 (bodyOf (stmtAt 11))) C.env) (RK v)) ∨
      ∃ b : Int, w0 = Str.ofString "not" ∧ RSpec C.prog C.w C.hr p6 n (d + 1) r b ∧ v = if b == 0 then 1 else 0) : W C m I [] (execs (List.drop 3 (bodyOf (stmtAt 11))) C.env) (RK v) := by
  have hsl : sizeLine = 16777216 := rfl
  have hcl : cLine = 9900 := rfl
  have hd := X.dep
  have hu := X.un
  have hu64 := X.u64
  have G := X.G
  have R := X.R
  have F := X.F
  have hh := X.hh
  have hown := X.own
  obtain ⟨lw, vw, kw, a1, a2, a3⟩ := A.words
  obtain ⟨tn, a4⟩ := A.n
  have hvl := a3.length
  obtain ⟨t0, h0⟩ := a3.get (i := 0) rfl
  simp only [List.length_cons] at hsz hvl
  refine W_execs_cons ?_
  repeat walk_at "w1"
  refine W_itemL (i := 0) rfl (by walk_at "has") (by decide) (by decide) h0 ?_
  repeat walk_at "w1"
  rcases H with ⟨hne, k⟩ | ⟨b, rfl, r1, rfl⟩
  · rw [if_neg (by simpa using hne)]
    refine W_execs_nil ?_
    exact k _ _ A
  · rw [if_pos (by simp)]
    repeat walk_at "w1"
    refine W_withDef' X.read rfl ?_
    repeat walk_at "w1"
    refine ⟨lw, vw, kw, some ((1 : Nat) : Int), none, rfl, by walk_at "has", by omega, .int _ _, .none, ?_⟩
    intro sa
    rw [slicePick_from']
    repeat walk_at "w1"
    refine W_call (r1 _ sa _ _ _ (by walk_at "mem") (by simpa using a3.drop' 1) (by omega)) hh hd hu ?_
    rintro w J' ⟨tv, rfl⟩
    repeat walk_at "w1"
    exact ⟨_, rfl⟩

theorem slice_mid (vs : List Value) : (slicePick vs.toArray (some 1) (some (-1)) none).toList = (vs.drop 1).take (vs.length - 2) := by
  rw [slicePick_plain]
  simp only [Option.elim, show (-1 : Int) = -((1 : Nat) : Int) from rfl, show (1 : Int) = ((1 : Nat) : Int) from rfl]
  rw [clipAt_neg _ 1 (by omega), clipAt_nat]
  simp only [List.size_toArray]
  rcases Nat.lt_or_ge vs.length 2 with h | h
  · have : vs.length - 1 - min 1 vs.length = 0 := by omega
    have h2 : vs.length - 2 = 0 := by omega
    rw [this, h2]; simp
  · have : min 1 vs.length = 1 := by omega
    rw [this]
    have : vs.length - 1 - 1 = vs.length - 2 := by omega
    rw [this]

set_option maxHeartbeats 4000000 in
theorem rd_paren {C : Cx} {mg mb : Vm} {p1 p2 p3 p4 p5 p6 p7 p8 : Addr} {d : Nat} (X : RdC C mg mb p1 p2 p3 p4 p5 p6 p7 p8 d) {m : Vm} {I : Led} {w0 : Str} {r : List Str} {n v : Int} (A : RdAt C m I (w0 :: r) n) (hsz : (w0 :: r).length + 20 ≤ sizeLine)
    (H : (w0 = Str.ofString "n" ∧ r = [] ∧ v = n) ∨ (w0 ≠ Str.ofString "(" ∧ w0 ≠ Str.ofString "n" ∧ PySem.intText? w0 = some v ∧ w0.length ≤ 640) ∨
      ∃ r' c, w0 = Str.ofString "(" ∧ r = r' ++ [c] ∧ RSpec C.prog C.w C.hr p6 n (d + 1) r' v) : W C m I [] (execs (List.drop 5 (bodyOf (stmtAt 11))) C.env) (RK v) := by
  have hsl : sizeLine = 16777216 := rfl
  have hcl : cLine = 9900 := rfl
  have hd := X.dep
  have hu := X.un
  have hu64 := X.u64
  have G := X.G
  have R := X.R
  have F := X.F
  have hh := X.hh
  have hown := X.own
  obtain ⟨lw, vw, kw, a1, a2, a3⟩ := A.words
  obtain ⟨tn, a4⟩ := A.n
  have hvl := a3.length
  obtain ⟨t0, h0⟩ := a3.get (i := 0) rfl
  simp only [List.length_cons] at hsz hvl
  refine W_execs_cons ?_
  repeat walk_at "w1"
  refine W_itemL (i := 0) rfl (by walk_at "has") (by decide) (by decide) h0 ?_
  repeat walk_at "w1"
  rcases H with ⟨rfl, rfl, rfl⟩ | ⟨hne, hnn, hit, hil⟩ | ⟨r', c, rfl, rfl, r1⟩
  · rw [if_neg (by decide +kernel)]
    repeat walk_at "w1"
    refine W_eqStrs (by walk_at "has") a3 (by walk_at "has") (ws' := [Str.ofString "n"]) (by walk_at "strs") (by omega) ?_
    repeat walk_at "w1"
    rw [if_pos (by decide +kernel)]
    repeat walk_at "w1"
    exact ⟨_, rfl⟩
  · rw [if_neg (by simpa using hne)]
    repeat walk_at "w1"
    refine W_eqStrs (by walk_at "has") a3 (by walk_at "has") (ws' := [Str.ofString "n"]) (by walk_at "strs") (by omega) ?_
    repeat walk_at "w1"
    rw [if_neg (by simp [hnn])]
    repeat walk_at "w1"
    refine W_itemL (i := 0) rfl (by walk_at "has") (by decide) (by decide) h0 ?_
    repeat walk_at "w1"
    refine W_intText hit hil ?_
    intro t
    exact ⟨_, rfl⟩
  · rw [if_pos (by simp)]
    repeat walk_at "w1"
    refine W_withDef' X.read rfl ?_
    repeat walk_at "w1"
    refine ⟨lw, vw, kw, some 1, some (-1), rfl, by walk_at "has", by omega, .int _ _, .int _ _, ?_⟩
    intro sa
    rw [slice_mid]
    repeat walk_at "w1"
    have hst : Strs ((vw.drop 1).take (vw.length - 2)) r' := by
      have := (a3.drop' 1).take' (vw.length - 2)
      rw [hvl] at this ⊢
      simpa using this
    refine W_call (r1 _ sa _ _ _ (by walk_at "mem") hst (by simp at hsz; omega)) hh hd hu ?_
    rintro w J' ⟨tv, rfl⟩
    exact ⟨_, rfl⟩
end
section
theorem cut_PS (ms : List Str) (ws : List Str) : (cutF ms ws).P.length = (cutF ms ws).S.length := by
  have gen : ∀ (ws : List Str) (s : CutSt), s.P.length = s.S.length → (ws.foldl (cutStep ms) s).P.length = (ws.foldl (cutStep ms) s).S.length := by
    intro ws
    induction ws with
    | nil => intro s h; exact h
    | cons w ws ih => intro s h; rw [List.foldl_cons]; refine ih _ ?_; unfold cutStep; split <;> simp [h]
  exact gen ws _ rfl
theorem getD_someS {l : List Str} {k : Nat} (h : k < l.length) : l[k]? = some (l.getD k (Str.ofString "")) := by simp [List.getD, List.getElem?_eq_getElem h]

set_option maxHeartbeats 4000000 in
theorem rd_ops {C : Cx} {mg mb : Vm} {p1 p2 p3 p4 p5 p6 p7 p8 : Addr} {d : Nat} (X : RdC C mg mb p1 p2 p3 p4 p5 p6 p7 p8 d) {m : Vm} {I : Led} {ws : List Str} {n v : Int} (A : RdAt C m I ws n) (hsz : ws.length + 20 ≤ sizeLine)
    (H : ((∀ j, j < 3 → NoCut (opMk j) ws) ∧ ∀ m' I', RdAt C m' I' ws n → W C m' I' [] (execs (List.drop 5 (bodyOf (stmtAt 11))) C.env) (RK v)) ∨
      ∃ (k : Nat) (vals : List Int), k < 3 ∧ (∀ j, j < k → NoCut (opMk j) ws) ∧ (cutF (opMk k) ws).S ≠ [] ∧ vals.length = (cutF (opMk k) ws).parts.length ∧ (∀ i p, (cutF (opMk k) ws).parts[i]? = some p → RSpec C.prog C.w C.hr p6 n (d + 1) p (vals.getD i 0)) ∧
        ((k = 0 ∧ (∀ i, i < (cutF (opMk k) ws).S.length → ApplyOk ((cutF (opMk k) ws).S.getD i (Str.ofString "")) (vals.getD i 0) (vals.getD (i + 1) 0)) ∧
            v ∈ (List.range (cutF (opMk k) ws).S.length).map (fun i => applyF ((cutF (opMk k) ws).S.getD i (Str.ofString "")) (vals.getD i 0) (vals.getD (i + 1) 0)) ∧
            ∀ y ∈ (List.range (cutF (opMk k) ws).S.length).map (fun i => applyF ((cutF (opMk k) ws).S.getD i (Str.ofString "")) (vals.getD i 0) (vals.getD (i + 1) 0)), v ≤ y) ∨
          (k ≠ 0 ∧ ∃ v0 vs, vals = v0 :: vs ∧ foldOk (cutF (opMk k) ws).S v0 vs ∧ v = foldOps (cutF (opMk k) ws).S v0 vs))) : W C m I [] (execs (List.drop 4 (bodyOf (stmtAt 11))) C.env) (RK v) := by
  have hsl : sizeLine = 16777216 := rfl
  have hcl : cLine = 9900 := rfl
  have hd := X.dep
  have hu := X.un
  have hu64 := X.u64
  have G := X.G
  have R := X.R
  have F := X.F
  have hh := X.hh
  have hown := X.own
  have Da := X.app
  refine W_execs_cons ?_
  refine W_For (fun _ => rfl) ?_
  repeat walk_at "w1"
  refine W_iter_list (by walk_at "has") ?_
  intro it oi hoi
  refine W.absI (fun J => (∀ p ∈ I, p ∈ J) ∧ ∃ la a0 a1 a2 v0 v1 v2 k k0 k1 k2, LIt la 0 oi ∧ (la, lstO [.ref a0, .ref a1, .ref a2] k) ∈ J ∧ (a0, lstO v0 k0) ∈ J ∧ Strs v0 CMP ∧ (a1, lstO v1 k1) ∈ J ∧ Strs v1 [Str.ofString "+", Str.ofString "-"] ∧ (a2, lstO v2 k2) ∈ J ∧ Strs v2 [Str.ofString "*", Str.ofString "//", Str.ofString "%"])
    ⟨fun p hp => by walk_at "mem", _, _, _, _, _, _, _, _, _, _, _, hoi, by walk_at "mem", by walk_at "mem", by unfold CMP; walk_at "strs", by walk_at "mem", by walk_at "strs", by walk_at "mem", by walk_at "strs"⟩ ?_
  rintro I0 ⟨hI0, la, a0, a1, a2, v0, v1, v2, k, k0, k1, k2, hoi, hla, h0, s0, h1, s1, h2, s2⟩
  refine W_forLoop F hh (listSrc hla) hoi (by rw [X.hX]; exact fun q => nomatch q) (.inl (by decide +kernel)) (fun i m' I' Mu' => Mu' = [] ∧ RdAt C m' I' ws n ∧ ∀ j, j < i → NoCut (opMk j) ws) ?_ ?_ ?_
  · exact ⟨rfl, A.mono hI0, fun j hj => absurd hj (Nat.not_lt_zero _)⟩
  · rintro i x m' I' Mu' o' hi hI hP ⟨rfl, A', hno⟩ KT hT
    have hi3 : i < 3 := hi
    have hx : ∃ am vm km, x = .ref am ∧ (am, lstO vm km) ∈ I' ∧ Strs vm (opMk i) := by
      match i, hi3, hP with
      | 0, _, hP => cases hP; exact ⟨_, _, _, rfl, hI _ h0, s0⟩
      | 1, _, hP => cases hP; exact ⟨_, _, _, rfl, hI _ h1, s1⟩
      | 2, _, hP => cases hP; exact ⟨_, _, _, rfl, hI _ h2, s2⟩
    obtain ⟨am, vm, km, rfl, hxm, hxs⟩ := hx
    obtain ⟨lw, vw, kw, a1, a2, a3⟩ := A'.words
    obtain ⟨tn, a4⟩ := A'.n
    have hvl := a3.length
    refine W_cut (fun m2 I2 Mu2 => Mu2 = [(it, o')] ∧ (∀ p ∈ I', p ∈ I2) ∧ RdAt C m2 I2 ws n ∧ m2 (Str.ofString "marks") = some (.ref am) ∧ m2 (Str.ofString "n") = some (.int n tn) ∧ ∃ ap as rs sv n2 n3, m2 (Str.ofString "parts") = some (.ref ap) ∧ m2 (Str.ofString "seen") = some (.ref as) ∧ (ap, lstO rs n2) ∈ I2 ∧ LsIs I2 rs (cutF (opMk i) ws).parts ∧ (as, lstO sv n3) ∈ I2 ∧ Strs sv (cutF (opMk i) ws).S) ?_ ?_
    · refine W.gen fun K' hK => ?_
      repeat walk_at "w1"
      refine W_withDef' X.cut rfl ?_
      repeat walk_at "w1"
      refine W_call (cut_spec X.cut R (ms := opMk i) (by walk_at "mem") a3 (by walk_at "mem") (by walk_at "strs") hsz) hh X.dep1 X.un1 ?_
      rintro w J ⟨a, ap, as, rs, sv, n1, n2, n3, rfl, g1, g2, g3, g4, g5⟩
      repeat walk_at "w1"
      refine W_inOrder_cons ?_
      refine W_assignName ?_
      repeat walk_at "w1"
      refine W_inOrder_cons ?_
      refine W_assignName ?_
      repeat walk_at "w1"
      refine W_inOrder_nil ?_
      refine hK _ _ _ _ ⟨rfl, rfl, fun p hp => by walk_at "mem", ⟨⟨lw, vw, kw, by walk_at "var", by walk_at "mem", a3⟩, tn, by walk_at "var"⟩, by walk_at "var", by walk_at "var", ap, as, rs, sv, n2, n3, by walk_at "var", by walk_at "var", g2, g3, g4, g5⟩
    rintro m2 I2 Mu2 ⟨rfl, hsub, A2, k0, k4, ap, as, rs, sv, n2, n3, k2, k3, g2, g3, g4, g5⟩
    refine W_execs_cons ?_
    repeat walk_at "w1"
    by_cases hS : (cutF (opMk i) ws).S = []
    · rw [if_neg (seen_nil g5 hS)]
      refine W_execs_nil ?_
      refine W_execs_nil ?_
      refine hT _ _ _ _ ⟨_, rfl, fun p hp => List.mem_cons_of_mem _ (hsub p (hI p hp)), rfl, A2.mono fun p hp => List.mem_cons_of_mem _ hp, fun j hj => ?_⟩
      by_cases e : j = i
      · subst e; exact hS
      · exact hno j (by omega)
    · rw [if_pos (seen_cons g5 hS)]
      rcases H with ⟨hall, _⟩ | ⟨k, vals, hk, hbef, hSk, hlen, hvs, hfin⟩
      · exact absurd (hall i hi3) hS
      have hik : i = k := by
        rcases Nat.lt_trichotomy i k with q | q | q
        · exact absurd (hbef i q) hS
        · exact q
        · exact absurd (hno k q) hSk
      subst hik
      have hpl := parts_len (opMk i) ws
      have hPS := cut_PS (opMk i) ws
      have hvS : vals.length = (cutF (opMk i) ws).S.length + 1 := by rw [hlen]; simp [CutSt.parts, hPS]
      have hSz := (cut_sizes (opMk i) ws).2.2
      have hgl := g5.length
      have hxm2 := hsub _ hxm
      obtain ⟨tm, hm0⟩ := hxs.get (i := 0) (x := (opMk i).getD 0 (Str.ofString "")) (getD_someS (by
        match i, hi3 with
        | 0, _ => decide +kernel
        | 1, _ => decide +kernel
        | 2, _ => decide +kernel))
      have hmk : ((opMk i).getD 0 (Str.ofString "") == Str.ofString "==") = (i == 0) := by
        match i, hi3 with
        | 0, _ => decide +kernel
        | 1, _ => decide +kernel
        | 2, _ => decide +kernel
      refine W_execs_cons ?_
      refine rd_vals X (by walk_at "var") (by walk_at "var") (by walk_at "mem") (g3.mono fun p hp => by walk_at "mem") (fun p hp => by have := cut_total _ ws p hp; omega) (by omega) hlen hvs ?_
      intro av vv kv J hvv
      have hvvl := hvv.length
      refine W_execs_cons ?_
      repeat walk_at "w1"
      refine W_itemL (i := 0) rfl (by walk_at "has") (by decide) (by decide) hm0 ?_
      repeat walk_at "w1"
      rw [hmk]
      generalize hSd : (cutF (opMk i) ws).S = S at *
      rcases hfin with ⟨rfl, hok, hmem, hmin⟩ | ⟨hk0, v0, vs, rfl, hfok, rfl⟩
      · rw [if_pos (show ((0 : Nat) == 0) = true from rfl)]
        repeat walk_at "w1"
        refine W_ListComp F hh X.hX (cap := ["seen", "values"]) (by decide +kernel) (fun _ => rfl) ?_
        repeat walk_at "w1"
        refine W_rangeZ (n := S.length) (by rw [hgl]) ?_
        intro ra rt rv
        refine W_iter_range (n := S.length) (by omega) (by walk_at "has") ?_
        intro it2
        refine ⟨it2, _, _, rangeSrc _ S.length, fun i ys J => Ints ys ((List.range i).map fun k => applyF (S.getD k (Str.ofString "")) (vals.getD k 0) (vals.getD (k + 1) 0)), rfl, rfl, rfl, by show S.length ≤ _; omega, rfl, fun ys _ _ _ h => h, ?_, ?_⟩
        · intro C2 f1 f2 f3 f4 F2 i2 y ys I3 Mu' hi4 hsub2 hP2 hInv
          obtain ⟨ty, rfl⟩ := hP2
          have hi5 : i2 < S.length := hi4
          rw [← f3] at R Da
          have g4' := hsub2 _ (show (as, lstO sv n3) ∈ _ by walk_at "mem")
          have gv' := hsub2 _ (show (av, lstO vv kv) ∈ _ by walk_at "mem")
          obtain ⟨t1, e1⟩ := g5.get (getD_someS hi5)
          obtain ⟨t2, e2⟩ := hvv.get (getD_some (l := vals) (k := i2) (by omega))
          obtain ⟨t3, e3⟩ := hvv.get (getD_some (l := vals) (k := i2 + 1) (by omega))
          refine W_tests_nil ?_
          rw [if_pos rfl]
          refine W.gen fun K' hK => ?_
          repeat walk_at "w1"
          refine W_withDef' Da rfl ?_
          repeat walk_at "w1"
          refine W_itemL (i := (i2 : Int)) rfl (by walk_at "has") (by omega) (by omega) (by rw [Int.toNat_natCast]; exact e1) ?_
          repeat walk_at "w1"
          refine W_itemL (i := (i2 : Int)) rfl (by walk_at "has") (by omega) (by omega) (by rw [Int.toNat_natCast]; exact e2) ?_
          repeat walk_at "w1"
          refine W_itemL (i := (i2 : Int) + 1) rfl (by walk_at "has") (by omega) (by omega) (by rw [show ((i2 : Int) + 1).toNat = i2 + 1 by omega]; exact e3) ?_
          repeat walk_at "w1"
          refine W_call (apply_spec G Da R (hok i2 hi5)) (by rw [f4]; exact hh) (by rw [f4]; exact X.dep1) (by rw [f4]; exact X.un1) ?_
          rintro w J ⟨t6, rfl⟩
          refine hK _ _ _ _ ⟨rfl, rfl, fun p hp => List.mem_append.mpr (.inr (hsub2 p hp)), ?_⟩
          show Ints _ ((List.range (i2 + 1)).map _)
          rw [List.range_succ, List.map_append]
          exact hInv.append' (.cons' .nil')
        intro acc ys n' J2 hInv
        have hI5 : Ints ys ((List.range S.length).map fun k => applyF (S.getD k (Str.ofString "")) (vals.getD k 0) (vals.getD (k + 1) 0)) := hInv
        repeat walk_at "w1"
        refine W_minL hh (by walk_at "has") hI5 (fun e => by rw [e] at hmem; exact nomatch hmem) ?_
        intro x tx hx hxl
        have : x = v := Int.le_antisymm (hxl v hmem) (hmin x hx)
        subst this
        exact hT _ _ _ _ ⟨_, rfl⟩
      · rw [if_neg (by simpa using hk0)]
        refine W_execs_nil ?_
        obtain ⟨t0, e0⟩ := hvv.get (i := 0) rfl
        simp only [List.length_cons] at hvS hvvl hlen
        refine W_execs_cons ?_
        repeat walk_at "w1"
        refine W_itemL (i := 0) rfl (by walk_at "has") (by decide) (by decide) e0 ?_
        repeat walk_at "w1"
        refine W_For (fun _ => rfl) ?_
        repeat walk_at "w1"
        refine W_rangeZ (n := S.length) (by rw [hgl]) ?_
        intro ra rt rv
        refine W_iter_range (n := S.length) (by omega) (by walk_at "has") ?_
        intro it2
        refine W_forLoop F hh (rangeSrc _ S.length) rfl (by rw [X.hX]; exact fun q => nomatch q) (.inl (by decide +kernel)) (fun j m3 I3 Mu3 => Mu3 = [(it, o')] ∧ m3 (Str.ofString "seen") = some (.ref as) ∧ m3 (Str.ofString "values") = some (.ref av) ∧
          ∃ x t, m3 (Str.ofString "value") = some (.int x t) ∧ foldOps (S.drop j) x (vs.drop j) = foldOps S v0 vs ∧ foldOk (S.drop j) x (vs.drop j)) ?_ ?_ ?_
        · exact ⟨rfl, by walk_at "var", by walk_at "var", v0, _, by walk_at "var", rfl, hfok⟩
        · rintro j y m3 I3 Mu3 o3 hj hsub2 hP2 ⟨rfl, q1, q2, z, tz, q3, q4, q5⟩ KT2 hT2
          obtain ⟨ty, rfl⟩ := hP2
          have hj2 : j < S.length := hj
          have hj3 : j < vs.length := by omega
          have g4' := hsub2 _ (show (as, lstO sv n3) ∈ _ by walk_at "mem")
          have gv' := hsub2 _ (show (av, lstO vv kv) ∈ _ by walk_at "mem")
          obtain ⟨t1, e1⟩ := g5.get (List.getElem?_eq_getElem hj2)
          obtain ⟨t3, e3⟩ := hvv.get (i := j + 1) (x := vs[j]) (by rw [List.getElem?_cons_succ]; exact List.getElem?_eq_getElem hj3)
          rw [List.drop_eq_getElem_cons hj2, List.drop_eq_getElem_cons hj3] at q4 q5
          simp only [foldOps, foldOk] at q4 q5
          refine W_execs_cons ?_
          repeat walk_at "w1"
          refine W_withDef' Da rfl ?_
          repeat walk_at "w1"
          refine W_itemL (i := (j : Int)) rfl (by walk_at "has") (by omega) (by omega) (by rw [Int.toNat_natCast]; exact e1) ?_
          repeat walk_at "w1"
          refine W_itemL (i := (j : Int) + 1) rfl (by walk_at "has") (by omega) (by omega) (by rw [show ((j : Int) + 1).toNat = j + 1 by omega]; exact e3) ?_
          repeat walk_at "w1"
          refine W_call (apply_spec G Da R q5.1) hh X.dep1 X.un1 ?_
          rintro w J2 ⟨t6, rfl⟩
          repeat walk_at "w1"
          exact hT2 _ _ _ _ ⟨_, rfl, fun p hp => List.mem_append.mpr (.inr (hsub2 p hp)), rfl, by walk_at "var", by walk_at "var", _, _, by walk_at "var", q4, q5.2⟩
        · rintro m3 I3 Mu3 hsub2 ⟨rfl, q1, q2, z, tz, q3, q4, q5⟩
          have q4' : foldOps (S.drop S.length) z (vs.drop S.length) = foldOps S v0 vs := q4
          rw [List.drop_length] at q4'
          have : z = foldOps S v0 vs := by rw [← q4']; cases (vs.drop S.length) <;> rfl
          subst this
          refine W_execs_nil ?_
          refine W_execs_cons ?_
          repeat walk_at "w1"
          exact hT _ _ _ _ ⟨_, rfl⟩
  · rintro m' I' Mu' hI ⟨rfl, A', hno⟩
    have hno2 : ∀ j, j < 3 → NoCut (opMk j) ws := hno
    rcases H with ⟨hall, k⟩ | ⟨k, vals, hk, hbef, hSk, _⟩
    · refine W_execs_nil ?_
      exact k _ _ A'
    · exact absurd (hno2 k hk) hSk
end
section
set_option maxHeartbeats 4000000 in
theorem read_spec {prog : Program} {w : World} {hr : Heap} {mg mb : Vm} {p1 p2 p3 p4 p5 p6 p7 p8 : Addr} (G : Gl mg mb p1 p2 p3 p4 p5 p6 p7 p8) (R : Rt hr mg mb) (Dc : DefAt hr 10 "_law_cut" p5 .none) (Da : DefAt hr 7 "_law_apply" p2 .none) (Dr : DefAt hr 11 "_law_read" p6 .none)
    {n : Int} {d : Nat} {ws : List Str} {v : Int} (h : ReadR n d ws v) : RSpec prog w hr p6 n (d + 1) ws v := by
  have start : ∀ {d' : Nat} {ws : List Str} {v : Int}, ws.length + 20 ≤ sizeLine ∨ True → (∀ (C : Cx) (m : Vm) (I : Led), C.prog = prog → C.w = w → C.hr = hr → RdC C mg mb p1 p2 p3 p4 p5 p6 p7 p8 d' → RdAt C m I ws n → ws.length + 20 ≤ sizeLine → W C m I [] (execs (bodyOf (stmtAt 11)) C.env) (RK v)) →
      RSpec prog w hr p6 n (d' + 1 + 1) ws v := by
    intro d' ws v _ H I a vw k t ha hs hsz
    obtain ⟨kV, doc, pm, an, cdv, ct, D⟩ := id Dr
    refine FSpec.intro D R (binds := [("words", .ref a), ("n", .int n t)]) (ns := ["words", "n"]) (fun s _ => BindsTo.of_eq (by with_unfolding_all rfl)) rfl (by decide +kernel) (fun v => fun _ _ _ h => h) ?_
    intro C e1 e2 e3 hd hu hh hX hown F
    refine (H C _ _ e1 e2 e3 ⟨G, e3 ▸ R, e3 ▸ Dc, e3 ▸ Da, e3 ▸ Dr, F, hh, hX, hown, by omega, by omega⟩ ⟨⟨a, vw, k, rfl, ha, hs⟩, t, rfl⟩ hsz).mono ?_
    rintro fl m' I' Mu' ⟨tv, rfl⟩
    exact ⟨_, rfl, _, rfl⟩
  induction h with
  | @ifT d ws p0 p1 b v hS e0 e1 r1 hb r2 ih1 ih2 =>
    refine start (.inr trivial) fun C m I f1 f2 f3 X A hsz => ?_
    subst f1 f2 f3
    exact rd_if X A hsz (.inr ⟨_, _, _, hS, e0, e1, ih1, .inl ⟨hb, ih2⟩⟩)
  | @ifF d ws p0 p1 v hS e0 e1 r1 r2 ih1 ih2 =>
    refine start (.inr trivial) fun C m I f1 f2 f3 X A hsz => ?_
    subst f1 f2 f3
    exact rd_if X A hsz (.inr ⟨_, _, _, hS, e0, e1, ih1, .inr ⟨rfl, ih2⟩⟩)
  | @bool d ws v k vals hk h0 hbef hS hlen hv hfin ih =>
    refine start (.inr trivial) fun C m I f1 f2 f3 X A hsz => ?_
    subst f1 f2 f3
    refine rd_if X A hsz (.inl ⟨h0, fun m' I' A' => ?_⟩)
    exact rd_bool X A' hsz (.inr ⟨k, vals, hk, hbef, hS, hlen, ih, hfin⟩)
  | @not d r b h0 h1 hr ih =>
    refine start (.inr trivial) fun C m I f1 f2 f3 X A hsz => ?_
    subst f1 f2 f3
    refine rd_if X A hsz (.inl ⟨h0, fun m' I' A' => ?_⟩)
    refine rd_bool X A' hsz (.inl ⟨h1, fun m' I' A' => ?_⟩)
    exact rd_not X A' hsz (.inr ⟨_, rfl, ih, rfl⟩)
  | @cmp d w0 r v vals h0 h1 hn hS hlen hv hok hmem hmin ih =>
    refine start (.inr trivial) fun C m I f1 f2 f3 X A hsz => ?_
    subst f1 f2 f3
    refine rd_if X A hsz (.inl ⟨h0, fun m' I' A' => ?_⟩)
    refine rd_bool X A' hsz (.inl ⟨h1, fun m' I' A' => ?_⟩)
    refine rd_not X A' hsz (.inl ⟨hn, fun m' I' A' => ?_⟩)
    exact rd_ops X A' hsz (.inr ⟨0, vals, by decide, fun j hj => absurd hj (Nat.not_lt_zero _), hS, hlen, ih, .inl ⟨rfl, hok, hmem, hmin⟩⟩)
  | @arith d w0 r v0 k vals hk0 hk3 h0 h1 hn hbef hS hlen hv hok ih =>
    refine start (.inr trivial) fun C m I f1 f2 f3 X A hsz => ?_
    subst f1 f2 f3
    refine rd_if X A hsz (.inl ⟨h0, fun m' I' A' => ?_⟩)
    refine rd_bool X A' hsz (.inl ⟨h1, fun m' I' A' => ?_⟩)
    refine rd_not X A' hsz (.inl ⟨hn, fun m' I' A' => ?_⟩)
    exact rd_ops X A' hsz (.inr ⟨k, _, hk3, hbef, hS, hlen, ih, .inr ⟨by omega, v0, vals, rfl, hok, rfl⟩⟩)
  | @paren d r c v h0 h1 h2 hr ih =>
    refine start (.inr trivial) fun C m I f1 f2 f3 X A hsz => ?_
    subst f1 f2 f3
    refine rd_if X A hsz (.inl ⟨h0, fun m' I' A' => ?_⟩)
    refine rd_bool X A' hsz (.inl ⟨h1, fun m' I' A' => ?_⟩)
    refine rd_not X A' hsz (.inl ⟨by decide +kernel, fun m' I' A' => ?_⟩)
    refine rd_ops X A' hsz (.inl ⟨h2, fun m' I' A' => ?_⟩)
    exact rd_paren X A' hsz (.inr (.inr ⟨r, c, rfl, rfl, ih⟩))
  | @leafN d =>
    refine start (.inr trivial) fun C m I f1 f2 f3 X A hsz => ?_
    subst f1 f2 f3
    refine rd_if X A hsz (.inl ⟨by unfold NoCut; decide +kernel, fun m' I' A' => ?_⟩)
    refine rd_bool X A' hsz (.inl ⟨by unfold NoCut; decide +kernel, fun m' I' A' => ?_⟩)
    refine rd_not X A' hsz (.inl ⟨by decide +kernel, fun m' I' A' => ?_⟩)
    refine rd_ops X A' hsz (.inl ⟨by unfold NoCut; decide +kernel, fun m' I' A' => ?_⟩)
    exact rd_paren X A' hsz (.inl ⟨rfl, rfl, rfl⟩)
  | @leafK d x k hx hl h0 h1 h2 hn hp hnn =>
    refine start (.inr trivial) fun C m I f1 f2 f3 X A hsz => ?_
    subst f1 f2 f3
    refine rd_if X A hsz (.inl ⟨h0, fun m' I' A' => ?_⟩)
    refine rd_bool X A' hsz (.inl ⟨h1, fun m' I' A' => ?_⟩)
    refine rd_not X A' hsz (.inl ⟨hn, fun m' I' A' => ?_⟩)
    refine rd_ops X A' hsz (.inl ⟨h2, fun m' I' A' => ?_⟩)
    exact rd_paren X A' hsz (.inr (.inl ⟨hp, hnn, hx, hl⟩))
end
section
section
variable {C : Cx} {m : Vm} {I Mu : Led} {K : Value → Vm → Led → Led → Prop}
theorem W_Joined {v₁ v₂ : Expr} {rest : List Expr} {pos : Pos} (k : W C m I Mu (joinParts Str.empty (eval v₁ C.env :: eval v₂ C.env :: evalEach rest C.env)) K) : W C m I Mu (eval (.JoinedStr (v₁ :: v₂ :: rest) pos) C.env) K := .mk fun E h tk S => JoinedStr_many (k.out E h tk S)
theorem W_joins_nil {out : Str} (hsz : out.length ≤ sizeLine) (k : ∀ t, K (.str out t) m I Mu) : W C m I Mu (joinParts out []) K := .mk fun E h tk S => joinParts_nil (back S (k _)) hsz
theorem W_joins_cons {out : Str} {x : Sem Value} {rest : List (Sem Value)} (k : W C m I Mu x fun v m1 I1 Mu1 => ∃ y t, v = .str y t ∧ (out ++ y).length ≤ sizeLine ∧ W C m1 I1 Mu1 (joinParts (out ++ y) rest) K) : W C m I Mu (joinParts out (x :: rest)) K := .mk fun E h tk S =>
  joinParts_cons (k.use S fun v _ _ _ h1 t1 S1 k1 => by
    obtain ⟨y, t, rfl, hz, k1⟩ := k1
    exact ⟨hz, k1.out E h1 t1 S1⟩)
theorem W_FmtS {value : Expr} {pos : Pos} (k : W C m I Mu (eval value C.env) fun v m1 I1 Mu1 => ∃ x t, v = .str x t ∧ x.length ≤ sizeLine ∧ ∀ t', K (.str x t') m1 I1 Mu1) : W C m I Mu (eval (.FormattedValue value 115 none pos) C.env) K := .mk fun E h tk S =>
  wpAny_FormattedValue_s (k.use S fun v _ _ _ h1 t1 S1 k1 => by
    obtain ⟨x, t, rfl, hz, k1⟩ := k1
    exact habitSame_str (fun t' tk' => formatField_str (fun t'' tk'' => back S1 (k1 _)) hz) hz)
end
theorem str_len_app (x y : Str) : (x ++ y).length = x.length + y.length := by
  cases x; cases y; show (_ ++ _ : Array _).size = _; simp [Str.length]
theorem str_empty_app (x : Str) : Str.empty ++ x = x := by
  cases x; show Str.mk (_ ++ _) = _; simp [Str.empty]
theorem str_assoc (x y z : Str) : x ++ y ++ z = x ++ (y ++ z) := by
  cases x; cases y; cases z; show Str.mk (_ ++ _ ++ _) = Str.mk (_ ++ (_ ++ _)); simp
end
section
/-- the same as W where a token has been handed out -/
structure W1 (C : Cx) (m : Vm) (I Mu : Led) {α : Type} (t : Sem α) (K : α → Vm → Led → Led → Prop) : Prop where
  out : ∀ (E : Value → Shared → Prop) h tk, 1 ≤ tk → St C m I Mu h → wpAny C.M C.A t (Back C K) E (C.st h tk)

section
variable {C : Cx} {sc : Scope} {m : Vm} {I Mu : Led} {α β : Type}
variable {K : Value → Vm → Led → Led → Prop} {KF : Flow → Vm → Led → Led → Prop} {KB : Bool → Vm → Led → Led → Prop} {KU : Unit → Vm → Led → Led → Prop} {KL : List Value → Vm → Led → Led → Prop}
theorem W.one {t : Sem α} {K : α → Vm → Led → Led → Prop} (x : W C m I Mu t K) : W1 C m I Mu t K := .mk fun E h tk _ S => x.out E h tk S
theorem W1.use {t : Sem α} {K : α → Vm → Led → Led → Prop} (x : W1 C m I Mu t K) {E : Value → Shared → Prop} {h : Heap} {tk : Nat} (h1 : 1 ≤ tk) (S : St C m I Mu h) {Q : α → Shared → Prop}
    (hQ : ∀ a m' I' Mu' h' tk', 1 ≤ tk' → St C m' I' Mu' h' → K a m' I' Mu' → Q a (C.st h' tk')) : wpAny C.M C.A t Q E (C.st h tk) :=
  wpAny_with_toks (n := 1) h1 (wpAny_mono (x.out E h tk h1 S) (fun a s' ⟨h', tk', m', I', Mu', e, S', k⟩ h2 => by subst e; exact hQ a m' I' Mu' h' tk' h2 S' k) fun _ _ e _ => e)
theorem W1_execs_cons {st : Stmt} {rest : List Stmt} (x : W1 C m I Mu (exec st C.env) fun f m' I' Mu' => match f with | .next => W1 C m' I' Mu' (execs rest C.env) KF | f => KF f m' I' Mu') : W1 C m I Mu (execs (st :: rest) C.env) KF := .mk fun E h tk h1 S =>
  wpAny_execs_cons (x.use h1 S fun f m' I' Mu' h' tk' h2 S' k => by cases f <;> first | exact k.out E h' tk' h2 S' | exact back S' k)
theorem W1_cut {st : Stmt} {rest : List Stmt} (J : Vm → Led → Led → Prop) (h1 : W1 C m I Mu (exec st C.env) fun f m' I' Mu' => f = .next ∧ J m' I' Mu')
    (h2 : ∀ m' I' Mu', J m' I' Mu' → W1 C m' I' Mu' (execs rest C.env) KF) : W1 C m I Mu (execs (st :: rest) C.env) KF :=
  W1_execs_cons (.mk fun E h tk ht S => h1.use ht S fun f m' I' Mu' h' tk' _ S' k => by obtain ⟨rfl, k⟩ := k; exact back S' (h2 m' I' Mu' k))
theorem W1_Assign_Name {x : Str} {pos' pos : Pos} {value : Expr} (hs : swapsWith value (some (.Name x pos')) pos.line C.env = Pure.pure false)
    (k : W1 C m I Mu (eval value C.env) fun v m' I' Mu' => W C m' I' Mu' (storeName C.env x v) fun _ => KF .next) : W1 C m I Mu (exec (.Assign [.Name x pos'] value pos) C.env) KF := .mk fun E h tk h1 S =>
  wpAny_Assign_Name (k.use h1 S fun v _ _ _ _ _ _ S' k' => k'.use S' fun _ _ _ _ _ _ S'' k'' => back S'' k'') hs
theorem W1_CallMeth {o : Expr} {name : Str} {apos pos : Pos} {args : List Expr} (hbase : attributeBase o name C.env (eval o C.env) = eval o C.env)
    (hfew : ((backTo pos (starEach args C.env)).all (fun x => !x.1) && (backToKw pos (keywordEach [] C.env)).all (fun x => x.1.isSome) && decide (args.length + ([] : List Keyword).length + (if ([] : List Keyword).isEmpty then 0 else 1) < 30)) = true)
    (hline : (apos.endLine == pos.line) = true) (k : W1 C m I Mu (eval o C.env) fun ov m1 I1 Mu1 => Meth C m1 I1 Mu1 name ov pos (backTo pos (starEach args C.env)) K) :
    W1 C m I Mu (eval (.Call (.Attribute o name apos) args [] pos) C.env) K := .mk fun E h tk h1 S =>
  wpAny_Call_method_lateS hbase hfew hline (k.use h1 S fun ov _ _ _ h1 t1 _ S1 ⟨T, id, a1, a2, a3, a4, a5, k1⟩ => ⟨T, id, a1, a2, a3, a4 h1 t1 S1, a5 h1 S1, k1.out E h1 t1 S1⟩)
theorem W1_replace {o : Expr} {apos pos : Pos} {y z : Str} {n1 n2 : Nat} {c1 c2 : Pos} (hbase : attributeBase o (Str.ofString "replace") C.env (eval o C.env) = eval o C.env)
    (hfew : ((backTo pos (starEach [.Constant (.str y) n1 c1, .Constant (.str z) n2 c2] C.env)).all (fun x => !x.1) && (backToKw pos (keywordEach [] C.env)).all (fun x => x.1.isSome) && decide ([Expr.Constant (.str y) n1 c1, .Constant (.str z) n2 c2].length + ([] : List Keyword).length + (if ([] : List Keyword).isEmpty then 0 else 1) < 30)) = true)
    (hline : (apos.endLine == pos.line) = true) (hyz : (y == z) = false) (hz : z.length ≤ 14)
    (k : W1 C m I Mu (eval o C.env) fun v m1 I1 Mu1 => ∃ x t, v = .str x t ∧ x.length ≤ 1048576 ∧ ∀ t', K (.str (Txt.replace x y z) t') m1 I1 Mu1) :
    W1 C m I Mu (eval (.Call (.Attribute o (Str.ofString "replace") apos) [.Constant (.str y) n1 c1, .Constant (.str z) n2 c2] [] pos) C.env) K := .mk fun E h tk h1 S =>
  wpAny_Call_method_lateS hbase hfew hline (k.use h1 S fun ov m1 I1 Mu1 h1 t1 ht S1 k1 => by
    obtain ⟨x, t, rfl, hx, k1⟩ := k1
    refine ⟨"str", "str.replace", F.plainAttrs_str, F.slot_str_replace, F.type_str_replace, typeIs_str _ _ _, (fun a e => nomatch e), ?_⟩
    refine callWith_method1 ?_ rfl rfl
    refine wpAny_items_cons (wpAny_Constant_str (wpAny_items_cons (wpAny_Constant_str (wpAny_items_nil ?_)) rfl)) rfl
    refine SC.replaceW ?_ ?_ ?_ hyz hx hz fun t' k => ?_
    · show t1 ≠ 0; omega
    · show t1 + 1 ≠ 0; omega
    · show t1 ≠ t1 + 1; omega
    · exact back (tk := k) S1 (k1 t'))
/-- a first list of texts hands out a token -/
theorem W_firstStr {x y : Str} {n : Nat} {cpos p' lpos pos : Pos} {rest : List Expr} {restS : List Stmt} (hs : swapsWith (.List (.Constant (.str x) n cpos :: rest) lpos) (some (.Name y p')) pos.line C.env = Pure.pure false)
    (k : ∀ t, W C m I Mu (spliced (backTo lpos (starEach rest C.env))) fun vs m1 I1 Mu1 => (Value.str x t :: vs).length ≤ sizeLine ∧ ∀ a, W C m1 ((a, lstO (.str x t :: vs)) :: I1) Mu1 (storeName C.env y (.ref a)) fun _ m2 I2 Mu2 => W1 C m2 I2 Mu2 (execs restS C.env) KF) :
    W C m I Mu (execs (.Assign [.Name y p'] (.List (.Constant (.str x) n cpos :: rest) lpos) pos :: restS) C.env) KF := .mk fun E h tk S => by
  refine wpAny_execs_cons (wpAny_Assign_Name (wpAny_List (wpAny_items_cons (wpAny_Constant_str ?_) rfl)) hs)
  refine W1.use (tk := tk + 1) ((k tk).one) (by omega) S ?_
  intro vs m1 I1 Mu1 h1 t1 ht S1 k1
  refine ⟨k1.1, ?_⟩
  refine W1.use (h := h1.push (lstO (.str x tk :: vs))) (tk := t1) ((k1.2 _).one) ht (S1.alloc _ rfl) ?_
  intro _ m2 I2 Mu2 h2 t2 ht2 S2 k2
  exact k2.out E h2 t2 ht2 S2
end
end
section
/-- a def that moves one object `it`, and changes nothing else of what stood -/
def PSpec (prog : Program) (w : World) (hr : Heap) (need : Nat) (f : Addr) (args : List Value) (I : Led) (it : Addr) (o : Obj) (Post : Value → Led → Obj → Prop) : Prop :=
  ∀ (A : Around) (s : Shared) (E : Value → Shared → Prop), A.handled = none → A.depth + need < recursionLimit → A.units + 8 * need + 100 < cLine → (∀ b o, hr.get? b = some o → s.heap.get? b = some o) → (∀ p ∈ I, s.heap.get? p.1 = some p.2) →
    s.heap.get? it = some o → (∀ p ∈ I, p.1 ≠ it) → hr.get? it = none →
    wpAny (model prog w) A (call (.ref f) args) (fun v s' => ∃ h' tk' J o', s' = { s with heap := h', toks := tk' } ∧ (∀ b o, b ≠ it → s.heap.get? b = some o → h'.get? b = some o) ∧ h'.get? it = some o' ∧ (∀ p ∈ J, h'.get? p.1 = some p.2 ∧ (p ∈ I ∨ s.heap.get? p.1 = none)) ∧ Post v (J ++ I) o') E s

theorem PSpec.intro {prog : Program} {w : World} {hr : Heap} {mg mb : Vm} {need : Nat} {f : Addr} {fd : FuncData} {body : List Stmt} {sc : Scope} {args : List Value} {binds : List (Str × Value)} {I : Led} {it : Addr} {o : Obj} {Post : Value → Led → Obj → Prop}
    (D : Def hr f fd body sc) (R : Rt hr mg mb) (hbind : ∀ s : Shared, (∀ b o, hr.get? b = some o → s.heap.get? b = some o) → BindsTo s fd ⟨args, []⟩ binds)
    {ns : List Str} (hns : binds.map (·.1) = ns) (hk : (ns.all fun x => sc.names.lookup x == some .local || sc.names.lookup x == some .cell) = true) (hmono : ∀ v o, Mono (fun I => Post v I o))
    (h : ∀ C : Cx, C.prog = prog → C.w = w → C.hr = hr → C.A.depth + need < recursionLimit + 1 → C.A.units + 8 * need + 100 < cLine + 3 → C.A.handled = none → C.X = [it] → C.own = C.vars → Fe C sc →
      W C (bindM binds fun _ => none) I [(it, o)] (execs body C.env) fun fl m' I' Mu' => ∃ v o', fl = .ret v ∧ Mu' = [(it, o')] ∧ Post v I' o') : PSpec prog w hr need f args I it o Post := by
  intro A s E hh hd hu hroot hI hit hia hrn
  refine wpAny_mono (enter (X := [it]) (Mu := [(it, o)]) (Out := fun v I' Mu' => ∃ o', Mu' = [(it, o')] ∧ Post v I' o') D R (by omega) hh hroot (hbind s hroot) (by rw [← hns, List.all_map] at hk; exact hk) hI (fun p hp => by rw [List.mem_singleton.mp hp]; exact hit) rfl (by simp)
    (fun p hp q => hia p hp (List.mem_singleton.mp q)) (fun a ha => by rw [List.mem_singleton.mp ha]; exact hrn) fun C e1 e2 e3 e4 e5 e6 e7 e8 F => ?_) ?_ fun _ _ e => e
  · refine (h C e1 e2 e3 (by omega) (by omega) e6 e7 e8 F).mono ?_
    rintro fl m' I' Mu' ⟨v, o', rfl, rfl, hP⟩
    exact ⟨v, rfl, o', rfl, hP⟩
  · rintro v s' ⟨h', tk', I', Mu', e, k1, k2, k3, k4, o', rfl, hO⟩
    exact ⟨h', tk', I', o', e, fun b o hb => k1 b o (fun q => hb (List.mem_singleton.mp q)), k4 _ (.head _), k3, hmono v o' I' _ (fun p hp => List.mem_append.mpr (.inl hp)) hO⟩

theorem W_callP {C : Cx} {m : Vm} {I Mu : Led} {K : Value → Vm → Led → Led → Prop} {f : Addr} {args : List Value} {need : Nat} {it : Addr} {o : Obj} {Post : Value → Led → Obj → Prop} (x : PSpec C.prog C.w C.hr need f args I it o Post) (hh : C.A.handled = none) (hd : C.A.depth + need < recursionLimit) (hu : C.A.units + 8 * need + 100 < cLine)
    (k : ∀ v J o', Post v (J ++ I) o' → K v m (J ++ I) ((it, o') :: Mu)) : W C m I ((it, o) :: Mu) (call (.ref f) args) K := .mk fun E h tk S => by
  have hin : it ∈ ((it, o) :: Mu).map (·.1) := .head _
  refine wpAny_mono (x C.A (C.st h tk) E hh hd hu S.root S.led (S.mu _ (.head _)) (fun p hp q => S.ia p hp (List.mem_append.mpr (.inr (q ▸ hin)))) (S.wr it (List.mem_append.mpr (.inr hin))).1) ?_ fun _ _ e => e
  rintro v s' ⟨h', tk', J, o', rfl, hk, hg, hJ, hP⟩
  have S' : St C m I ([(it, o')] ++ Mu) h' := St.change (Ma := [(it, o)]) S (fun b o hb => hk b o (fun q => hb (by rw [q]; exact .head _))) (List.Sublist.refl _) (fun b _ q => q) (fun p hp => by rw [List.mem_singleton.mp hp]; exact hg)
  refine ⟨h', tk', m, J ++ I, (it, o') :: Mu, rfl, S'.more fun p hp => ⟨(hJ p hp).1, ?_⟩, k v J o' hP⟩
  rcases (hJ p hp).2 with q | q
  · exact ⟨S.ia p q, S.new p q⟩
  · have := S.fresh_of q
    exact ⟨this.1, .inr this.2⟩

/- what _parse computes -/
def opTab : List (Str × Int) := [(Str.ofString "||", 1), (Str.ofString "&&", 2), (Str.ofString "==", 3), (Str.ofString "!=", 3), (Str.ofString "<", 4), (Str.ofString ">", 4), (Str.ofString "<=", 4), (Str.ofString ">=", 4), (Str.ofString "+", 5), (Str.ofString "-", 5), (Str.ofString "*", 6), (Str.ofString "/", 6), (Str.ofString "%", 6)]
def opRank (x : Str) : Option Int := opTab.lookup x
def c2Tab : List (Str × Str) := [(Str.ofString "||", Str.ofString "or"), (Str.ofString "&&", Str.ofString "and"), (Str.ofString "/", Str.ofString "//")]
def c2py (x : Str) : Str := (c2Tab.lookup x).getD x
def par (x : Str) : Str := Str.ofString "(" ++ x ++ Str.ofString ")"
def nots : Nat → Str
  | 0 => Str.ofString ""
  | k + 1 => nots k ++ Str.ofString "not "
def cmpRank (i : Int) : Bool := decide (i ∈ [3, 4])

abbrev PRel := Int → List Str → Str → Str → List Str → Prop

inductive AtomR (P : PRel) : List Str → Str → List Str → Prop
  | paren {k : Nat} {ts rest : List Str} {sub : Str} : P (-1) ts sub (Str.ofString ")") rest → AtomR P (List.replicate k (Str.ofString "!") ++ (Str.ofString "(" :: ts)) (nots k ++ Str.ofString "(" ++ sub ++ Str.ofString ")") rest
  | name {k : Nat} {rest : List Str} : AtomR P (List.replicate k (Str.ofString "!") ++ (Str.ofString "n" :: rest)) (nots k ++ Str.ofString "n") rest
  | num {k : Nat} {x : Str} {v : Int} {rest : List Str} : PySem.intText? x = some v → x.length ≤ 640 → 0 ≤ v → v < 10 ^ 10 → x ≠ Str.ofString "!" → x ≠ Str.ofString "(" → x ≠ Str.ofString "n" → AtomR P (List.replicate k (Str.ofString "!") ++ (x :: rest)) (nots k ++ Str.ofString (toString v)) rest

inductive LoopR (P : PRel) (prio : Int) : Int → Str → Str → List Str → Int → Str → Str → List Str → Prop
  | stop {j : Int} {txt tok : Str} {ts : List Str} : (∀ i, opRank tok = some i → i < prio) → LoopR P prio j txt tok ts j txt tok ts
  | step {i j j' : Int} {txt tok right tok1 txt' tok' : Str} {ts ts1 ts' : List Str} : opRank tok = some i → prio ≤ i → P (i + 1) ts right tok1 ts1 →
      LoopR P prio i ((if cmpRank i && cmpRank j then par txt else txt) ++ Str.ofString " " ++ c2py tok ++ Str.ofString " " ++ right) tok1 ts1 j' txt' tok' ts' → LoopR P prio j txt tok ts j' txt' tok' ts'

inductive TailR (P : PRel) (prio : Int) : Str → Str → List Str → Str → Str → List Str → Prop
  | none {txt tok : Str} {ts : List Str} : (tok ≠ Str.ofString "?" ∨ 0 < prio) → TailR P prio txt tok ts txt tok ts
  | tern {txt t f tok' : Str} {ts ts1 ts2 : List Str} : prio ≤ 0 → P 0 ts t (Str.ofString ":") ts1 → P (-1) ts1 f tok' ts2 →
      TailR P prio txt (Str.ofString "?") ts (if prio == 0 then par (t ++ Str.ofString " if " ++ txt ++ Str.ofString " else " ++ f) else t ++ Str.ofString " if " ++ txt ++ Str.ofString " else " ++ f) tok' ts2

def ParseR : Nat → PRel
  | 0 => fun _ _ _ _ _ => False
  | d + 1 => fun prio ts txt nxt rest => ∃ t1 tok1 ts1 j t2 tok2 ts2, AtomR (ParseR d) ts t1 (tok1 :: ts1) ∧ LoopR (ParseR d) prio 100 t1 tok1 ts1 j t2 tok2 ts2 ∧ TailR (ParseR d) prio (if j == prio && prio == 4 then par t2 else t2) tok2 ts2 txt nxt rest

theorem LoopR.len {P : PRel} {prio j j' : Int} {txt tok txt' tok' : Str} {ts ts' : List Str} (h : LoopR P prio j txt tok ts j' txt' tok' ts') : txt.length ≤ txt'.length := by
  induction h with
  | stop => exact Nat.le_refl _
  | step _ _ _ _ ih =>
    simp only [str_len_app] at ih
    split at ih
    · simp only [par, str_len_app] at ih; omega
    · omega
theorem TailR.len {P : PRel} {prio : Int} {txt tok txt' tok' : Str} {ts ts' : List Str} (h : TailR P prio txt tok ts txt' tok' ts') : txt.length ≤ txt'.length := by
  cases h with
  | none => exact Nat.le_refl _
  | tern => split <;> simp only [par, str_len_app] <;> omega
end
section
theorem W_modS {C : Cx} {m : Vm} {I Mu : Led} {K : Value → Vm → Led → Led → Prop} {X y : Str} {t u : Tok} (hX : X = ⟨#[40, 37, 115, 41]⟩) (hy : y.length ≤ 1000000) (k : ∀ t', K (.str (par y) t') m I Mu) : W C m I Mu (binaryOp .Mod (.str X t) (.str y u)) K := .mk fun E h tk S =>
  KPc.mod_str (T := par) hX hy (fun z hz => fmt_paren z t u hz) fun t' _ => back S (k t')

def PostP (l : Addr) (toks : List Str) (txt nxt : Str) (rest : List Str) (v : Value) (J : Led) (o' : Obj) : Prop :=
  ∃ a t1 t2 k, v = .ref a ∧ (a, tupO [.str txt t1, .str nxt t2] k) ∈ J ∧ ∃ i, LIt l i o' ∧ toks.drop i = rest

def PCallOk (prog : Program) (w : World) (hr : Heap) (f : Addr) (need : Nat) (l it : Addr) (toks : List Str) (P : PRel) : Prop :=
  ∀ prio ts txt nxt rest, P prio ts txt nxt rest → txt.length ≤ 1000000 → ∀ (I : Led) vs k o i, (l, lstO vs k) ∈ I → Strs vs toks → LIt l i o → toks.drop i = ts →
    (∀ t, PSpec prog w hr need f [.ref it, .int prio t] I it o (PostP l toks txt nxt rest)) ∧ (prio = -1 → PSpec prog w hr need f [.ref it] I it o (PostP l toks txt nxt rest))

structure PaC (C : Cx) (mg mb : Vm) (p1 p2 p3 p4 p5 p6 p7 p8 dv : Addr) (l it : Addr) (toks : List Str) (need : Nat) (P : PRel) : Prop where
  G : Gl mg mb p1 p2 p3 p4 p5 p6 p7 p8
  R : Rt C.hr mg mb
  D : DefAt C.hr 5 "_parse" p1 (.ref dv)
  ops : ∃ f, C.hr.MapOf (strKind C.prog C.w) p7 f ∧ ∀ x, (opRank x = none → f x = none) ∧ ∀ i, opRank x = some i → ∃ t, f x = some (.int i t)
  c2 : ∃ f, C.hr.MapOf (strKind C.prog C.w) p8 f ∧ ∀ x, (c2Tab.lookup x = none → f x = none) ∧ ∀ y, c2Tab.lookup x = some y → ∃ t, f x = some (.str y t)
  s7 : (p7 == sysModules) = false
  s8 : (p8 == sysModules) = false
  F : Fe C (scopeOf (stmtAt 5))
  hh : C.A.handled = none
  own : C.own = C.vars
  hX : C.X = [it]
  dep : C.A.depth + need < recursionLimit
  un : C.A.units + 8 * need + 100 < cLine
  call : PCallOk C.prog C.w C.hr p1 need l it toks P

structure PaM (l it : Addr) (toks : List Str) (prio : Int) (ts : List Str) (m : Vm) (I Mu : Led) : Prop where
  tokens : m (Str.ofString "tokens") = some (.ref it)
  prio : ∃ t, m (Str.ofString "priority") = some (.int prio t)
  it : ∃ o i, Mu = [(it, o)] ∧ LIt l i o ∧ toks.drop i = ts
  ls : ∃ vs k, (l, lstO vs k) ∈ I ∧ Strs vs toks

structure PaV (txt tok : Str) (m : Vm) : Prop where
  res : ∃ t, m (Str.ofString "result") = some (.str txt t)
  tok : ∃ t, m (Str.ofString "nexttok") = some (.str tok t)

theorem PaM.mono {l it : Addr} {toks : List Str} {prio : Int} {ts : List Str} {m : Vm} {I J Mu : Led} (h : ∀ p ∈ I, p ∈ J) (x : PaM l it toks prio ts m I Mu) : PaM l it toks prio ts m J Mu :=
  ⟨x.tokens, x.prio, x.it, let ⟨vs, k, a, b⟩ := x.ls; ⟨vs, k, h _ a, b⟩⟩

theorem PaM.put {l it : Addr} {toks : List Str} {prio : Int} {ts : List Str} {m : Vm} {I Mu : Led} {s : Str} {v : Value} (x : PaM l it toks prio ts m I Mu) (h1 : (Str.ofString "tokens" == s) = false) (h2 : (Str.ofString "priority" == s) = false) : PaM l it toks prio ts (fun y => if y = s then some v else m y) I Mu :=
  ⟨ite_ne' h1 x.tokens, let ⟨t, e⟩ := x.prio; ⟨t, ite_ne' h2 e⟩, x.it, x.ls⟩
theorem rep_cons (n : Nat) (b x : Str) (rest : List Str) : ∃ y r, List.replicate n b ++ (x :: rest) = y :: r := by
  cases n with
  | zero => exact ⟨x, rest, rfl⟩
  | succ n => exact ⟨b, List.replicate n b ++ (x :: rest), rfl⟩

theorem drop_cons {toks ts : List Str} {x : Str} {i : Nat} (h : toks.drop i = x :: ts) : toks[i]? = some x ∧ toks.drop (i + 1) = ts := by
  constructor
  · have := congrArg (·[0]?) h
    simpa using this
  · have := congrArg (List.drop 1) h
    simpa [Nat.add_comm] using this

theorem W_nextTok {C : Cx} {m : Vm} {I Mu : Led} {K : Value → Vm → Led → Led → Prop} {l it : Addr} {toks : List Str} {prio : Int} {ts : List Str} {x : Str} (M : PaM l it toks prio (x :: ts) m I Mu) (k : ∀ t Mu', PaM l it toks prio ts m I Mu' → K (.str x t) m I Mu') : W C m I Mu (call (.builtin "next") [.ref it]) K := by
  obtain ⟨o, i, rfl, ho, hd⟩ := M.it
  obtain ⟨vs, n, hl, hs⟩ := M.ls
  have ⟨e1, e2⟩ := drop_cons hd
  obtain ⟨t, et⟩ := hs.get e1
  refine W_nextCall hl ho et fun o' ho' => k t _ ⟨M.tokens, M.prio, ⟨o', i + 1, rfl, ho', e2⟩, vs, n, hl, hs⟩

theorem nots_len : ∀ k, (nots k).length = 4 * k
  | 0 => by decide +kernel
  | k + 1 => by unfold nots; rw [str_len_app, nots_len k, show (Str.ofString "not ").length = 4 by decide +kernel]; omega

set_option maxHeartbeats 4000000 in
/-- up to the first token that is no `!` -/
theorem pa_nots {C : Cx} {mg mb : Vm} {p1 p2 p3 p4 p5 p6 p7 p8 dv : Addr} {l it : Addr} {toks : List Str} {need : Nat} {P : PRel} (X : PaC C mg mb p1 p2 p3 p4 p5 p6 p7 p8 dv l it toks need P) {prio : Int} {k : Nat} {x : Str} {rest : List Str} {m : Vm} {I Mu : Led}
    (hx : x ≠ Str.ofString "!") (hk : 4 * k ≤ 1000000) (M : PaM l it toks prio (List.replicate k (Str.ofString "!") ++ (x :: rest)) m I Mu) {KF : Flow → Vm → Led → Led → Prop}
    (K : ∀ m' I' Mu', PaM l it toks prio rest m' I' Mu' → PaV (nots k) x m' → W C m' I' Mu' (execs (List.drop 3 (bodyOf (stmtAt 5))) C.env) KF) : W C m I Mu (execs (bodyOf (stmtAt 5)) C.env) KF := by
  have hsl : sizeLine = 16777216 := rfl
  have G := X.G
  have R := X.R
  have F := X.F
  have hh := X.hh
  have mt := M.tokens
  obtain ⟨tp, mp⟩ := M.prio
  refine W_execs_cons ?_
  repeat walk_at "w1"
  have M0 : ∀ t, PaM l it toks prio (List.replicate k (Str.ofString "!") ++ (x :: rest)) (fun y => if y = Str.ofString "result" then some (Value.str (Str.ofString "") t) else m y) I Mu := fun t => ⟨by walk_at "var", ⟨tp, by walk_at "var"⟩, M.it, M.ls⟩
  have loop : ∀ m' I' Mu', (∃ (n j : Nat) (y : Str) (r : List Str), j + n = k ∧ List.replicate n (Str.ofString "!") ++ (x :: rest) = y :: r ∧ PaM l it toks prio r m' I' Mu' ∧ PaV (nots j) y m') → W C m' I' Mu' (execs (List.drop 2 (bodyOf (stmtAt 5))) C.env) KF := by
    rintro m' I' Mu' ⟨n0, j0, y0, r0, e1, e2, M1, V1⟩
    refine W_execs_cons ?_
    refine W_While (fun n m' I' Mu' => ∃ (j : Nat) (y : Str) (r : List Str), j + n = k ∧ List.replicate n (Str.ofString "!") ++ (x :: rest) = y :: r ∧ PaM l it toks prio r m' I' Mu' ∧ PaV (nots j) y m') n0 ⟨j0, y0, r0, e1, e2, M1, V1⟩ ?_
    rintro n m2 I2 Mu2 ⟨j, y, r, e1, e2, M2, V2⟩ KT hT
    obtain ⟨t1, v1⟩ := V2.res
    obtain ⟨t2, v2⟩ := V2.tok
    obtain ⟨tp2, mp2⟩ := M2.prio
    have mt2 := M2.tokens
    cases n with
    | zero =>
      simp only [List.replicate_zero, List.nil_append, List.cons.injEq] at e2
      obtain ⟨rfl, rfl⟩ := e2
      have : j = k := by omega
      subst this
      repeat walk_at "w1"
      rw [if_neg (by simpa using hx)]
      refine W_execs_nil ?_
      exact K _ _ _ M2 V2
    | succ n =>
      rw [List.replicate_succ, List.cons_append, List.cons.injEq] at e2
      obtain ⟨rfl, rfl⟩ := e2
      have hl := nots_len j
      have h4 : (Str.ofString "not ").length = 4 := by decide +kernel
      repeat walk_at "w1"
      rw [if_pos (by decide +kernel)]
      repeat walk_at "w1"
      refine W_siadd (by omega) ?_
      intro t3
      repeat walk_at "w1"
      obtain ⟨y, r, e3⟩ := rep_cons n (Str.ofString "!") x rest
      rw [e3] at M2
      refine W_nextTok (M2.put (s := Str.ofString "result") (v := .str (nots j ++ Str.ofString "not ") t3) (by decide +kernel) (by decide +kernel)) ?_
      intro t4 Mu4 M4
      repeat walk_at "w1"
      exact hT _ _ _ _ ⟨n, by omega, j + 1, y, r, by omega, e3, M4.put (by decide +kernel) (by decide +kernel), ⟨_, by walk_at "var"⟩, ⟨_, by walk_at "var"⟩⟩
  obtain ⟨y, r, e3⟩ := rep_cons k (Str.ofString "!") x rest
  rw [e3] at M0
  refine W_nextTok (M0 _) ?_
  intro t4 Mu4 M4
  walk_at "w1"
  exact loop _ _ _ ⟨k, 0, y, r, by omega, e3, M4.put (by decide +kernel) (by decide +kernel), ⟨_, by walk_at "var"⟩, ⟨_, by walk_at "var"⟩⟩
end
section
set_option maxHeartbeats 4000000 in
/-- from an atom's text to the operators -/
theorem pa_next {C : Cx} {mg mb : Vm} {p1 p2 p3 p4 p5 p6 p7 p8 dv : Addr} {l it : Addr} {toks : List Str} {need : Nat} {P : PRel} (X : PaC C mg mb p1 p2 p3 p4 p5 p6 p7 p8 dv l it toks need P) {prio : Int} {t1 tok1 : Str} {ts1 : List Str} {m : Vm} {I Mu : Led}
    (M : PaM l it toks prio (tok1 :: ts1) m I Mu) (hr : ∃ t, m (Str.ofString "result") = some (.str t1 t)) {KF : Flow → Vm → Led → Led → Prop}
    (K : ∀ m' I' Mu', PaM l it toks prio ts1 m' I' Mu' → PaV t1 tok1 m' → (∃ t, m' (Str.ofString "j") = some (.int 100 t)) → W C m' I' Mu' (execs (List.drop 6 (bodyOf (stmtAt 5))) C.env) KF) : W C m I Mu (execs (List.drop 4 (bodyOf (stmtAt 5))) C.env) KF := by
  have hsl : sizeLine = 16777216 := rfl
  have G := X.G
  have R := X.R
  have F := X.F
  have hh := X.hh
  have mt := M.tokens
  obtain ⟨tr, hr⟩ := hr
  refine W_execs_cons ?_
  repeat walk_at "w1"
  refine W_nextTok M ?_
  intro t4 Mu4 M4
  walk_at "w1"
  refine W_execs_cons ?_
  refine W_Assign_Name rfl ?_
  refine W_int ?_
  intro tj
  walk_at "w1"
  refine K _ _ _ ((M4.put (by decide +kernel) (by decide +kernel)).put (by decide +kernel) (by decide +kernel)) ⟨⟨tr, by walk_at "var"⟩, ⟨t4, by walk_at "var"⟩⟩ ⟨tj, by walk_at "var"⟩

theorem lenS : (Str.ofString "(").length = 1 ∧ (Str.ofString ")").length = 1 ∧ (Str.ofString "n").length = 1 ∧ (Str.ofString " ").length = 1 ∧ (Str.ofString " if ").length = 4 ∧ (Str.ofString " else ").length = 6 ∧ Str.empty.length = 0 := by decide +kernel

set_option maxHeartbeats 4000000 in
theorem pa_atom {C : Cx} {mg mb : Vm} {p1 p2 p3 p4 p5 p6 p7 p8 dv : Addr} {l it : Addr} {toks : List Str} {need : Nat} {P : PRel} (X : PaC C mg mb p1 p2 p3 p4 p5 p6 p7 p8 dv l it toks need P) {prio : Int} {t1 tok1 : Str} {ts ts1 : List Str} {m : Vm} {I Mu : Led}
    (A : AtomR P ts t1 (tok1 :: ts1)) (ht : t1.length ≤ 1000000) (M : PaM l it toks prio ts m I Mu) {KF : Flow → Vm → Led → Led → Prop}
    (K : ∀ m' I' Mu', PaM l it toks prio ts1 m' I' Mu' → PaV t1 tok1 m' → (∃ t, m' (Str.ofString "j") = some (.int 100 t)) → W C m' I' Mu' (execs (List.drop 6 (bodyOf (stmtAt 5))) C.env) KF) : W C m I Mu (execs (bodyOf (stmtAt 5)) C.env) KF := by
  have hsl : sizeLine = 16777216 := rfl
  have hcl : cLine = 9900 := rfl
  have G := X.G
  have R := X.R
  have F := X.F
  have hh := X.hh
  have hd := X.dep
  have hu := X.un
  obtain ⟨l1, l2, l3, l4, l5, l6, l7⟩ := lenS
  cases A with
  | @paren k ts2 _ sub hP =>
    have hnl := nots_len k
    simp only [str_len_app] at ht
    refine pa_nots X (by decide +kernel) (by omega) M ?_
    intro m1 I1 Mu1 M1 V1
    obtain ⟨tr, vr⟩ := V1.res
    obtain ⟨tt, vt⟩ := V1.tok
    have mt := M1.tokens
    obtain ⟨o, i, rfl, ho, hdr⟩ := M1.it
    obtain ⟨vs, n, hl, hs⟩ := M1.ls
    have hsub : sub.length ≤ sizeLine := by omega
    have hno : (nots k).length ≤ sizeLine := by omega
    refine W_execs_cons ?_
    repeat walk_at "w1"
    rw [if_pos (by decide +kernel)]
    repeat walk_at "w1"
    refine W_withDef' X.D rfl ?_
    repeat walk_at "w1"
    refine W_callP ((X.call _ _ _ _ _ hP (by omega) _ _ _ _ _ hl hs ho hdr).2 rfl) hh hd hu ?_
    rintro v J o' ⟨a, u1, u2, n2, rfl, ha, i', ho', hd'⟩
    repeat walk_at "w1"
    refine W_inOrder_cons ?_
    refine W_assignName ?_
    repeat walk_at "w1"
    refine W_inOrder_cons ?_
    refine W_assignName ?_
    repeat walk_at "w1"
    refine W_inOrder_nil ?_
    repeat walk_at "w1"
    refine W_Joined ?_
    refine W_joins_cons ?_
    refine W_FmtS ?_
    repeat walk_at "w1"
    refine ⟨_, _, rfl, by omega, fun _ => ⟨_, _, rfl, by simp only [str_len_app]; omega, ?_⟩⟩
    refine W_joins_cons ?_
    repeat walk_at "w1"
    refine ⟨_, _, rfl, by simp only [str_len_app]; omega, ?_⟩
    refine W_joins_cons ?_
    refine W_FmtS ?_
    repeat walk_at "w1"
    refine ⟨_, _, rfl, by omega, fun _ => ⟨_, _, rfl, by simp only [str_len_app]; omega, ?_⟩⟩
    refine W_joins_cons ?_
    repeat walk_at "w1"
    refine ⟨_, _, rfl, by simp only [str_len_app]; omega, ?_⟩
    refine W_joins_nil (by simp only [str_len_app]; omega) ?_
    intro tj
    rw [str_empty_app]
    walk_at "w1"
    refine W_execs_cons ?_
    repeat walk_at "w1"
    rw [if_neg (by decide +kernel)]
    refine W_execs_nil ?_
    refine W_execs_nil ?_
    refine pa_next X (t1 := nots k ++ Str.ofString "(" ++ sub ++ Str.ofString ")") (tok1 := tok1) (ts1 := ts1) (((?_ : PaM l it toks prio (tok1 :: ts1) m1 (J ++ I1) _).put (by decide +kernel) (by decide +kernel)).put (by decide +kernel) (by decide +kernel) |>.put (by decide +kernel) (by decide +kernel)) ⟨tj, by walk_at "var"⟩ K
    exact ⟨M1.tokens, M1.prio, ⟨o', i', rfl, ho', hd'⟩, vs, n, List.mem_append.mpr (.inr hl), hs⟩
  | @name k _ =>
    have hnl := nots_len k
    simp only [str_len_app] at ht
    refine pa_nots X (by decide +kernel) (by omega) M ?_
    intro m1 I1 Mu1 M1 V1
    obtain ⟨tr, vr⟩ := V1.res
    obtain ⟨tt, vt⟩ := V1.tok
    have mt := M1.tokens
    refine W_execs_cons ?_
    repeat walk_at "w1"
    rw [if_neg (by decide +kernel)]
    repeat walk_at "w1"
    rw [if_pos (by decide +kernel)]
    repeat walk_at "w1"
    refine W_Joined ?_
    refine W_joins_cons ?_
    refine W_FmtS ?_
    repeat walk_at "w1"
    refine ⟨_, _, rfl, by omega, fun _ => ⟨_, _, rfl, by simp only [str_len_app]; omega, ?_⟩⟩
    refine W_joins_cons ?_
    refine W_FmtS ?_
    repeat walk_at "w1"
    refine ⟨_, _, rfl, by omega, fun _ => ⟨_, _, rfl, by simp only [str_len_app]; omega, ?_⟩⟩
    refine W_joins_nil (by simp only [str_len_app]; omega) ?_
    intro tj
    rw [str_empty_app]
    walk_at "w1"
    refine W_execs_nil ?_
    refine W_execs_nil ?_
    exact pa_next X (M1.put (by decide +kernel) (by decide +kernel)) ⟨tj, by walk_at "var"⟩ K
  | @num k x v _ hx hx2 h0 h1 n1 n2 n3 =>
    have hnl := nots_len k
    simp only [str_len_app] at ht
    refine pa_nots X n1 (by omega) M ?_
    intro m1 I1 Mu1 M1 V1
    obtain ⟨tr, vr⟩ := V1.res
    obtain ⟨tt, vt⟩ := V1.tok
    have mt := M1.tokens
    refine W_execs_cons ?_
    repeat walk_at "w1"
    rw [if_neg (by simpa using n2)]
    repeat walk_at "w1"
    rw [if_neg (by simpa using n3)]
    repeat walk_at "w1"
    refine W_intText10 hx hx2 ?_
    intro tv
    repeat walk_at "w1"
    refine W_modT (X' := ⟨#[37, 115, 37, 100]⟩) (T := nots k ++ Str.ofString (toString v)) (by decide +kernel) (by walk_at "has") (fun t => fmt_int _ _ _ _ _ _ (by omega) h0 h1) ?_
    intro tj
    walk_at "w1"
    refine W_execs_nil ?_
    refine W_execs_nil ?_
    exact pa_next X (((M1.mono fun p hp => List.mem_cons_of_mem _ hp).put (by decide +kernel) (by decide +kernel)).put (by decide +kernel) (by decide +kernel)) ⟨tj, by walk_at "var"⟩ K
end
section
set_option maxHeartbeats 4000000 in
theorem pa_loop {C : Cx} {mg mb : Vm} {p1 p2 p3 p4 p5 p6 p7 p8 dv : Addr} {l it : Addr} {toks : List Str} {need : Nat} {P : PRel} (X : PaC C mg mb p1 p2 p3 p4 p5 p6 p7 p8 dv l it toks need P) {prio j j' : Int} {txt tok txt' tok' : Str} {ts ts' : List Str} {m : Vm} {I Mu : Led}
    (L : LoopR P prio j txt tok ts j' txt' tok' ts') (ht : txt'.length ≤ 1000000) (M : PaM l it toks prio ts m I Mu) (V : PaV txt tok m) (J : ∃ t, m (Str.ofString "j") = some (.int j t)) {KF : Flow → Vm → Led → Led → Prop}
    (K : ∀ m' I' Mu', PaM l it toks prio ts' m' I' Mu' → PaV txt' tok' m' → (∃ t, m' (Str.ofString "j") = some (.int j' t)) → W C m' I' Mu' (execs (List.drop 7 (bodyOf (stmtAt 5))) C.env) KF) : W C m I Mu (execs (List.drop 6 (bodyOf (stmtAt 5))) C.env) KF := by
  have hsl : sizeLine = 16777216 := rfl
  have hcl : cLine = 9900 := rfl
  have G := X.G
  have R := X.R
  have F := X.F
  have hh := X.hh
  have hd := X.dep
  have hu := X.un
  obtain ⟨l1, l2, l3, l4, l5, l6, l7⟩ := lenS
  obtain ⟨fo, mo, ho⟩ := X.ops
  obtain ⟨fc, mc, hc⟩ := X.c2
  refine W_execs_cons ?_
  refine W_While (fun n m' I' Mu' => ∃ j txt tok ts, n = txt'.length - txt.length ∧ LoopR P prio j txt tok ts j' txt' tok' ts' ∧ PaM l it toks prio ts m' I' Mu' ∧ PaV txt tok m' ∧ ∃ t, m' (Str.ofString "j") = some (.int j t)) (txt'.length - txt.length) ⟨j, txt, tok, ts, rfl, L, M, V, J⟩ ?_
  rintro n m2 I2 Mu2 ⟨j, txt, tok, ts, rfl, L, M2, V2, tj, vj⟩ KT hTT
  obtain ⟨tr, vr⟩ := V2.res
  obtain ⟨tt, vt⟩ := V2.tok
  obtain ⟨tp, vp⟩ := M2.prio
  have mt := M2.tokens
  cases L with
  | stop hstop =>
    repeat walk_at "w1"
    refine W_inD X.s7 mo ?_
    repeat walk_at "w1"
    cases hr : opRank tok' with
    | none =>
      rw [(ho tok').1 hr]
      rw [if_neg (by simp)]
      refine W_execs_nil ?_
      exact K _ _ _ M2 V2 ⟨tj, vj⟩
    | some i =>
      obtain ⟨ti, ei⟩ := (ho tok').2 i hr
      rw [ei, if_pos (by rfl)]
      repeat walk_at "w1"
      refine W_itemD rfl mo ei ?_
      repeat walk_at "w1"
      rw [if_pos (decide_eq_true (hstop i hr))]
      refine W_execs_cons ?_
      refine W_Break ?_
      exact hTT .brk _ _ _ <| K _ _ _ (M2.put (by decide +kernel) (by decide +kernel)) ⟨⟨tr, by walk_at "var"⟩, ⟨tt, by walk_at "var"⟩⟩ ⟨tj, by walk_at "var"⟩
  | @step i _ _ _ _ right tok1 _ _ _ ts1 _ hr hpi hP hL =>
    obtain ⟨ti, ei⟩ := (ho tok).2 i hr
    have hlen := hL.len
    repeat walk_at "w1"
    refine W_inD X.s7 mo ?_
    repeat walk_at "w1"
    rw [ei, if_pos (by rfl)]
    repeat walk_at "w1"
    refine W_itemD rfl mo ei ?_
    repeat walk_at "w1"
    rw [if_neg (by simp; omega)]
    refine W_execs_nil ?_
    refine W_cut (fun m3 I3 Mu3 => Mu3 = Mu2 ∧ (∀ p ∈ I2, p ∈ I3) ∧ PaM l it toks prio ts m3 I3 Mu3 ∧ PaV (if cmpRank i && cmpRank j then par txt else txt) tok m3 ∧ m3 (Str.ofString "i") = some (.int i ti)) ?_ ?_
    · refine W.gen fun K' hK => ?_
      repeat walk_at "w1"
      by_cases h1 : i ∈ [3, 4]
      · rw [if_pos (decide_eq_true h1)]
        repeat walk_at "w1"
        by_cases h2 : j ∈ [3, 4]
        · rw [if_pos (decide_eq_true h2)]
          repeat walk_at "w1"
          have hcond : (cmpRank i && cmpRank j) = true := by unfold cmpRank; rw [decide_eq_true h1, decide_eq_true h2]; rfl
          simp only [hcond, if_true, par, str_len_app] at hlen
          rw [if_pos rfl]
          repeat walk_at "w1"
          refine W_modS (by decide +kernel) (by omega) ?_
          intro t3
          repeat walk_at "w1"
          exact hK _ _ _ _ ⟨rfl, rfl, fun p hp => by walk_at "mem", ((M2.mono fun p hp => by walk_at "mem").put (by decide +kernel) (by decide +kernel)).put (by decide +kernel) (by decide +kernel), by rw [if_pos hcond]; exact ⟨⟨t3, by walk_at "var"⟩, ⟨tt, by walk_at "var"⟩⟩, by walk_at "var"⟩
        · rw [if_neg (by simpa using h2)]
          have hcond : ¬ (cmpRank i && cmpRank j) = true := by unfold cmpRank; rw [decide_eq_false h2]; simp
          rw [if_neg (by simp)]
          repeat walk_at "w1"
          exact hK _ _ _ _ ⟨rfl, rfl, fun p hp => by walk_at "mem", (M2.mono fun p hp => by walk_at "mem").put (by decide +kernel) (by decide +kernel), by rw [if_neg hcond]; exact ⟨⟨tr, by walk_at "var"⟩, ⟨tt, by walk_at "var"⟩⟩, by walk_at "var"⟩
      · rw [if_neg (by simpa using h1)]
        have hcond : ¬ (cmpRank i && cmpRank j) = true := by unfold cmpRank; rw [decide_eq_false h1]; simp
        rw [if_neg (by simp)]
        repeat walk_at "w1"
        exact hK _ _ _ _ ⟨rfl, rfl, fun p hp => by walk_at "mem", (M2.mono fun p hp => by walk_at "mem").put (by decide +kernel) (by decide +kernel), by rw [if_neg hcond]; exact ⟨⟨tr, by walk_at "var"⟩, ⟨tt, by walk_at "var"⟩⟩, by walk_at "var"⟩
    generalize hT : (if (cmpRank i && cmpRank j) = true then par txt else txt) = T at *
    have hTl : txt.length ≤ T.length := by
      rw [← hT]; split
      · simp only [par, str_len_app]; omega
      · exact Nat.le_refl _
    rintro m3 I3 Mu3 ⟨rfl, hsub3, M3, V3, vi⟩
    obtain ⟨tr3, vr3⟩ := V3.res
    obtain ⟨tt3, vt3⟩ := V3.tok
    have mt3 := M3.tokens
    obtain ⟨o, k, rfl, hio, hdr⟩ := M3.it
    obtain ⟨vs, n, hl, hs⟩ := M3.ls
    simp only [str_len_app] at hlen
    refine W_cut (fun m4 I4 Mu4 => I4 = I3 ∧ Mu4 = [(it, o)] ∧ ∃ t, m4 = fun y => if y = Str.ofString "op" then some (.str (c2py tok) t) else m3 y) ?_ ?_
    · refine W.gen fun K' hK => ?_
      repeat walk_at "w1"
      obtain ⟨od, es, ep, eo, xo, _⟩ := id mc
      refine Meth_dict PySem.F.slot_dict_get PySem.F.type_dict_get eo xo.1 xo.2.1 ?_
      refine W_getD X.s8 mc rfl ?_
      repeat walk_at "w1"
      refine ⟨_, _, rfl, ?_⟩
      have hg : ∃ t, (fc tok).getD (.str tok tt3) = .str (c2py tok) t := by
        cases hq : c2Tab.lookup tok with
        | none => rw [(hc tok).1 hq]; unfold c2py; rw [hq]; exact ⟨_, rfl⟩
        | some y => obtain ⟨ty, e⟩ := (hc tok).2 y hq; rw [e]; unfold c2py; rw [hq]; exact ⟨_, rfl⟩
      obtain ⟨tg, eg⟩ := hg
      rw [eg]
      repeat walk_at "w1"
      exact hK _ _ _ _ ⟨rfl, rfl, rfl, tg, rfl⟩
    rintro m4 I4 Mu4 ⟨rfl, rfl, t4, rfl⟩
    refine W_execs_cons ?_
    repeat walk_at "w1"
    refine W_withDef' X.D rfl ?_
    repeat walk_at "w1"
    refine W_callP ((X.call _ _ _ _ _ hP (by omega) _ _ _ _ _ hl hs hio hdr).1 _) hh hd hu ?_
    rintro v J o' ⟨a, u1, u2, n2, rfl, ha, i', ho', hd'⟩
    repeat walk_at "w1"
    refine W_inOrder_cons ?_
    refine W_assignName ?_
    repeat walk_at "w1"
    refine W_inOrder_cons ?_
    refine W_assignName ?_
    repeat walk_at "w1"
    refine W_inOrder_nil ?_
    repeat walk_at "w1"
    refine W_Joined ?_
    refine W_joins_cons ?_
    refine W_FmtS ?_
    repeat walk_at "w1"
    refine ⟨_, _, rfl, by omega, fun _ => ⟨_, _, rfl, by simp only [str_len_app]; omega, ?_⟩⟩
    refine W_joins_cons ?_
    repeat walk_at "w1"
    refine ⟨_, _, rfl, by simp only [str_len_app]; omega, ?_⟩
    refine W_joins_cons ?_
    refine W_FmtS ?_
    repeat walk_at "w1"
    refine ⟨_, _, rfl, by omega, fun _ => ⟨_, _, rfl, by simp only [str_len_app]; omega, ?_⟩⟩
    refine W_joins_cons ?_
    repeat walk_at "w1"
    refine ⟨_, _, rfl, by simp only [str_len_app]; omega, ?_⟩
    refine W_joins_cons ?_
    refine W_FmtS ?_
    repeat walk_at "w1"
    refine ⟨_, _, rfl, by omega, fun _ => ⟨_, _, rfl, by simp only [str_len_app]; omega, ?_⟩⟩
    refine W_joins_nil (by simp only [str_len_app]; omega) ?_
    intro t5
    rw [str_empty_app]
    repeat walk_at "w1"
    refine hTT _ _ _ _ ⟨_, ?_, i, _, tok1, ts1, rfl, hL, ((((?_ : PaM l it toks prio ts1 m3 (J ++ I4) _).put (by decide +kernel) (by decide +kernel)).put (by decide +kernel) (by decide +kernel) |>.put (by decide +kernel) (by decide +kernel)).put (by decide +kernel) (by decide +kernel)).put (by decide +kernel) (by decide +kernel), ⟨⟨t5, by walk_at "var"⟩, ⟨u2, by walk_at "var"⟩⟩, ⟨ti, by walk_at "var"⟩⟩
    · simp only [str_len_app]; omega
    · exact ⟨M3.tokens, M3.prio, ⟨o', i', rfl, ho', hd'⟩, vs, n, List.mem_append.mpr (.inr hl), hs⟩
end
section
abbrev PaK (l it : Addr) (toks : List Str) (txt nxt : Str) (rest : List Str) : Flow → Vm → Led → Led → Prop := fun fl m' I' Mu' => ∃ v o', fl = .ret v ∧ Mu' = [(it, o')] ∧ PostP l toks txt nxt rest v I' o'

set_option maxHeartbeats 4000000 in
theorem pa_ret {C : Cx} {mg mb : Vm} {p1 p2 p3 p4 p5 p6 p7 p8 dv : Addr} {l it : Addr} {toks : List Str} {need : Nat} {P : PRel} (X : PaC C mg mb p1 p2 p3 p4 p5 p6 p7 p8 dv l it toks need P) {prio : Int} {txt tok : Str} {ts : List Str} {m : Vm} {I Mu : Led}
    (M : PaM l it toks prio ts m I Mu) (V : PaV txt tok m) : W C m I Mu (execs (List.drop 9 (bodyOf (stmtAt 5))) C.env) (PaK l it toks txt tok ts) := by
  have hsl : sizeLine = 16777216 := rfl
  have F := X.F
  obtain ⟨tr, vr⟩ := V.res
  obtain ⟨tt, vt⟩ := V.tok
  obtain ⟨o, i, rfl, ho, hdr⟩ := M.it
  refine W_execs_cons ?_
  repeat walk_at "w1"
  exact ⟨_, _, rfl, rfl, _, _, _, _, rfl, List.mem_cons_self, _, ho, hdr⟩

set_option maxHeartbeats 4000000 in
theorem pa_tail {C : Cx} {mg mb : Vm} {p1 p2 p3 p4 p5 p6 p7 p8 dv : Addr} {l it : Addr} {toks : List Str} {need : Nat} {P : PRel} (X : PaC C mg mb p1 p2 p3 p4 p5 p6 p7 p8 dv l it toks need P) {prio j : Int} {t2 tok2 txt nxt : Str} {ts2 rest : List Str} {m : Vm} {I Mu : Led}
    (T : TailR P prio (if j == prio && prio == 4 then par t2 else t2) tok2 ts2 txt nxt rest) (ht : txt.length ≤ 1000000) (M : PaM l it toks prio ts2 m I Mu) (V : PaV t2 tok2 m) (J : ∃ t, m (Str.ofString "j") = some (.int j t)) :
    W C m I Mu (execs (List.drop 7 (bodyOf (stmtAt 5))) C.env) (PaK l it toks txt nxt rest) := by
  have hsl : sizeLine = 16777216 := rfl
  have hcl : cLine = 9900 := rfl
  have G := X.G
  have R := X.R
  have F := X.F
  have hh := X.hh
  have hd := X.dep
  have hu := X.un
  obtain ⟨l1, l2, l3, l4, l5, l6, l7⟩ := lenS
  obtain ⟨tj, vj⟩ := J
  obtain ⟨tr, vr⟩ := V.res
  obtain ⟨tt, vt⟩ := V.tok
  obtain ⟨tp, vp⟩ := M.prio
  have hl0 := T.len
  refine W_execs_cons ?_
  refine W_mid (fun m' I' Mu' => I' = I ∧ Mu' = Mu ∧ PaM l it toks prio ts2 m' I' Mu' ∧ PaV (if j == prio && prio == 4 then par t2 else t2) tok2 m') ?_ ?_
  · refine W.gen fun K' hK => ?_
    repeat walk_at "w1"
    refine W_link ?_
    repeat walk_at "w1"
    by_cases e1 : j = prio
    · rw [if_pos (by simpa using e1)]
      refine W_last ?_
      repeat walk_at "w1"
      by_cases e2 : prio = 4
      · have hc : (j == prio && prio == 4) = true := by simp [e1, e2]
        simp only [hc, if_true, par, str_len_app] at hl0
        rw [if_pos (by simpa using e2)]
        repeat walk_at "w1"
        refine W_modS (by decide +kernel) (by omega) ?_
        intro t3
        repeat walk_at "w1"
        exact hK _ _ _ _ ⟨rfl, rfl, rfl, M.put (by decide +kernel) (by decide +kernel), by rw [if_pos hc]; exact ⟨⟨t3, by walk_at "var"⟩, ⟨tt, by walk_at "var"⟩⟩⟩
      · have hc : ¬ (j == prio && prio == 4) = true := by simp [e2]
        rw [if_neg (by simpa using e2)]
        repeat walk_at "w1"
        exact hK _ _ _ _ ⟨rfl, rfl, rfl, M, by rw [if_neg hc]; exact V⟩
    · have hc : ¬ (j == prio && prio == 4) = true := by simp [e1]
      rw [if_neg (by simpa using e1)]
      rw [if_neg (by simp)]
      repeat walk_at "w1"
      exact hK _ _ _ _ ⟨rfl, rfl, rfl, M, by rw [if_neg hc]; exact V⟩
  generalize (if (j == prio && prio == 4) = true then par t2 else t2) = T2 at *
  rintro m2 I2 Mu2 ⟨rfl, rfl, M2, V2⟩
  obtain ⟨tr2, vr2⟩ := V2.res
  obtain ⟨tt2, vt2⟩ := V2.tok
  obtain ⟨tp2, vp2⟩ := M2.prio
  have mt2 := M2.tokens
  refine W_execs_cons ?_
  cases T with
  | none hno =>
    repeat walk_at "w1"
    by_cases e1 : tok2 = Str.ofString "?"
    · rw [if_pos (by simpa using e1)]
      repeat walk_at "w1"
      rw [if_neg (by rcases hno with q | q; exact absurd e1 q; simp; omega)]
      rw [if_neg (by simp)]
      refine W_execs_nil ?_
      exact pa_ret X M2 V2
    · rw [if_neg (by simpa using e1)]
      rw [if_neg (by simp)]
      refine W_execs_nil ?_
      exact pa_ret X M2 V2
  | tern hp0 hP1 hP2 =>
    rename_i t f ts1
    have hbig : t.length + 4 + T2.length + 6 + f.length ≤ 1000000 := by
      revert ht; split
      · simp only [par, str_len_app]; omega
      · simp only [str_len_app]; omega
    repeat walk_at "w1"
    rw [if_pos (by decide +kernel)]
    repeat walk_at "w1"
    rw [if_pos (decide_eq_true hp0)]
    repeat walk_at "w1"
    rw [if_pos rfl]
    obtain ⟨o, i, rfl, ho, hdr⟩ := M2.it
    obtain ⟨vs, n, hl, hs⟩ := M2.ls
    repeat walk_at "w1"
    refine W_withDef' X.D rfl ?_
    repeat walk_at "w1"
    refine W_callP ((X.call _ _ _ _ _ hP1 (by omega) _ _ _ _ _ hl hs ho hdr).1 _) hh hd hu ?_
    rintro v J o1 ⟨a, u1, u2, n2, rfl, ha, i1, ho1, hd1⟩
    repeat walk_at "w1"
    refine W_inOrder_cons ?_
    refine W_assignName ?_
    repeat walk_at "w1"
    refine W_inOrder_cons ?_
    refine W_assignName ?_
    repeat walk_at "w1"
    refine W_inOrder_nil ?_
    repeat walk_at "w1"
    rw [if_neg (by decide +kernel)]
    repeat walk_at "w1"
    refine W_withDef' X.D rfl ?_
    repeat walk_at "w1"
    refine W_callP ((X.call _ _ _ _ _ hP2 (by omega) _ _ _ _ _ (by walk_at "mem") hs ho1 hd1).2 rfl) hh hd hu ?_
    rintro v J2 o2 ⟨a2, u3, u4, n3, rfl, ha2, i2, ho2, hd2⟩
    repeat walk_at "w1"
    refine W_inOrder_cons ?_
    refine W_assignName ?_
    repeat walk_at "w1"
    refine W_inOrder_cons ?_
    refine W_assignName ?_
    repeat walk_at "w1"
    refine W_inOrder_nil ?_
    repeat walk_at "w1"
    refine W_Joined ?_
    refine W_joins_cons ?_
    refine W_FmtS ?_
    repeat walk_at "w1"
    refine ⟨_, _, rfl, by omega, fun _ => ⟨_, _, rfl, by simp only [str_len_app]; omega, ?_⟩⟩
    refine W_joins_cons ?_
    repeat walk_at "w1"
    refine ⟨_, _, rfl, by simp only [str_len_app]; omega, ?_⟩
    refine W_joins_cons ?_
    refine W_FmtS ?_
    repeat walk_at "w1"
    refine ⟨_, _, rfl, by omega, fun _ => ⟨_, _, rfl, by simp only [str_len_app]; omega, ?_⟩⟩
    refine W_joins_cons ?_
    repeat walk_at "w1"
    refine ⟨_, _, rfl, by simp only [str_len_app]; omega, ?_⟩
    refine W_joins_cons ?_
    refine W_FmtS ?_
    repeat walk_at "w1"
    refine ⟨_, _, rfl, by omega, fun _ => ⟨_, _, rfl, by simp only [str_len_app]; omega, ?_⟩⟩
    refine W_joins_nil (by simp only [str_len_app]; omega) ?_
    intro t5
    rw [str_empty_app]
    repeat walk_at "w1"
    have M3 : PaM l it toks prio rest m2 (J2 ++ (J ++ I2)) [(it, o2)] := ⟨M2.tokens, M2.prio, ⟨o2, i2, rfl, ho2, hd2⟩, vs, n, by walk_at "mem", hs⟩
    by_cases e0 : prio = 0
    · rw [if_pos (by simpa using e0)]
      repeat walk_at "w1"
      refine W_modS (by decide +kernel) (by simp only [str_len_app]; omega) ?_
      intro t6
      walk_at "w1"
      refine W_execs_nil ?_
      refine W_execs_nil ?_
      rw [if_pos (by simpa using e0)]
      exact pa_ret X ((((((M3.put (by decide +kernel) (by decide +kernel)).put (by decide +kernel) (by decide +kernel)).put (by decide +kernel) (by decide +kernel)).put (by decide +kernel) (by decide +kernel)).put (by decide +kernel) (by decide +kernel)).put (by decide +kernel) (by decide +kernel)) ⟨⟨t6, by walk_at "var"⟩, ⟨u4, by walk_at "var"⟩⟩
    · rw [if_neg (by simpa using e0)]
      refine W_execs_nil ?_
      refine W_execs_nil ?_
      rw [if_neg (by simpa using e0)]
      exact pa_ret X (((((M3.put (by decide +kernel) (by decide +kernel)).put (by decide +kernel) (by decide +kernel)).put (by decide +kernel) (by decide +kernel)).put (by decide +kernel) (by decide +kernel)).put (by decide +kernel) (by decide +kernel)) ⟨⟨t5, by walk_at "var"⟩, ⟨u4, by walk_at "var"⟩⟩
end
section
theorem PostP.mono {l : Addr} {toks : List Str} {txt nxt : Str} {rest : List Str} {v : Value} {o : Obj} : Mono (fun I => PostP l toks txt nxt rest v I o) := fun I J h ⟨a, t1, t2, k, e, g, r⟩ => ⟨a, t1, t2, k, e, h _ g, r⟩

structure PaD (prog : Program) (w : World) (hr : Heap) (p1 p7 p8 dv : Addr) : Prop where
  D : DefAt hr 5 "_parse" p1 (.ref dv)
  dft : ∃ o n t, hr.get? dv = some o ∧ o.data = .seq #[.int (-1) t] n
  ops : ∃ f, hr.MapOf (strKind prog w) p7 f ∧ ∀ x, (opRank x = none → f x = none) ∧ ∀ i, opRank x = some i → ∃ t, f x = some (.int i t)
  c2 : ∃ f, hr.MapOf (strKind prog w) p8 f ∧ ∀ x, (c2Tab.lookup x = none → f x = none) ∧ ∀ y, c2Tab.lookup x = some y → ∃ t, f x = some (.str y t)
  s7 : (p7 == sysModules) = false
  s8 : (p8 == sysModules) = false

set_option maxHeartbeats 4000000 in
theorem parse_spec {prog : Program} {w : World} {hr : Heap} {mg mb : Vm} {p1 p2 p3 p4 p5 p6 p7 p8 dv : Addr} (G : Gl mg mb p1 p2 p3 p4 p5 p6 p7 p8) (R : Rt hr mg mb) (D : PaD prog w hr p1 p7 p8 dv) {l it : Addr} {toks : List Str} : ∀ d, PCallOk prog w hr p1 d l it toks (ParseR d) := by
  intro d
  induction d with
  | zero => intro prio ts txt nxt rest h; exact h.elim
  | succ d ih =>
    intro prio ts txt nxt rest h ht I vs k o i hl hs ho hdr
    obtain ⟨t1, tok1, ts1, j, t2, tok2, ts2, hA, hL, hT⟩ := h
    have e3 := hT.len
    have e2 := hL.len
    have e3' : t2.length ≤ (if (j == prio && prio == 4) = true then par t2 else t2).length := by
      split
      · simp only [par, str_len_app]; omega
      · exact Nat.le_refl _
    have run : ∀ (C : Cx) (m : Vm), C.prog = prog → C.w = w → C.hr = hr → C.A.depth + (d + 1) < recursionLimit + 1 → C.A.units + 8 * (d + 1) + 100 < cLine + 3 → C.A.handled = none → C.X = [it] → C.own = C.vars → Fe C (scopeOf (stmtAt 5)) →
        m (Str.ofString "tokens") = some (.ref it) → (∃ t, m (Str.ofString "priority") = some (.int prio t)) → W C m I [(it, o)] (execs (bodyOf (stmtAt 5)) C.env) (PaK l it toks txt nxt rest) := by
      intro C m f1 f2 f3 hd hu hh hX hown F m1 m2
      subst f1 f2 f3
      have X : PaC C mg mb p1 p2 p3 p4 p5 p6 p7 p8 dv l it toks d (ParseR d) := ⟨G, R, D.D, D.ops, D.c2, D.s7, D.s8, F, hh, hown, hX, by omega, by omega, ih⟩
      refine pa_atom X hA (by omega) ⟨m1, m2, ⟨o, i, rfl, ho, hdr⟩, vs, k, hl, hs⟩ ?_
      intro m' I' Mu' M V J
      refine pa_loop X hL (by omega) M V J ?_
      intro m' I' Mu' M V J
      exact pa_tail X hT ht M V J
    obtain ⟨kV, doc, pm, an, cdv, ct, D'⟩ := id D.D
    obtain ⟨od, nd, td, ed, ed2⟩ := D.dft
    refine ⟨fun t => ?_, fun e => ?_⟩
    · refine PSpec.intro D' R (binds := [("tokens", .ref it), ("priority", .int prio t)]) (ns := ["tokens", "priority"]) (fun s hk => BindsTo.of_defaults rfl (hk _ _ ed) ed2 (by with_unfolding_all rfl) (by with_unfolding_all rfl)) rfl (by decide +kernel) (fun v o => PostP.mono) ?_
      intro C f1 f2 f3 hd hu hh hX hown F
      exact run C _ f1 f2 f3 hd hu hh hX hown F rfl ⟨t, rfl⟩
    · subst e
      refine PSpec.intro D' R (binds := [("tokens", .ref it), ("priority", .int (-1) td)]) (ns := ["tokens", "priority"]) (fun s hk => BindsTo.of_defaults rfl (hk _ _ ed) ed2 (by with_unfolding_all rfl) (by with_unfolding_all rfl)) rfl (by decide +kernel) (fun v o => PostP.mono) ?_
      intro C f1 f2 f3 hd hu hh hX hown F
      exact run C _ f1 f2 f3 hd hu hh hX hown F rfl ⟨td, rfl⟩
end
section
inductive Op
  | or | and | eq | ne | lt | gt | le | ge | add | sub | mul | div | mod
def Op.tok : Op → Str
  | .or => Str.ofString "||" | .and => Str.ofString "&&" | .eq => Str.ofString "==" | .ne => Str.ofString "!=" | .lt => Str.ofString "<" | .gt => Str.ofString ">" | .le => Str.ofString "<=" | .ge => Str.ofString ">="
  | .add => Str.ofString "+" | .sub => Str.ofString "-" | .mul => Str.ofString "*" | .div => Str.ofString "/" | .mod => Str.ofString "%"
def Op.py : Op → Str
  | .or => Str.ofString "or" | .and => Str.ofString "and" | .eq => Str.ofString "==" | .ne => Str.ofString "!=" | .lt => Str.ofString "<" | .gt => Str.ofString ">" | .le => Str.ofString "<=" | .ge => Str.ofString ">="
  | .add => Str.ofString "+" | .sub => Str.ofString "-" | .mul => Str.ofString "*" | .div => Str.ofString "//" | .mod => Str.ofString "%"
def Op.pr : Op → Int
  | .or => 1 | .and => 2 | .eq => 3 | .ne => 3 | .lt => 4 | .gt => 4 | .le => 4 | .ge => 4 | .add => 5 | .sub => 5 | .mul => 6 | .div => 6 | .mod => 6
def Op.lr : Op → Nat
  | .or => 1 | .and => 2 | .eq => 4 | .ne => 4 | .lt => 5 | .gt => 5 | .le => 5 | .ge => 5 | .add => 6 | .sub => 6 | .mul => 7 | .div => 7 | .mod => 7
theorem Op.rank_tok (o : Op) : opRank o.tok = some o.pr := by cases o <;> decide +kernel
theorem Op.c2_tok (o : Op) : c2py o.tok = o.py := by cases o <;> decide +kernel
theorem Op.pr_pos (o : Op) : 1 ≤ o.pr := by cases o <;> decide
theorem Op.pr_le (o : Op) : o.pr ≤ 6 := by cases o <;> decide
theorem Op.pr_lr (o : Op) : o.pr = if o.lr ≤ 2 then (o.lr : Int) else (o.lr : Int) - 1 := by cases o <;> decide
theorem Op.lr_ne (o : Op) : o.lr ≠ 3 := by cases o <;> decide
theorem Op.mono {o o' : Op} (h : o.lr ≤ o'.lr) : o.pr ≤ o'.pr := by rw [pr_lr, pr_lr]; split <;> split <;> omega
theorem Op.smono {o o' : Op} (h : o.lr < o'.lr) : o.pr < o'.pr := by
  have := o.lr_ne
  have := o'.lr_ne
  rw [pr_lr, pr_lr]; split <;> split <;> omega

inductive Ex
  | n
  | num (k : Int)
  | bin (o : Op) (l r : Ex)
  | tern (c a b : Ex)
  | not (e : Ex)
  | par (e : Ex)
def numT (k : Int) : Str := Str.ofString (toString k)
namespace Ex
def isTern : Ex → Bool
  | tern .. => true
  | _ => false
def j : Ex → Int
  | bin o _ _ => o.pr
  | _ => 100
def rank : Ex → Nat
  | bin o _ _ => o.lr
  | tern .. => 0
  | not _ => 3
  | _ => 8
def pk : Ex → Int
  | bin o _ _ => o.pr
  | tern .. => 0
  | _ => 100
def D : Ex → Nat
  | n => 1
  | num _ => 1
  | bin _ l r => max l.D r.D + 2
  | tern c a b => max c.D (max a.D b.D) + 2
  | not e => e.D + 1
  | par e => e.D + 1
def toks : Ex → List Str
  | n => [Str.ofString "n"]
  | num k => [numT k]
  | bin o l r => l.toks ++ (o.tok :: r.toks)
  | tern c a b => c.toks ++ (Str.ofString "?" :: (a.toks ++ (Str.ofString ":" :: b.toks)))
  | not e => Str.ofString "!" :: e.toks
  | par e => Str.ofString "(" :: (e.toks ++ [Str.ofString ")"])
/-- brackets that _parse adds around an operand read at a priority -/
def pw (p : Int) (e : Ex) : Bool := (e.isTern && p == 0) || (e.j == p && p == 4)
def lw (o : Op) (l : Ex) : Bool := cmpRank o.pr && cmpRank l.j
def tx : Ex → Str
  | n => Str.ofString "n"
  | num k => numT k
  | bin o l r => (if lw o l then Mine.par l.tx else l.tx) ++ Str.ofString " " ++ o.py ++ Str.ofString " " ++ (if pw (o.pr + 1) r then Mine.par r.tx else r.tx)
  | tern c a b => (if pw 0 a then Mine.par a.tx else a.tx) ++ Str.ofString " if " ++ c.tx ++ Str.ofString " else " ++ b.tx
  | not e => Str.ofString "not " ++ e.tx
  | par e => Str.ofString "(" ++ e.tx ++ Str.ofString ")"
def ptx (p : Int) (e : Ex) : Str := if pw p e then Mine.par e.tx else e.tx
def tr : Ex → Prop
  | n => False
  | num k => k = 0 ∨ k = 1
  | bin o _ _ => o.lr ≤ 5
  | tern _ a b => a.tr ∧ b.tr
  | not _ => True
  | par e => e.tr
def WF : Ex → Prop
  | n => True
  | num k => 0 ≤ k ∧ k ≤ 9
  | bin o l r => l.WF ∧ r.WF ∧ o.lr ≤ l.rank ∧ o.lr < r.rank ∧ (o.lr ≤ 2 → l.tr ∧ r.tr) ∧ (o = .div ∨ o = .mod → ∃ k, r = num k ∧ 1 ≤ k)
  | tern c a b => c.WF ∧ a.WF ∧ b.WF ∧ c.rank ≠ 0
  | not e => e.WF ∧ (e.rank = 3 ∨ e.rank = 8)
  | par e => e.WF
end Ex

theorem num_facts : ∀ k : Int, 0 ≤ k → k ≤ 9 → PySem.intText? (numT k) = some k ∧ (numT k).length = 1 ∧ numT k ≠ Str.ofString "!" ∧ numT k ≠ Str.ofString "(" ∧ numT k ≠ Str.ofString "n" ∧ numT k ≠ Str.ofString "not" := by
  intro k h0 h1
  have : k = 0 ∨ k = 1 ∨ k = 2 ∨ k = 3 ∨ k = 4 ∨ k = 5 ∨ k = 6 ∨ k = 7 ∨ k = 8 ∨ k = 9 := by omega
  rcases this with rfl | rfl | rfl | rfl | rfl | rfl | rfl | rfl | rfl | rfl <;> decide +kernel

theorem Ex.D_pos (e : Ex) : 1 ≤ e.D := by cases e <;> simp [Ex.D]
theorem Ex.pk_le {o : Op} {e : Ex} (h : o.lr ≤ e.rank) : o.pr ≤ e.pk := by
  have := o.pr_le
  cases e with
  | bin o' l r => exact Op.mono h
  | tern c a b => exact absurd h (by cases o <;> simp [Op.lr, Ex.rank])
  | n => show _ ≤ (100 : Int); omega
  | num k => show _ ≤ (100 : Int); omega
  | not e => show _ ≤ (100 : Int); omega
  | par e => show _ ≤ (100 : Int); omega
theorem Ex.pk_nn (e : Ex) : 0 ≤ e.pk := by
  cases e with
  | bin o l r => exact Int.le_trans (by decide) o.pr_pos
  | tern c a b => exact Int.le_refl _
  | n => show (0 : Int) ≤ 100; decide
  | num k => show (0 : Int) ≤ 100; decide
  | not e => show (0 : Int) ≤ 100; decide
  | par e => show (0 : Int) ≤ 100; decide
theorem Ex.pk_lt {o : Op} {e : Ex} (h : o.lr < e.rank) : o.pr < e.pk := by
  have := o.pr_le
  cases e with
  | bin o' l r => exact Op.smono h
  | tern c a b => exact absurd h (by simp [Ex.rank])
  | n => show _ < (100 : Int); omega
  | num k => show _ < (100 : Int); omega
  | not e => show _ < (100 : Int); omega
  | par e => show _ < (100 : Int); omega

theorem nots_comm : ∀ k (x : Str), nots k ++ (Str.ofString "not " ++ x) = nots (k + 1) ++ x := fun k x => by
  show _ = nots k ++ Str.ofString "not " ++ x
  rw [str_assoc]
theorem nots_one (k : Nat) (x : Str) : Str.ofString "not " ++ (nots k ++ x) = nots (k + 1) ++ x := by
  induction k generalizing x with
  | zero =>
    show _ = (Str.ofString "" ++ Str.ofString "not ") ++ x
    have e : Str.ofString "" = Str.empty := by decide +kernel
    show Str.ofString "not " ++ (Str.ofString "" ++ x) = _
    rw [e, str_empty_app, str_empty_app]
  | succ k ih =>
    show Str.ofString "not " ++ (nots k ++ Str.ofString "not " ++ x) = _
    rw [str_assoc, ih]
    show _ = nots (k + 1) ++ Str.ofString "not " ++ x
    rw [str_assoc]
theorem AtomR.bang {P : PRel} {ts rest : List Str} {t : Str} (h : AtomR P ts t rest) : AtomR P (Str.ofString "!" :: ts) (Str.ofString "not " ++ t) rest := by
  cases h with
  | @paren k ts _ sub hP =>
    have := AtomR.paren (k := k + 1) hP
    rw [List.replicate_succ, List.cons_append] at this
    rw [str_assoc, str_assoc, nots_one, ← str_assoc, ← str_assoc]
    exact this
  | @name k _ =>
    have := AtomR.name (P := P) (k := k + 1) (rest := rest)
    rw [List.replicate_succ, List.cons_append] at this
    rw [nots_one]
    exact this
  | @num k x v _ h1 h2 h3 h4 h5 h6 h7 =>
    have := AtomR.num (P := P) (k := k + 1) (rest := rest) h1 h2 h3 h4 h5 h6 h7
    rw [List.replicate_succ, List.cons_append] at this
    rw [nots_one]
    exact this
theorem AtomR.paren0 {P : PRel} {ts rest : List Str} {sub : Str} (h : P (-1) ts sub (Str.ofString ")") rest) : AtomR P (Str.ofString "(" :: ts) (Str.ofString "(" ++ sub ++ Str.ofString ")") rest := by
  have := AtomR.paren (k := 0) h
  rw [str_assoc, str_assoc] at this
  have e : nots 0 = Str.empty := by decide +kernel
  rw [e, str_empty_app, ← str_assoc] at this
  exact this

/-- what the frames below give -/
def Below (P : PRel) (d : Nat) : Prop := ∀ (e : Ex) (p : Int) (f : Str) (rest : List Str), e.WF → e.D ≤ d → p ≤ e.pk → (∀ i, opRank f = some i → i < p) → (p ≤ 0 → f ≠ Str.ofString "?") → P p (e.toks ++ f :: rest) (e.ptx p) f rest

theorem ptx_m1 (e : Ex) : e.ptx (-1) = e.tx := by
  unfold Ex.ptx Ex.pw
  rw [show ((-1 : Int) == 0) = false from rfl, show ((-1 : Int) == 4) = false from rfl]
  simp

theorem atom_of {P : PRel} {d : Nat} (B : Below P d) : ∀ (e : Ex) (rest : List Str), e.WF → e.D ≤ d + 1 → (e.rank = 3 ∨ e.rank = 8) → AtomR P (e.toks ++ rest) e.tx rest
  | .n, rest, _, _, _ => by
    have := AtomR.name (P := P) (k := 0) (rest := rest)
    have e : nots 0 = Str.empty := by decide +kernel
    rw [e, str_empty_app] at this
    exact this
  | .num k, rest, h, _, _ => by
    obtain ⟨f1, f2, f3, f4, f5, f6⟩ := num_facts k h.1 h.2
    have := AtomR.num (P := P) (k := 0) (rest := rest) f1 (by omega) h.1 (by have := h.2; omega) f3 f4 f5
    have e : nots 0 = Str.empty := by decide +kernel
    rw [e, str_empty_app] at this
    exact this
  | .bin o l r, rest, h, _, hr => by cases o <;> simp [Ex.rank, Op.lr] at hr
  | .tern c a b, rest, h, _, hr => by simp [Ex.rank] at hr
  | .not e, rest, h, hd, _ => AtomR.bang (atom_of B e rest h.1 (by simp only [Ex.D] at hd; omega) h.2)
  | .par e, rest, h, hd, _ => by
    simp only [Ex.D] at hd
    have hb := B e (-1) (Str.ofString ")") rest h (by omega) (by have := e.pk_nn; omega) (fun i hi => by rw [show opRank (Str.ofString ")") = none by decide +kernel] at hi; cases hi) (fun _ => by decide +kernel)
    rw [ptx_m1] at hb
    have := AtomR.paren0 hb
    show AtomR P (Str.ofString "(" :: (e.toks ++ [Str.ofString ")"]) ++ rest) _ _
    rw [List.cons_append, List.append_assoc]
    exact this

theorem loop_of {P : PRel} {d : Nat} (B : Below P d) : ∀ (e : Ex) (p : Int) (f : Str) (rest : List Str), e.WF → e.D ≤ d + 1 → e.rank ≠ 0 → p ≤ e.pk → (∀ i, opRank f = some i → i ≤ e.pk) →
    ∃ t0 tok0 ts0, AtomR P (e.toks ++ f :: rest) t0 (tok0 :: ts0) ∧ ∀ j' txt' tok' ts', LoopR P p e.j e.tx f rest j' txt' tok' ts' → LoopR P p 100 t0 tok0 ts0 j' txt' tok' ts'
  | .n, p, f, rest, h, hd, hr, _, _ => ⟨_, f, rest, atom_of B .n (f :: rest) h hd (.inr rfl), fun _ _ _ _ L => L⟩
  | .num k, p, f, rest, h, hd, hr, _, _ => ⟨_, f, rest, atom_of B (.num k) (f :: rest) h hd (.inr rfl), fun _ _ _ _ L => L⟩
  | .not e, p, f, rest, h, hd, hr, _, _ => ⟨_, f, rest, atom_of B (.not e) (f :: rest) h hd (.inl rfl), fun _ _ _ _ L => L⟩
  | .par e, p, f, rest, h, hd, hr, _, _ => ⟨_, f, rest, atom_of B (.par e) (f :: rest) h hd (.inr rfl), fun _ _ _ _ L => L⟩
  | .tern c a b, p, f, rest, h, hd, hr, _, _ => absurd rfl hr
  | .bin o l r, p, f, rest, h, hd, hr, hp, hf => by
    obtain ⟨wl, wr, rl, rr, _, _⟩ := h
    simp only [Ex.D] at hd
    have hp' : p ≤ o.pr := hp
    have hl0 : l.rank ≠ 0 := by have : 1 ≤ o.lr := by cases o <;> decide
                                omega
    have hpl := Ex.pk_le rl
    have hpr := Ex.pk_lt rr
    obtain ⟨t0, tok0, ts0, hA, hL⟩ := loop_of B l p o.tok (r.toks ++ f :: rest) wl (by omega) hl0 (by omega) (fun i hi => by rw [Op.rank_tok] at hi; cases hi; exact hpl)
    refine ⟨t0, tok0, ts0, ?_, fun j' txt' tok' ts' L => hL _ _ _ _ ?_⟩
    · show AtomR P (l.toks ++ (o.tok :: r.toks) ++ f :: rest) _ _
      rw [List.append_assoc, List.cons_append]
      exact hA
    · have hb := B r (o.pr + 1) f rest wr (by omega) (by omega) (fun i hi => by have : i ≤ o.pr := hf i hi; omega) (fun q => by have := o.pr_pos; omega)
      refine LoopR.step (Op.rank_tok o) hp' hb ?_
      rw [Op.c2_tok]
      exact L

theorem opRank_pos {f : Str} {i : Int} (h : opRank f = some i) : 1 ≤ i := by
  unfold opRank at h
  have : ∀ q ∈ opTab, 1 ≤ q.2 := by decide +kernel
  have hm : ∃ q ∈ opTab, q.2 = i := by
    revert h
    generalize opTab = t
    induction t with
    | nil => intro h; cases h
    | cons q t ih =>
      obtain ⟨a, b⟩ := q
      intro h
      rw [List.lookup_cons] at h
      split at h
      · cases h; exact ⟨_, .head _, rfl⟩
      · obtain ⟨q, hq, e⟩ := ih h; exact ⟨q, .tail _ hq, e⟩
  obtain ⟨q, hq, rfl⟩ := hm
  exact this q hq

theorem parse_of : ∀ d, Below (ParseR d) d := by
  intro d
  induction d with
  | zero => intro e p f rest _ hd; have := e.D_pos; omega
  | succ d B =>
    intro e p f rest h hd hp hf hq
    by_cases ht : e.rank = 0
    · cases e with
      | tern c a b =>
        obtain ⟨wc, wa, wb, hc⟩ := h
        simp only [Ex.D] at hd
        have hp0 : p ≤ 0 := hp
        obtain ⟨t0, tok0, ts0, hA, hL⟩ := loop_of B c p (Str.ofString "?") (a.toks ++ (Str.ofString ":" :: (b.toks ++ f :: rest))) wc (by omega) hc (by have := c.pk_nn; omega) (fun i hi => by rw [show opRank (Str.ofString "?") = none by decide +kernel] at hi; cases hi)
        have hL' := hL _ _ _ _ (LoopR.stop (fun i hi => by rw [show opRank (Str.ofString "?") = none by decide +kernel] at hi; cases hi))
        have ha := B a 0 (Str.ofString ":") (b.toks ++ f :: rest) wa (by omega) a.pk_nn (fun i hi => by rw [show opRank (Str.ofString ":") = none by decide +kernel] at hi; cases hi) (fun _ => by decide +kernel)
        have hb := B b (-1) f rest wb (by omega) (by have := b.pk_nn; omega) (fun i hi => by have := hf i hi; have := opRank_pos hi; omega) (fun _ => hq hp0)
        rw [ptx_m1] at hb
        have hT := TailR.tern (P := ParseR d) (prio := p) (txt := c.tx) hp0 ha hb
        refine ⟨t0, tok0, ts0, c.j, c.tx, Str.ofString "?", _, ?_, hL', ?_⟩
        · show AtomR _ (c.toks ++ (Str.ofString "?" :: (a.toks ++ (Str.ofString ":" :: b.toks))) ++ f :: rest) _ _
          rw [List.append_assoc, List.cons_append, List.append_assoc, List.cons_append]
          exact hA
        · have e4 : (p == 4) = false := by rw [beq_eq_false_iff_ne]; omega
          rw [e4, Bool.and_false]
          have e5 : (Ex.tern c a b).ptx p = if p == 0 then par (a.ptx 0 ++ Str.ofString " if " ++ c.tx ++ Str.ofString " else " ++ b.tx) else a.ptx 0 ++ Str.ofString " if " ++ c.tx ++ Str.ofString " else " ++ b.tx := by
            unfold Ex.ptx Ex.pw
            rw [e4]
            simp only [Ex.isTern, Bool.true_and, Bool.and_false, Bool.or_false]
            rfl
          rw [e5]
          exact hT
      | bin o l r => exact absurd ht (by cases o <;> simp [Ex.rank, Op.lr])
      | n => cases ht
      | num k => cases ht
      | not e => cases ht
      | par e => cases ht
    · obtain ⟨t0, tok0, ts0, hA, hL⟩ := loop_of B e p f rest h (by omega) ht hp (fun i hi => by have := hf i hi; omega)
      refine ⟨t0, tok0, ts0, e.j, e.tx, f, rest, hA, hL _ _ _ _ (LoopR.stop hf), ?_⟩
      have e6 : e.ptx p = if (e.j == p && p == 4) = true then par e.tx else e.tx := by
        unfold Ex.ptx Ex.pw
        have : e.isTern = false := by cases e <;> first | rfl | exact absurd rfl ht
        rw [this]; simp
      rw [e6]
      refine TailR.none ?_
      by_cases q : p ≤ 0
      · exact .inl (hq q)
      · exact .inr (by omega)
end
section
def subC (c : Nat) (z : List Nat) (l : List Nat) : List Nat := l.flatMap fun k => if k = c then z else [k]
theorem subC_append (c : Nat) (z a b : List Nat) : subC c z (a ++ b) = subC c z a ++ subC c z b := List.flatMap_append
theorem subC_free (c : Nat) (z : List Nat) : ∀ l : List Nat, c ∉ l → subC c z l = l
  | [], _ => rfl
  | k :: r, h => by
    have h1 : ¬ k = c := fun e => h (e ▸ List.mem_cons_self ..)
    have h2 : c ∉ r := fun m => h (List.mem_cons_of_mem _ m)
    have ih := subC_free c z r h2
    unfold subC at ih ⊢
    rw [List.flatMap_cons, if_neg h1, ih]; rfl
theorem subC_one (c : Nat) (z : List Nat) : subC c z [c] = z := by simp [subC]
theorem subC_join (c : Nat) (z : Str) : ∀ parts : List Str, (∀ p ∈ parts, c ∉ p.cps.toList) → subC c z.cps.toList (Str.join ⟨#[c]⟩ parts).cps.toList = (Str.join z parts).cps.toList
  | [], _ => rfl
  | [p], h => subC_free c _ _ (h p (List.mem_singleton.mpr rfl))
  | p :: q :: r, h => by
    have ih := subC_join c z (q :: r) fun a ha => h a (List.mem_cons_of_mem _ ha)
    show subC c z.cps.toList (p ++ ⟨#[c]⟩ ++ Str.join ⟨#[c]⟩ (q :: r)).cps.toList = (p ++ z ++ Str.join z (q :: r)).cps.toList
    simp only [Str.cps_append, Array.toList_append]
    rw [subC_append, subC_append, ih, subC_free c _ _ (h p (List.mem_cons_self ..))]
    show p.cps.toList ++ subC c _ [c] ++ _ = _
    rw [subC_one]
theorem replace_subC (x z : Str) (c : Nat) : (Txt.replace x ⟨#[c]⟩ z).cps.toList = subC c z.cps.toList x.cps.toList := by
  rw [StrLaws.replace_one, ← subC_join c z _ (StrLaws.split_free x c), StrLaws.join_split]

/-- the text as law spaces it -/
def hx (l : List Nat) : List Nat := subC 41 [32, 41, 32] (subC 40 [32, 40, 32] l)
theorem hx_append (a b : List Nat) : hx (a ++ b) = hx a ++ hx b := by unfold hx; rw [subC_append, subC_append]
def spaced (x : Str) : Str := Txt.replace (Txt.replace x (Str.ofString "(") (Str.ofString " ( ")) (Str.ofString ")") (Str.ofString " ) ")
theorem spaced_hx (x : Str) : (spaced x).cps.toList = hx x.cps.toList := by
  unfold spaced
  have e1 : Str.ofString ")" = ⟨#[41]⟩ := by decide +kernel
  have e2 : Str.ofString "(" = ⟨#[40]⟩ := by decide +kernel
  rw [e1, e2, replace_subC, replace_subC]
  rfl

abbrev scn (st : KWd.St) (l : List Nat) : KWd.St := l.foldl KWd.step st
/-- x gives the words ws -/
def Wd (x : Str) (ws : List Str) : Prop := ∀ us, KWd.fin (scn (us, Str.empty) (hx x.cps.toList)) = us ++ ws

theorem step_blank (st : KWd.St) : KWd.step st 32 = (KWd.fin st, Str.empty) := by
  unfold KWd.step KWd.fin
  rw [if_pos (by decide +kernel)]
  obtain ⟨a, b⟩ := st
  by_cases h : b.length = 0
  · simp only [h, if_true]; rw [KWd.len0 h]
  · simp only [h, if_false]
theorem toList_app (x y : Str) : (x ++ y).cps.toList = x.cps.toList ++ y.cps.toList := by rw [Str.cps_append, Array.toList_append]
theorem Wd.glue {a b : Str} {wa wb : List Str} (ha : Wd a wa) (hb : Wd b wb) : Wd (a ++ Str.ofString " " ++ b) (wa ++ wb) := by
  intro us
  have e : hx (Str.ofString " ").cps.toList = [32] := by decide +kernel
  rw [toList_app, toList_app, hx_append, hx_append, e]
  unfold scn
  rw [List.foldl_append, List.foldl_append]
  show KWd.fin (List.foldl KWd.step (KWd.step _ 32) _) = _
  rw [step_blank]
  have := ha us
  unfold scn at this
  rw [this]
  have := hb (us ++ wa)
  unfold scn at this
  rw [this, List.append_assoc]
theorem Wd.par {a : Str} {wa : List Str} (ha : Wd a wa) : Wd (Mine.par a) (Str.ofString "(" :: (wa ++ [Str.ofString ")"])) := by
  intro us
  have e1 : hx (Str.ofString "(").cps.toList = [32, 40, 32] := by decide +kernel
  have e2 : hx (Str.ofString ")").cps.toList = [32, 41, 32] := by decide +kernel
  have s1 : ∀ vs : List Str, KWd.step (vs, Str.empty) 40 = (vs, Str.ofString "(") := fun vs => by
    unfold KWd.step; rw [if_neg (by decide +kernel)]
    have : Str.empty ++ ⟨#[40]⟩ = Str.ofString "(" := by decide +kernel
    show (vs, Str.empty ++ ⟨#[40]⟩) = _
    rw [this]
  have s2 : ∀ vs : List Str, KWd.step (vs, Str.empty) 41 = (vs, Str.ofString ")") := fun vs => by
    unfold KWd.step; rw [if_neg (by decide +kernel)]
    have : Str.empty ++ ⟨#[41]⟩ = Str.ofString ")" := by decide +kernel
    show (vs, Str.empty ++ ⟨#[41]⟩) = _
    rw [this]
  have f0 : ∀ vs : List Str, KWd.fin (vs, Str.empty) = vs := fun vs => by unfold KWd.fin; rw [if_pos (show Str.empty.length = 0 by decide +kernel)]
  have f1 : ∀ vs : List Str, KWd.fin (vs, Str.ofString "(") = vs ++ [Str.ofString "("] := fun vs => by unfold KWd.fin; rw [if_neg (show ¬ (Str.ofString "(").length = 0 by decide +kernel)]
  have f2 : ∀ vs : List Str, KWd.fin (vs, Str.ofString ")") = vs ++ [Str.ofString ")"] := fun vs => by unfold KWd.fin; rw [if_neg (show ¬ (Str.ofString ")").length = 0 by decide +kernel)]
  unfold Mine.par
  rw [toList_app, toList_app, hx_append, hx_append, e1, e2]
  unfold scn
  rw [List.foldl_append, List.foldl_append]
  show KWd.fin (KWd.step (KWd.step (KWd.step (List.foldl KWd.step (KWd.step (KWd.step (KWd.step (us, Str.empty) 32) 40) 32) _) 32) 41) 32) = _
  simp only [step_blank, f0, s1, f1]
  have := ha (us ++ [Str.ofString "("])
  unfold scn at this
  simp only [this, s2, f2]
  simp
/-- a word of its own -/
def oneWord (x : Str) : Bool := x.cps.toList.all (fun c => c != 40 && c != 41 && !Unicode.isSpace c) && x.length != 0
theorem Wd.one {x : Str} (h : oneWord x = true) : Wd x [x] := by
  simp only [oneWord, Bool.and_eq_true, List.all_eq_true, bne_iff_ne, ne_eq, Bool.not_eq_true'] at h
  obtain ⟨h1, h2⟩ := h
  have e : hx x.cps.toList = x.cps.toList := by
    unfold hx
    rw [subC_free 40 _ _ (fun q => (h1 _ q).1.1 rfl), subC_free 41 _ _ (fun q => (h1 _ q).1.2 rfl)]
  intro us
  rw [e]
  have gen : ∀ (l : List Nat) (r : Str), (∀ c ∈ l, Unicode.isSpace c = false) → scn (us, r) l = (us, r ++ ⟨l.toArray⟩) := by
    intro l
    induction l with
    | nil => intro r _; show (us, r) = _; rw [show r ++ ⟨([] : List Nat).toArray⟩ = r by cases r; show Str.mk (_ ++ _) = _; simp]
    | cons c l ih =>
      intro r hl
      unfold scn at ih ⊢
      rw [List.foldl_cons]
      unfold KWd.step
      rw [if_neg (by rw [hl c (.head _)]; exact Bool.false_ne_true)]
      show List.foldl KWd.step (us, r ++ ⟨#[c]⟩) l = _
      rw [ih _ fun c hc => hl c (.tail _ hc), str_assoc]
      congr 2
      show Str.mk (#[c] ++ l.toArray) = _
      simp
  rw [gen _ _ fun c hc => (h1 c hc).2]
  have : Str.empty ++ (⟨x.cps.toList.toArray⟩ : Str) = x := by rw [str_empty_app]
  rw [this]
  unfold KWd.fin
  rw [if_neg h2]

namespace Ex
def pl (x : List Str) : List Str := Str.ofString "(" :: (x ++ [Str.ofString ")"])
def wd : Ex → List Str
  | n => [Str.ofString "n"]
  | num k => [numT k]
  | bin o l r => (if lw o l then pl l.wd else l.wd) ++ (o.py :: (if pw (o.pr + 1) r then pl r.wd else r.wd))
  | tern c a b => (if pw 0 a then pl a.wd else a.wd) ++ (Str.ofString "if" :: (c.wd ++ (Str.ofString "else" :: b.wd)))
  | not e => Str.ofString "not" :: e.wd
  | par e => pl e.wd
end Ex
theorem Wd.ite {b : Bool} {x : Str} {ws : List Str} (h : Wd x ws) : Wd (if b then Mine.par x else x) (if b then Ex.pl ws else ws) := by
  cases b
  · exact h
  · exact h.par
theorem Wd.glue3 {a b c : Str} {wa wc : List Str} (ha : Wd a wa) (hb : oneWord b = true) (hc : Wd c wc) : Wd (a ++ Str.ofString " " ++ b ++ Str.ofString " " ++ c) (wa ++ (b :: wc)) := by
  have := (ha.glue (Wd.one hb)).glue hc
  rw [List.append_assoc] at this
  exact this
theorem words_tx : ∀ e : Ex, e.WF → Wd e.tx e.wd
  | .n, _ => Wd.one (by decide +kernel)
  | .num k, h => Wd.one (by
      have h0 := h.1
      have h1 := h.2
      have : k = 0 ∨ k = 1 ∨ k = 2 ∨ k = 3 ∨ k = 4 ∨ k = 5 ∨ k = 6 ∨ k = 7 ∨ k = 8 ∨ k = 9 := by omega
      rcases this with rfl | rfl | rfl | rfl | rfl | rfl | rfl | rfl | rfl | rfl <;> decide +kernel)
  | .bin o l r, h => Wd.glue3 (words_tx l h.1).ite (by cases o <;> decide +kernel) (words_tx r h.2.1).ite
  | .tern c a b, h => by
    have h1 := Wd.glue3 (b := Str.ofString "if") ((words_tx a h.2.1).ite (b := Ex.pw 0 a)) (by decide +kernel) (words_tx c h.1)
    have h2 := Wd.glue3 h1 (b := Str.ofString "else") (by decide +kernel) (words_tx b h.2.2.1)
    have e1 : Str.ofString " if " = Str.ofString " " ++ Str.ofString "if" ++ Str.ofString " " := by decide +kernel
    have e2 : Str.ofString " else " = Str.ofString " " ++ Str.ofString "else" ++ Str.ofString " " := by decide +kernel
    show Wd ((if Ex.pw 0 a then Mine.par a.tx else a.tx) ++ Str.ofString " if " ++ c.tx ++ Str.ofString " else " ++ b.tx) _
    rw [e1, e2]
    simp only [← str_assoc] at h2 ⊢
    simp only [List.append_assoc, List.cons_append] at h2
    exact h2
  | .not e, h => by
    have := (Wd.one (x := Str.ofString "not") (by decide +kernel)).glue (words_tx e h.1)
    have e1 : Str.ofString "not " = Str.ofString "not" ++ Str.ofString " " := by decide +kernel
    show Wd (Str.ofString "not " ++ e.tx) _
    rw [e1]
    exact this
  | .par e, h => (words_tx e h).par
theorem words_spaced {e : Ex} (h : e.WF) : Txt.words (spaced e.tx) = e.wd := by
  rw [KWd.words_scan]
  unfold KWd.scan
  rw [spaced_hx]
  exact words_tx e h []
end
section
abbrev run (ms : List Str) (s : CutSt) (ws : List Str) : CutSt := ws.foldl (cutStep ms) s
/-- within brackets nothing is cut -/
def Bal (ws : List Str) : Prop := ∀ (ms : List Str) (s : CutSt), 1 ≤ s.d → run ms s ws = ⟨s.P, s.L ++ ws, s.S, s.d⟩
def Free (ms ws : List Str) : Prop := ∀ s : CutSt, s.d = 0 → run ms s ws = ⟨s.P, s.L ++ ws, s.S, 0⟩
theorem Bal.nil : Bal [] := fun ms s _ => by simp [run]
theorem Bal.app {a b : List Str} (ha : Bal a) (hb : Bal b) : Bal (a ++ b) := fun ms s h => by
  unfold run; rw [List.foldl_append]
  have h1 := ha ms s h
  unfold run at h1
  rw [h1]
  have h2 := hb ms ⟨s.P, s.L ++ a, s.S, s.d⟩ h
  unfold run at h2
  rw [h2, List.append_assoc]
theorem Bal.one {w : Str} (h : dep w = 0) : Bal [w] := fun ms s hs => by
  show cutStep ms s w = _
  unfold cutStep
  rw [h, Int.add_zero, if_neg (by intro q; omega)]
theorem dep_open : dep (Str.ofString "(") = 1 := by decide +kernel
theorem dep_close : dep (Str.ofString ")") = -1 := by decide +kernel
theorem Bal.pl {a : List Str} (ha : Bal a) : Bal (Ex.pl a) := fun ms s hs => by
  unfold Ex.pl run
  rw [List.foldl_cons, List.foldl_append]
  have e1 : cutStep ms s (Str.ofString "(") = ⟨s.P, s.L ++ [Str.ofString "("], s.S, s.d + 1⟩ := by unfold cutStep; rw [dep_open, if_neg (by intro q; omega)]
  rw [e1]
  have h1 := ha ms ⟨s.P, s.L ++ [Str.ofString "("], s.S, s.d + 1⟩ (by show 1 ≤ s.d + 1; omega)
  unfold run at h1
  rw [h1]
  show cutStep ms _ _ = _
  unfold cutStep
  rw [dep_close, if_neg (by show ¬ (s.d + 1 + -1 = 0 ∧ _); intro q; omega)]
  simp
  omega
theorem Free.nil {ms : List Str} : Free ms [] := fun s h => by simp [run]; rw [← h]
theorem Free.app {ms a b : List Str} (ha : Free ms a) (hb : Free ms b) : Free ms (a ++ b) := fun s h => by
  unfold run; rw [List.foldl_append]
  have h1 := ha s h
  unfold run at h1
  rw [h1]
  have h2 := hb ⟨s.P, s.L ++ a, s.S, 0⟩ rfl
  unfold run at h2
  rw [h2, List.append_assoc]
theorem Free.one {ms : List Str} {w : Str} (h : dep w = 0) (hm : w ∉ ms) : Free ms [w] := fun s hs => by
  show cutStep ms s w = _
  unfold cutStep
  rw [if_neg (fun q => hm q.2), h, hs]
  rfl
theorem Free.pl {ms a : List Str} (ha : Bal a) (hm : Str.ofString ")" ∉ ms) : Free ms (Ex.pl a) := fun s hs => by
  unfold Ex.pl run
  rw [List.foldl_cons, List.foldl_append]
  have e1 : cutStep ms s (Str.ofString "(") = ⟨s.P, s.L ++ [Str.ofString "("], s.S, 1⟩ := by unfold cutStep; rw [dep_open, hs, if_neg (by intro q; exact absurd q.1 (by decide))]; rfl
  rw [e1]
  have h1 := ha ms ⟨s.P, s.L ++ [Str.ofString "("], s.S, 1⟩ (Int.le_refl 1)
  unfold run at h1
  rw [h1]
  show cutStep ms _ _ = _
  unfold cutStep
  rw [if_neg (fun q => hm q.2), dep_close]
  simp
theorem Free.noCut {ms ws : List Str} (h : Free ms ws) : NoCut ms ws := by
  have := h ⟨[], [], [], 0⟩ rfl
  unfold NoCut cutF
  unfold run at this
  rw [this]
theorem Free.cut {ms ws : List Str} (h : Free ms ws) : cutF ms ws = ⟨[], ws, [], 0⟩ := by
  have := h ⟨[], [], [], 0⟩ rfl
  unfold run at this
  unfold cutF
  rw [this]; simp
theorem step_mark {ms : List Str} {s : CutSt} {m : Str} (ha : s.d = 0) (hm : m ∈ ms) (hd : dep m = 0) : cutStep ms s m = ⟨s.P ++ [s.L], [], s.S ++ [m], 0⟩ := by
  unfold cutStep
  rw [if_pos ⟨by rw [ha, hd]; rfl, hm⟩, ha, hd]; rfl
theorem cut_snoc {ms a b : List Str} {m : Str} (ha : (cutF ms a).d = 0) (hm : m ∈ ms) (hd : dep m = 0) (hb : Free ms b) : cutF ms (a ++ (m :: b)) = ⟨(cutF ms a).P ++ [(cutF ms a).L], b, (cutF ms a).S ++ [m], 0⟩ := by
  have e : cutF ms (a ++ (m :: b)) = run ms (cutStep ms (cutF ms a) m) b := by unfold cutF run; rw [List.foldl_append, List.foldl_cons]
  rw [e, step_mark ha hm hd, hb _ rfl, List.nil_append]

/-- how weakly a word binds -/
def wcTab : List (Str × Int) := [(Str.ofString "if", 0), (Str.ofString "else", 0), (Str.ofString "or", 1), (Str.ofString "and", 2), (Str.ofString "==", 4), (Str.ofString "!=", 4), (Str.ofString "<", 4), (Str.ofString ">", 4), (Str.ofString "<=", 4), (Str.ofString ">=", 4),
  (Str.ofString "+", 5), (Str.ofString "-", 5), (Str.ofString "*", 6), (Str.ofString "//", 6), (Str.ofString "%", 6)]
def wc (w : Str) : Int := (wcTab.lookup w).getD 100
def Low (k : Int) (ws : List Str) : Prop := ∀ ms : List Str, (∀ w ∈ ms, wc w < k) → Free ms ws
theorem Low.weak {k k' : Int} {ws : List Str} (h : Low k ws) (hk : k' ≤ k) : Low k' ws := fun ms hm => h ms fun w hw => Int.lt_of_lt_of_le (hm w hw) hk
theorem Low.app {k : Int} {a b : List Str} (ha : Low k a) (hb : Low k b) : Low k (a ++ b) := fun ms hm => (ha ms hm).app (hb ms hm)
theorem Low.one {k : Int} {w : Str} (hd : dep w = 0) (hk : k ≤ wc w) : Low k [w] := fun ms hm => Free.one hd fun q => by have := hm w q; omega
theorem Low.cons {k : Int} {w : Str} {a : List Str} (hd : dep w = 0) (hk : k ≤ wc w) (ha : Low k a) : Low k (w :: a) := (Low.one hd hk).app ha
theorem Low.pl {a : List Str} (ha : Bal a) : Low 100 (Ex.pl a) := fun ms hm => Free.pl ha fun q => by have := hm _ q; rw [show wc (Str.ofString ")") = 100 by decide +kernel] at this; omega
theorem py_facts (o : Op) : dep o.py = 0 ∧ o.pr ≤ wc o.py := by cases o <;> decide +kernel
theorem num_word (k : Int) (h0 : 0 ≤ k) (h1 : k ≤ 9) : dep (numT k) = 0 ∧ wc (numT k) = 100 := by
  have : k = 0 ∨ k = 1 ∨ k = 2 ∨ k = 3 ∨ k = 4 ∨ k = 5 ∨ k = 6 ∨ k = 7 ∨ k = 8 ∨ k = 9 := by omega
  rcases this with rfl | rfl | rfl | rfl | rfl | rfl | rfl | rfl | rfl | rfl <;> decide +kernel

theorem Bal.ite {b : Bool} {ws : List Str} (h : Bal ws) : Bal (if b then Ex.pl ws else ws) := by cases b; exact h; exact h.pl
theorem Bal.cons {w : Str} {a : List Str} (hd : dep w = 0) (ha : Bal a) : Bal (w :: a) := (Bal.one hd).app ha
theorem bal_wd : ∀ e : Ex, e.WF → Bal e.wd
  | .n, _ => Bal.one (by decide +kernel)
  | .num k, h => Bal.one (num_word k h.1 h.2).1
  | .bin o l r, h => (bal_wd l h.1).ite.app (Bal.cons (py_facts o).1 (bal_wd r h.2.1).ite)
  | .tern c a b, h => (bal_wd a h.2.1).ite.app (Bal.cons (by decide +kernel) ((bal_wd c h.1).app (Bal.cons (by decide +kernel) (bal_wd b h.2.2.1))))
  | .not e, h => Bal.cons (by decide +kernel) (bal_wd e h.1)
  | .par e, h => (bal_wd e h).pl
theorem Ex.pk_top (e : Ex) : e.pk ≤ 100 := by
  cases e with
  | bin o l r => have := o.pr_le; show o.pr ≤ 100; omega
  | tern c a b => show (0 : Int) ≤ 100; decide
  | n => exact Int.le_refl _
  | num k => exact Int.le_refl _
  | not e => exact Int.le_refl _
  | par e => exact Int.le_refl _
theorem Low.ite {b : Bool} {k : Int} {ws : List Str} (hb : Bal ws) (hk : k ≤ 100) (h : b = false → Low k ws) : Low k (if b then Ex.pl ws else ws) := by
  cases b
  · exact h rfl
  · exact (Low.pl hb).weak hk
theorem low_wd : ∀ e : Ex, e.WF → Low e.pk e.wd
  | .n, _ => Low.one (by decide +kernel) (by decide +kernel)
  | .num k, h => Low.one (num_word k h.1 h.2).1 (by rw [(num_word k h.1 h.2).2]; exact Int.le_refl _)
  | .bin o l r, h => by
    have h1 := Ex.pk_le h.2.2.1
    have h2 := Ex.pk_lt h.2.2.2.1
    have h3 := o.pr_le
    show Low o.pr _
    refine Low.app (Low.ite (bal_wd l h.1) (by omega) fun _ => (low_wd l h.1).weak h1) (Low.cons (py_facts o).1 (py_facts o).2 (Low.ite (bal_wd r h.2.1) (by omega) fun _ => (low_wd r h.2.1).weak (by omega)))
  | .tern c a b, h => by
    show Low 0 _
    refine Low.app (Low.ite (bal_wd a h.2.1) (by decide) fun _ => (low_wd a h.2.1).weak a.pk_nn) (Low.cons (by decide +kernel) (by decide +kernel) (Low.app ((low_wd c h.1).weak c.pk_nn) (Low.cons (by decide +kernel) (by decide +kernel) ((low_wd b h.2.2.1).weak b.pk_nn))))
  | .not e, h => by
    show Low 100 _
    refine Low.cons (by decide +kernel) (by decide +kernel) ((low_wd e h.1).weak ?_)
    obtain ⟨_, hr⟩ := h
    cases e with
    | bin o l r => cases o <;> simp [Ex.rank, Op.lr] at hr
    | tern c a b => simp [Ex.rank] at hr
    | n => exact Int.le_refl _
    | num k => exact Int.le_refl _
    | not e => exact Int.le_refl _
    | par e => exact Int.le_refl _
  | .par e, h => Low.pl (bal_wd e h)
end
section
namespace Ex
def ev : Ex → Int → Int
  | n, x => x
  | num k, _ => k
  | bin o l r, x => applyF o.tok (l.ev x) (r.ev x)
  | tern c a b, x => if c.ev x = 0 then b.ev x else a.ev x
  | not e, x => if e.ev x == 0 then 1 else 0
  | par e, x => e.ev x
def ok : Ex → Int → Prop
  | n, _ => True
  | num _, _ => True
  | bin o l r, x => l.ok x ∧ r.ok x ∧ ApplyOk o.py (l.ev x) (r.ev x)
  | tern c a b, x => c.ok x ∧ a.ok x ∧ b.ok x
  | not e, x => e.ok x
  | par e, x => e.ok x
end Ex
theorem apply_py (o : Op) (h : 3 ≤ o.pr) (a b : Int) : applyF o.tok a b = applyF o.py a b := by
  cases o with
  | or => simp [Op.pr] at h
  | and => simp [Op.pr] at h
  | div =>
    unfold applyF Op.tok Op.py
    rw [if_neg (by decide +kernel), if_neg (by decide +kernel), if_pos (by decide +kernel), if_neg (by decide +kernel), if_neg (by decide +kernel), if_neg (by decide +kernel), if_pos (by decide +kernel), if_neg (by decide +kernel)]
  | _ => rfl
theorem apply_or (a b : Int) : applyF (Op.tok .or) a b = max a b := by
  unfold applyF Op.tok
  rw [if_pos (by decide +kernel), if_pos (by decide +kernel)]
theorem apply_and (a b : Int) : applyF (Op.tok .and) a b = min a b := by
  unfold applyF Op.tok
  rw [if_pos (by decide +kernel), if_neg (by decide +kernel)]
theorem ite01 {p : Prop} [Decidable p] : (if p then (1 : Int) else 0) = 0 ∨ (if p then (1 : Int) else 0) = 1 := by split <;> simp
theorem apply_cmp01 (o : Op) (h : o.pr = 3 ∨ o.pr = 4) (a b : Int) : applyF o.tok a b = 0 ∨ applyF o.tok a b = 1 := by
  unfold applyF
  rw [if_neg (by cases o <;> first | (exfalso; revert h; decide) | decide +kernel), if_neg (by cases o <;> first | (exfalso; revert h; decide) | decide +kernel), if_neg (by cases o <;> first | (exfalso; revert h; decide) | decide +kernel)]
  split
  · exact ite01
  · split <;> exact ite01
theorem tr_01 : ∀ e : Ex, e.WF → e.tr → ∀ x, e.ev x = 0 ∨ e.ev x = 1
  | .n, _, h, _ => h.elim
  | .num k, _, h, _ => h
  | .bin o l r, w, h, x => by
    show applyF o.tok (l.ev x) (r.ev x) = 0 ∨ applyF o.tok (l.ev x) (r.ev x) = 1
    have key : o.lr ≤ 2 → (l.ev x = 0 ∨ l.ev x = 1) ∧ (r.ev x = 0 ∨ r.ev x = 1) := fun h2 => ⟨tr_01 l w.1 (w.2.2.2.2.1 h2).1 x, tr_01 r w.2.1 (w.2.2.2.2.1 h2).2 x⟩
    have h' : o.lr ≤ 5 := h
    cases o with
    | or => rw [apply_or]; have := key (by decide); omega
    | and => rw [apply_and]; have := key (by decide); omega
    | add => exact absurd h' (by decide)
    | sub => exact absurd h' (by decide)
    | mul => exact absurd h' (by decide)
    | div => exact absurd h' (by decide)
    | mod => exact absurd h' (by decide)
    | _ => exact apply_cmp01 _ (by decide) _ _
  | .tern c a b, w, h, x => by
    show (if c.ev x = 0 then b.ev x else a.ev x) = 0 ∨ (if c.ev x = 0 then b.ev x else a.ev x) = 1
    split
    · exact tr_01 b w.2.2.1 h.2 x
    · exact tr_01 a w.2.1 h.1 x
  | .not e, _, _, x => by
    show (if (e.ev x == 0) = true then (1 : Int) else 0) = 0 ∨ (if (e.ev x == 0) = true then (1 : Int) else 0) = 1
    exact ite01
  | .par e, w, h, x => tr_01 e w h x

def fv (x : Int) (v : Int) (os : List (Op × Ex)) : Int := os.foldl (fun v q => applyF q.1.tok v (q.2.ev x)) v
def fvOk (x : Int) : Int → List (Op × Ex) → Prop
  | _, [] => True
  | v, q :: os => ApplyOk q.1.py v (q.2.ev x) ∧ fvOk x (applyF q.1.tok v (q.2.ev x)) os
theorem fvOk_snoc {x : Int} {q : Op × Ex} : ∀ {os : List (Op × Ex)} {v : Int}, fvOk x v os → ApplyOk q.1.py (fv x v os) (q.2.ev x) → fvOk x v (os ++ [q])
  | [], v, _, h => ⟨h, trivial⟩
  | p :: os, v, h, h2 => ⟨h.1, fvOk_snoc h.2 h2⟩
theorem fv_snoc (x v : Int) (os : List (Op × Ex)) (q : Op × Ex) : fv x v (os ++ [q]) = applyF q.1.tok (fv x v os) (q.2.ev x) := by unfold fv; rw [List.foldl_append]; rfl

structure Spine (k : Int) (ms : List Str) (e e0 : Ex) (os : List (Op × Ex)) : Prop where
  d : (cutF ms e.wd).d = 0
  parts : (cutF ms e.wd).parts = (e0 :: os.map (·.2)).map (·.wd)
  S : (cutF ms e.wd).S = os.map (fun q => q.1.py)
  wf : ∀ q ∈ e0 :: os.map (·.2), q.WF
  small : os ≠ [] → ∀ q ∈ e0 :: os.map (·.2), q.D + 2 ≤ e.D
  nil : os = [] → e0 = e
  ok : ∀ x, e.ok x → fvOk x (e0.ev x) os ∧ ∀ q ∈ e0 :: os.map (·.2), q.ok x
  val : ∀ x, e.ev x = fv x (e0.ev x) os
  pr : ∀ q ∈ os, q.1.pr = k
  tr : k ≤ 2 → os ≠ [] → ∀ q ∈ e0 :: os.map (·.2), q.tr
  ne : e.pk = k → os ≠ []

theorem wd_plain {o : Op} {l r : Ex} (h : (Ex.bin o l r).WF) (hk : o.pr ≠ 3 ∧ o.pr ≠ 4) : (Ex.bin o l r).wd = l.wd ++ (o.py :: r.wd) := by
  show (if Ex.lw o l then Ex.pl l.wd else l.wd) ++ (o.py :: (if Ex.pw (o.pr + 1) r then Ex.pl r.wd else r.wd)) = _
  have h1 : Ex.lw o l = false := by
    unfold Ex.lw cmpRank
    rw [decide_eq_false (by simp [hk.1, hk.2])]; rfl
  have h2 : Ex.pw (o.pr + 1) r = false := by
    unfold Ex.pw
    have e1 : (o.pr + 1 == 0) = false := by rw [beq_eq_false_iff_ne]; have := o.pr_pos; omega
    have e2 : (o.pr + 1 == 4) = false := by rw [beq_eq_false_iff_ne]; have := hk.1; omega
    rw [e1, e2]; simp
  rw [h1, h2]; simp

theorem spine_of {k : Int} {ms : List Str} (hk : k = 1 ∨ k = 2 ∨ k = 5 ∨ k = 6) (hin : ∀ o : Op, o.pr = k → o.py ∈ ms) (hms : ∀ w ∈ ms, wc w = k) : ∀ e : Ex, e.WF → k ≤ e.pk → ∃ e0 os, Spine k ms e e0 os := by
  intro e
  have base : ∀ e : Ex, e.WF → k < e.pk → ∃ e0 os, Spine k ms e e0 os := by
    intro e h hlt
    have hc := (low_wd e h ms fun w hw => by rw [hms w hw]; exact hlt).cut
    refine ⟨e, [], ⟨by rw [hc], by rw [hc]; rfl, by rw [hc]; rfl, fun q hq => ?_, fun q => absurd rfl q, fun _ => rfl, fun x hx => ⟨trivial, fun q hq => ?_⟩, fun x => rfl, fun q hq => (nomatch hq), fun _ q => absurd rfl q, fun q => by omega⟩⟩
    · simp at hq; rw [hq]; exact h
    · simp at hq; rw [hq]; exact hx
  induction e with
  | bin o l r ihl ihr =>
    intro h hle
    by_cases ho : o.pr = k
    · have hle2 := Ex.pk_le h.2.2.1
      have hlt2 := Ex.pk_lt h.2.2.2.1
      obtain ⟨e0, os, sp⟩ := ihl h.1 (by omega)
      have hwd := wd_plain h (by omega)
      have hfr : Free ms r.wd := low_wd r h.2.1 ms fun w hw => by rw [hms w hw]; omega
      have hc := cut_snoc (ms := ms) (a := l.wd) (b := r.wd) (m := o.py) sp.d (hin o ho) (py_facts o).1 hfr
      have hp := sp.parts
      unfold CutSt.parts at hp
      have hsm : ∀ q ∈ e0 :: os.map (·.2), q.D ≤ l.D := fun q hq => by
        by_cases e : os = []
        · rw [sp.nil e, e] at hq; simp at hq; rw [hq]; exact Nat.le_refl _
        · have := sp.small e q hq; omega
      have hDe : (Ex.bin o l r).D = max l.D r.D + 2 := rfl
      refine ⟨e0, os ++ [(o, r)], ⟨by rw [hwd, hc], ?_, ?_, fun q hq => ?_, fun _ q hq => ?_, fun q => by simp at q, fun x hx => ⟨?_, fun q hq => ?_⟩, fun x => ?_, fun q hq => ?_, fun k2 _ q hq => ?_, fun _ => by simp⟩⟩
      · rw [hwd, hc]
        show ((cutF ms l.wd).P ++ [(cutF ms l.wd).L]) ++ [r.wd] = _
        rw [hp]; simp
      · rw [hwd, hc, sp.S]; simp
      · simp only [List.map_append, List.map_cons, List.map_nil, List.mem_cons, List.mem_append, List.not_mem_nil, or_false] at hq
        rcases hq with rfl | hq | rfl
        · exact sp.wf _ (.head _)
        · exact sp.wf q (.tail _ hq)
        · exact h.2.1
      · simp only [List.map_append, List.map_cons, List.map_nil, List.mem_cons, List.mem_append, List.not_mem_nil, or_false] at hq
        rw [hDe]
        rcases hq with rfl | hq | rfl
        · have := hsm _ (.head _); omega
        · have := hsm q (.tail _ hq); omega
        · omega
      · obtain ⟨x1, x2, x3⟩ := hx
        refine fvOk_snoc (sp.ok x x1).1 ?_
        rw [← sp.val x]; exact x3
      · obtain ⟨x1, x2, x3⟩ := hx
        simp only [List.map_append, List.map_cons, List.map_nil, List.mem_cons, List.mem_append, List.not_mem_nil, or_false] at hq
        rcases hq with rfl | hq | rfl
        · exact (sp.ok x x1).2 _ (.head _)
        · exact (sp.ok x x1).2 q (.tail _ hq)
        · exact x2
      · rw [fv_snoc, ← sp.val x]; rfl
      · rcases List.mem_append.mp hq with hq | hq
        · exact sp.pr q hq
        · rw [List.mem_singleton.mp hq]; exact ho
      · have htr := h.2.2.2.2.1 (by rw [← ho] at k2; revert k2; cases o <;> decide)
        simp only [List.map_append, List.map_cons, List.map_nil, List.mem_cons, List.mem_append, List.not_mem_nil, or_false] at hq
        by_cases e : os = []
        · have e0l := sp.nil e
          rw [e] at hq
          simp at hq
          rcases hq with rfl | rfl
          · rw [e0l]; exact htr.1
          · exact htr.2
        · rcases hq with rfl | hq | rfl
          · exact sp.tr k2 e _ (.head _)
          · exact sp.tr k2 e q (.tail _ hq)
          · exact htr.2
    · exact base _ h (by have : k ≤ o.pr := hle; show k < o.pr; omega)
  | tern c a b _ _ _ => intro h hle; have : k ≤ 0 := hle; omega
  | n => intro h _; exact base _ h (by show k < 100; omega)
  | num v => intro h _; exact base _ h (by show k < 100; omega)
  | not e _ => intro h _; exact base _ h (by show k < 100; omega)
  | par e _ => intro h _; exact base _ h (by show k < 100; omega)
end
section
theorem head_ok : ∀ e : Ex, e.WF → 4 ≤ e.rank → ∃ w r, e.wd = w :: r ∧ w ≠ Str.ofString "not"
  | .n, _, _ => ⟨_, _, rfl, by decide +kernel⟩
  | .num k, h, _ => ⟨_, _, rfl, (num_facts k h.1 h.2).2.2.2.2.2⟩
  | .bin o l r, h, hr => by
    obtain ⟨w, r', e, hw⟩ := head_ok l h.1 (Nat.le_trans hr h.2.2.1)
    show ∃ w' r'', (if Ex.lw o l then Ex.pl l.wd else l.wd) ++ _ = w' :: r'' ∧ _
    cases Ex.lw o l
    · exact ⟨w, _, by rw [if_neg (by simp), e, List.cons_append], hw⟩
    · exact ⟨Str.ofString "(", _, rfl, by decide +kernel⟩
  | .tern c a b, _, hr => by simp [Ex.rank] at hr
  | .not e, _, hr => by simp [Ex.rank] at hr
  | .par e, _, _ => ⟨_, _, rfl, by decide +kernel⟩

theorem foldOps_fv {x : Int} : ∀ (os : List (Op × Ex)) (v : Int), (∀ q ∈ os, 3 ≤ q.1.pr) → foldOps (os.map fun q => q.1.py) v (os.map fun q => q.2.ev x) = fv x v os
  | [], v, _ => rfl
  | q :: os, v, h => by
    show foldOps (q.1.py :: _) v (_ :: _) = _
    unfold foldOps
    rw [foldOps_fv os _ fun q hq => h q (.tail _ hq), ← apply_py q.1 (h q (.head _))]
    rfl
theorem foldOk_fv {x : Int} : ∀ (os : List (Op × Ex)) (v : Int), (∀ q ∈ os, 3 ≤ q.1.pr) → fvOk x v os → foldOk (os.map fun q => q.1.py) v (os.map fun q => q.2.ev x)
  | [], v, _, _ => trivial
  | q :: os, v, h, hk => by
    show foldOk (q.1.py :: _) v (_ :: _)
    unfold foldOk
    refine ⟨hk.1, ?_⟩
    have := foldOk_fv os _ (fun q hq => h q (.tail _ hq)) hk.2
    rw [apply_py q.1 (h q (.head _))] at this
    exact this

theorem head_filter {p : Int → Bool} {a : Int} {l m : List Int} (h : p a = true) : ((a :: l).filter p ++ m)[0]? = some a := by rw [List.filter_cons, if_pos h]; rfl
/-- or: the first that is not 0, else the last -/
theorem or_pick {x : Int} : ∀ (os : List (Op × Ex)) (v : Int), (∀ q ∈ os, q.1 = .or) → (v = 0 ∨ v = 1) → (∀ q ∈ os, q.2.ev x = 0 ∨ q.2.ev x = 1) →
    ((v :: os.map fun q => q.2.ev x).filter (fun y => (y != 0) == true) ++ (v :: os.map fun q => q.2.ev x).drop ((v :: os.map fun q => q.2.ev x).length - 1))[0]? = some (fv x v os)
  | [], v, _, hv, _ => by rcases hv with rfl | rfl <;> rfl
  | q :: os, v, ho, hv, h => by
    have ih := or_pick os (applyF q.1.tok v (q.2.ev x)) (fun q hq => ho q (.tail _ hq)) (by rw [ho q (.head _), apply_or]; have := h q (.head _); omega) fun q hq => h q (.tail _ hq)
    have hq := h q (.head _)
    show _ = some (fv x (applyF q.1.tok v (q.2.ev x)) os)
    rw [← ih]
    rw [ho q (.head _), apply_or]
    simp only [List.map_cons, List.length_cons, Nat.add_sub_cancel, List.drop_succ_cons]
    rcases hv with rfl | rfl
    · rw [show max 0 (q.2.ev x) = q.2.ev x by omega]
      rw [List.filter_cons, if_neg (by decide)]
    · rw [show max 1 (q.2.ev x) = 1 by omega]
      rw [head_filter rfl, head_filter rfl]
theorem and_pick {x : Int} : ∀ (os : List (Op × Ex)) (v : Int), (∀ q ∈ os, q.1 = .and) → (v = 0 ∨ v = 1) → (∀ q ∈ os, q.2.ev x = 0 ∨ q.2.ev x = 1) →
    ((v :: os.map fun q => q.2.ev x).filter (fun y => (y != 0) == false) ++ (v :: os.map fun q => q.2.ev x).drop ((v :: os.map fun q => q.2.ev x).length - 1))[0]? = some (fv x v os)
  | [], v, _, hv, _ => by rcases hv with rfl | rfl <;> rfl
  | q :: os, v, ho, hv, h => by
    have ih := and_pick os (applyF q.1.tok v (q.2.ev x)) (fun q hq => ho q (.tail _ hq)) (by rw [ho q (.head _), apply_and]; have := h q (.head _); omega) fun q hq => h q (.tail _ hq)
    have hq := h q (.head _)
    show _ = some (fv x (applyF q.1.tok v (q.2.ev x)) os)
    rw [← ih]
    rw [ho q (.head _), apply_and]
    simp only [List.map_cons, List.length_cons, Nat.add_sub_cancel, List.drop_succ_cons]
    rcases hv with rfl | rfl
    · rw [show min 0 (q.2.ev x) = 0 by omega]
      rw [head_filter rfl, head_filter rfl]
    · rw [show min 1 (q.2.ev x) = q.2.ev x by omega]
      rw [List.filter_cons, if_neg (by decide)]

theorem low_no {e : Ex} (h : e.WF) {ms : List Str} (hm : ∀ w ∈ ms, wc w < e.pk) : NoCut ms e.wd := (low_wd e h ms hm).noCut
theorem wc_if : ∀ w ∈ IFS, wc w = 0 := by decide +kernel
theorem wc_bool : ∀ j, j < 2 → ∀ w ∈ [boolMk j], wc w = (j : Int) + 1 := by
  intro j hj
  match j, hj with
  | 0, _ => decide +kernel
  | 1, _ => decide +kernel
theorem wc_op : ∀ j, j < 3 → ∀ w ∈ opMk j, wc w = (j : Int) + 4 := by
  intro j hj
  match j, hj with
  | 0, _ => decide +kernel
  | 1, _ => decide +kernel
  | 2, _ => decide +kernel
end
section
theorem getD_map_ev {x : Int} {l : List Ex} {i : Nat} {p : List Str} (h : (l.map (·.wd))[i]? = some p) : ∃ q ∈ l, p = q.wd ∧ (l.map (·.ev x)).getD i 0 = q.ev x := by
  rw [List.getElem?_map] at h
  cases hq : l[i]? with
  | none => rw [hq] at h; cases h
  | some q =>
    rw [hq] at h
    cases h
    refine ⟨q, List.mem_of_getElem? hq, rfl, ?_⟩
    simp [List.getD, List.getElem?_map, hq]

theorem pl_read {x : Int} {d : Nat} {ws : List Str} {v : Int} (hb : Bal ws) (h : ReadR x d ws v) : ReadR x (d + 1) (Ex.pl ws) v := by
  have L : Low 100 (Ex.pl ws) := Low.pl hb
  refine ReadR.paren (L _ fun w hw => ?_).noCut (fun j hj => (L _ fun w hw => ?_).noCut) (fun j hj => (L _ fun w hw => ?_).noCut) h
  · rw [wc_if w hw]; decide
  · rw [wc_bool j hj w hw]; omega
  · rw [wc_op j hj w hw]; omega

theorem ite_read {x : Int} {d : Nat} {ws : List Str} {v : Int} {b : Bool} (hb : Bal ws) (h : ∀ d', d' = d ∨ d' + 1 = d → ReadR x d' ws v) (hd : 1 ≤ d) : ReadR x d (if b then Ex.pl ws else ws) v := by
  cases b
  · exact h d (.inl rfl)
  · obtain ⟨d', rfl⟩ : ∃ d', d = d' + 1 := ⟨d - 1, by omega⟩
    exact pl_read hb (h d' (.inr rfl))

theorem parts_grow (ms : List Str) : ∀ (b : List Str) (s : CutSt), ∃ X Y, (run ms s b).P = s.P ++ X ∧ (run ms s b).S = s.S ++ Y
  | [], s => ⟨[], [], by simp [run], by simp [run]⟩
  | w :: b, s => by
    obtain ⟨X, Y, h1, h2⟩ := parts_grow ms b (cutStep ms s w)
    unfold run at h1 h2 ⊢
    rw [List.foldl_cons, h1, h2]
    unfold cutStep
    split
    · exact ⟨_, _, List.append_assoc .., List.append_assoc ..⟩
    · exact ⟨_, _, rfl, rfl⟩

theorem read_of {x : Int} : ∀ (d : Nat) (e : Ex), e.WF → e.D ≤ d → e.ok x → ReadR x d e.wd (e.ev x) := by
  intro d
  induction d using Nat.strongRecOn with
  | _ d ih =>
  intro e h hd hok
  obtain ⟨d, rfl⟩ : ∃ d', d = d' + 1 := ⟨d - 1, by have := e.D_pos; omega⟩
  have sub : ∀ q : Ex, q.WF → q.D + 1 ≤ e.D → q.ok x → ReadR x d q.wd (q.ev x) := fun q hq hD ho => ih d (by omega) q hq (by omega) ho
  have sub2 : ∀ q : Ex, q.WF → q.D + 2 ≤ e.D → q.ok x → ∀ b : Bool, ReadR x d (if b then Ex.pl q.wd else q.wd) (q.ev x) := fun q hq hD ho b =>
    ite_read (bal_wd q hq) (fun d' hd' => ih d' (by omega) q hq (by omega) ho) (by have := q.D_pos; omega)
  cases e with
  | n => exact ReadR.leafN
  | num k =>
    obtain ⟨f1, f2, f3, f4, f5, f6⟩ := num_facts k h.1 h.2
    refine ReadR.leafK f1 (by omega) (low_no (e := .num k) h fun w hw => ?_) (fun j hj => low_no (e := .num k) h fun w hw => ?_) (fun j hj => low_no (e := .num k) h fun w hw => ?_) f6 f4 f5
    · rw [wc_if w hw]; show (0 : Int) < 100; decide
    · rw [wc_bool j hj w hw]; show _ < (100 : Int); omega
    · rw [wc_op j hj w hw]; show _ < (100 : Int); omega
  | par e => exact pl_read (bal_wd e h) (sub e h (Nat.le_refl _) hok)
  | not e =>
    refine ReadR.not (low_no (e := .not e) h fun w hw => ?_) (fun j hj => low_no (e := .not e) h fun w hw => ?_) (sub e h.1 (Nat.le_refl _) hok)
    · rw [wc_if w hw]; show (0 : Int) < 100; decide
    · rw [wc_bool j hj w hw]; show _ < (100 : Int); omega
  | tern c a b =>
    obtain ⟨wc', wa, wb, hc⟩ := id h
    obtain ⟨oc, oa, ob⟩ := hok
    have hDe : (Ex.tern c a b).D = max c.D (max a.D b.D) + 2 := rfl
    rw [hDe] at sub sub2
    have rc := sub c wc' (by omega) oc
    have ra := sub2 a wa (by omega) oa (Ex.pw 0 a)
    have rb := sub b wb (by omega) ob
    have hpc : 1 ≤ c.pk := by
      cases c with
      | bin o l r => exact o.pr_pos
      | tern _ _ _ => exact absurd rfl hc
      | n => show (1 : Int) ≤ 100; decide
      | num k => show (1 : Int) ≤ 100; decide
      | not e => show (1 : Int) ≤ 100; decide
      | par e => show (1 : Int) ≤ 100; decide
    have hpa : Free IFS (if Ex.pw 0 a then Ex.pl a.wd else a.wd) := by
      refine Low.ite (k := 1) (bal_wd a wa) (by decide) (fun hb => (low_wd a wa).weak ?_) IFS fun w hw => by rw [wc_if w hw]; decide
      cases a with
      | bin o l r => exact o.pr_pos
      | tern _ _ _ => exact absurd hb (by simp [Ex.pw, Ex.isTern])
      | n => show (1 : Int) ≤ 100; decide
      | num k => show (1 : Int) ≤ 100; decide
      | not e => show (1 : Int) ≤ 100; decide
      | par e => show (1 : Int) ≤ 100; decide
    have hpc' : Free IFS c.wd := low_wd c wc' IFS fun w hw => by rw [wc_if w hw]; omega
    generalize hA : (if Ex.pw 0 a then Ex.pl a.wd else a.wd) = A at ra hpa
    have hwd : (Ex.tern c a b).wd = A ++ (Str.ofString "if" :: (c.wd ++ (Str.ofString "else" :: b.wd))) := by rw [← hA]; rfl
    have hif : Str.ofString "if" ∈ IFS := by decide +kernel
    have hel : Str.ofString "else" ∈ IFS := by decide +kernel
    have hdi : dep (Str.ofString "if") = 0 := by decide +kernel
    have hde : dep (Str.ofString "else") = 0 := by decide +kernel
    have hcut : cutF IFS (Ex.tern c a b).wd = run IFS ⟨[A, c.wd], [], [Str.ofString "if", Str.ofString "else"], 0⟩ b.wd := by
      rw [hwd]
      have e1 : cutF IFS (A ++ (Str.ofString "if" :: (c.wd ++ (Str.ofString "else" :: b.wd)))) = run IFS (cutStep IFS (run IFS (cutStep IFS (cutF IFS A) (Str.ofString "if")) c.wd) (Str.ofString "else")) b.wd := by
        unfold cutF run; rw [List.foldl_append, List.foldl_cons, List.foldl_append, List.foldl_cons]
      rw [e1, hpa.cut, step_mark rfl hif hdi, hpc' _ rfl, step_mark rfl hel hde]
      rfl
    obtain ⟨X, Y, gP, gS⟩ := parts_grow IFS b.wd ⟨[A, c.wd], [], [Str.ofString "if", Str.ofString "else"], 0⟩
    have hS : (cutF IFS (Ex.tern c a b).wd).S ≠ [] := by rw [hcut, gS]; simp
    have h0 : (cutF IFS (Ex.tern c a b).wd).parts[0]? = some A := by rw [hcut]; unfold CutSt.parts; rw [gP]; rfl
    have h1 : (cutF IFS (Ex.tern c a b).wd).parts[1]? = some c.wd := by rw [hcut]; unfold CutSt.parts; rw [gP]; rfl
    show ReadR x (d + 1) _ (if c.ev x = 0 then b.ev x else a.ev x)
    by_cases hz : c.ev x = 0
    · rw [if_pos hz]
      rw [hz] at rc
      refine ReadR.ifF hS h0 h1 rc ?_
      have hdr : List.drop (A.length + c.wd.length + 2) (Ex.tern c a b).wd = b.wd := by
        rw [hwd]
        have e2 : A ++ (Str.ofString "if" :: (c.wd ++ (Str.ofString "else" :: b.wd))) = (A ++ [Str.ofString "if"] ++ c.wd ++ [Str.ofString "else"]) ++ b.wd := by simp
        rw [e2]
        refine List.drop_left' ?_
        simp; omega
      rw [hdr]
      exact rb
    · rw [if_neg hz]
      exact ReadR.ifT hS h0 h1 rc hz ra
  | bin o l r =>
    have hDe : (Ex.bin o l r).D = max l.D r.D + 2 := rfl
    have hnoIf : NoCut IFS (Ex.bin o l r).wd := low_no h fun w hw => by rw [wc_if w hw]; have := o.pr_pos; show (0 : Int) < o.pr; omega
    have hbool : ∀ (k : Nat) (v : Int), k < 2 → o.pr = (k : Int) + 1 → (∀ o' : Op, o'.pr = (k : Int) + 1 → o' = if k = 0 then .or else .and) → ReadR x (d + 1) (Ex.bin o l r).wd ((Ex.bin o l r).ev x) := by
      intro k _ hk hpr huniq
      obtain ⟨e0, os, sp⟩ := spine_of (k := (k : Int) + 1) (ms := [boolMk k]) (by omega) (fun o' ho' => by
        rw [huniq o' ho']
        match k, hk with
        | 0, _ => decide +kernel
        | 1, _ => decide +kernel) (wc_bool k hk) (Ex.bin o l r) h (Int.le_of_eq hpr.symm)
      have hne := sp.ne hpr
      have h01 : ∀ q ∈ e0 :: os.map (·.2), q.ev x = 0 ∨ q.ev x = 1 := fun q hq => tr_01 q (sp.wf q hq) (sp.tr (by omega) hne q hq) x
      refine ReadR.bool k ((e0 :: os.map (·.2)).map (·.ev x)) hk hnoIf (fun j hj => low_no h fun w hw => ?_) ?_ ?_ (fun i p hp => ?_) ?_
      · rw [wc_bool j (by omega) w hw]; show _ < o.pr; omega
      · rw [sp.S]; simpa using hne
      · rw [sp.parts]; simp
      · rw [sp.parts] at hp
        obtain ⟨q, hq, rfl, e⟩ := getD_map_ev (x := x) hp
        rw [e]
        exact sub q (sp.wf q hq) (by have := sp.small hne q hq; omega) ((sp.ok x hok).2 q hq)
      · rw [sp.val x]
        have hm : (e0 :: os.map (·.2)).map (·.ev x) = e0.ev x :: os.map (fun q => q.2.ev x) := by simp
        rw [hm]
        have hq : ∀ q ∈ os, q.1 = if k = 0 then Op.or else Op.and := fun q hq => huniq q.1 (sp.pr q hq)
        have h0 := h01 e0 (.head _)
        have h1 : ∀ q ∈ os, q.2.ev x = 0 ∨ q.2.ev x = 1 := fun q hq => h01 q.2 (.tail _ (List.mem_map_of_mem hq))
        match k, hk, hq with
        | 0, _, hq => exact or_pick os _ hq h0 h1
        | 1, _, hq => exact and_pick os _ hq h0 h1
    have harith : ∀ (k : Nat), 0 < k → k < 3 → o.pr = (k : Int) + 4 → (∀ o' : Op, o'.pr = (k : Int) + 4 → o'.py ∈ opMk k) → ReadR x (d + 1) (Ex.bin o l r).wd ((Ex.bin o l r).ev x) := by
      intro k hk0 hk hpr hin
      obtain ⟨e0, os, sp⟩ := spine_of (k := (k : Int) + 4) (ms := opMk k) (by omega) hin (wc_op k hk) (Ex.bin o l r) h (Int.le_of_eq hpr.symm)
      have hne := sp.ne hpr
      obtain ⟨w0, rw', ew, hw0⟩ := head_ok (Ex.bin o l r) h (by show 4 ≤ o.lr; revert hpr; cases o <;> simp [Op.pr, Op.lr] <;> omega)
      have hpr3 : ∀ q ∈ os, 3 ≤ q.1.pr := fun q hq => by rw [sp.pr q hq]; omega
      have hv := foldOps_fv (x := x) os (e0.ev x) hpr3
      have hS := sp.S
      have hP := sp.parts
      have hn1 : ∀ j, j < 2 → NoCut [boolMk j] (Ex.bin o l r).wd := fun j hj => low_no h fun w hw => by rw [wc_bool j hj w hw]; show _ < o.pr; omega
      have hn2 : ∀ j, j < k → NoCut (opMk j) (Ex.bin o l r).wd := fun j hj => low_no h fun w hw => by rw [wc_op j (by omega) w hw]; show _ < o.pr; omega
      rw [sp.val x, ← hv, ← hS]
      rw [ew] at hS hP hnoIf hn1 hn2 ⊢
      refine ReadR.arith k (os.map fun q => q.2.ev x) hk0 hk hnoIf hn1 hw0 hn2 ?_ ?_ (fun i p hp => ?_) ?_
      · rw [hS]; simpa using hne
      · rw [hP]; simp
      · rw [hP] at hp
        obtain ⟨q, hq, rfl, e⟩ := getD_map_ev (x := x) hp
        have e' : (e0.ev x :: os.map fun q => q.2.ev x).getD i 0 = q.ev x := by rw [← e]; simp [Function.comp_def]
        rw [e']
        exact sub q (sp.wf q hq) (by have := sp.small hne q hq; omega) ((sp.ok x hok).2 q hq)
      · rw [hS]
        exact foldOk_fv os _ hpr3 (sp.ok x hok).1
    have hcmp : (o.pr = 3 ∨ o.pr = 4) → ReadR x (d + 1) (Ex.bin o l r).wd ((Ex.bin o l r).ev x) := by
      intro hpr
      obtain ⟨wl, wr, rl, rr, _, _⟩ := id h
      obtain ⟨ol, or', oo⟩ := hok
      have hle := Ex.pk_le rl
      have hlt := Ex.pk_lt rr
      have fl : Free (opMk 0) (if Ex.lw o l then Ex.pl l.wd else l.wd) := by
        refine Low.ite (k := 5) (bal_wd l wl) (by decide) (fun hb => (low_wd l wl).weak ?_) _ fun w hw => by rw [wc_op 0 (by decide) w hw]; decide
        have : cmpRank l.j = false := by
          unfold Ex.lw at hb
          have : cmpRank o.pr = true := by unfold cmpRank; rcases hpr with q | q <;> rw [q] <;> decide
          rw [this] at hb; simpa using hb
        unfold cmpRank at this
        have h34 : l.j ≠ 3 ∧ l.j ≠ 4 := by simpa using this
        cases l with
        | bin o' l1 l2 =>
          have h34' : o'.pr ≠ 3 ∧ o'.pr ≠ 4 := h34
          have hle' : o.pr ≤ o'.pr := hle
          show 5 ≤ o'.pr
          omega
        | tern _ _ _ => have : o.pr ≤ 0 := hle; omega
        | n => show (5 : Int) ≤ 100; decide
        | num k => show (5 : Int) ≤ 100; decide
        | not e => show (5 : Int) ≤ 100; decide
        | par e => show (5 : Int) ≤ 100; decide
      have fr : Free (opMk 0) (if Ex.pw (o.pr + 1) r then Ex.pl r.wd else r.wd) := by
        refine Low.ite (k := 5) (bal_wd r wr) (by decide) (fun hb => (low_wd r wr).weak ?_) _ fun w hw => by rw [wc_op 0 (by decide) w hw]; decide
        cases r with
        | bin o' l1 l2 =>
          have hlt' : o.pr < o'.pr := hlt
          have hb' : (false && o.pr + 1 == 0 || o'.pr == o.pr + 1 && o.pr + 1 == 4) = false := hb
          simp only [Bool.false_and, Bool.false_or, Bool.and_eq_false_iff, beq_eq_false_iff_ne] at hb'
          show 5 ≤ o'.pr
          omega
        | tern _ _ _ => have : o.pr < 0 := hlt; omega
        | n => show (5 : Int) ≤ 100; decide
        | num k => show (5 : Int) ≤ 100; decide
        | not e => show (5 : Int) ≤ 100; decide
        | par e => show (5 : Int) ≤ 100; decide
      have rl' := sub2 l wl (by rw [hDe]; omega) ol (Ex.lw o l)
      have rr' := sub2 r wr (by rw [hDe]; omega) or' (Ex.pw (o.pr + 1) r)
      generalize hA : (if Ex.lw o l then Ex.pl l.wd else l.wd) = A at fl rl'
      generalize hB : (if Ex.pw (o.pr + 1) r then Ex.pl r.wd else r.wd) = B at fr rr'
      have hwd : (Ex.bin o l r).wd = A ++ (o.py :: B) := by rw [← hA, ← hB]; rfl
      have hin : o.py ∈ opMk 0 := by revert hpr; cases o <;> simp [Op.pr] <;> decide +kernel
      have hc := cut_snoc (a := A) (b := B) (by rw [fl.cut]) hin (py_facts o).1 fr
      rw [← hwd, fl.cut] at hc
      obtain ⟨w0, rw', ew, hw0⟩ := head_ok (Ex.bin o l r) h (by show 4 ≤ o.lr; revert hpr; cases o <;> simp [Op.pr, Op.lr])
      have hn1 : ∀ j, j < 2 → NoCut [boolMk j] (Ex.bin o l r).wd := fun j hj => low_no h fun w hw => by rw [wc_bool j hj w hw]; show _ < o.pr; omega
      have hCM : CMP = opMk 0 := rfl
      show ReadR x (d + 1) _ (applyF o.tok (l.ev x) (r.ev x))
      rw [apply_py o (by omega)]
      rw [ew] at hc hnoIf hn1 ⊢
      have hcS : (cutF CMP (w0 :: rw')).S = [o.py] := by rw [hCM, hc]; rfl
      have hcP : (cutF CMP (w0 :: rw')).parts = [A, B] := by rw [hCM, hc]; rfl
      refine ReadR.cmp [l.ev x, r.ev x] hnoIf hn1 hw0 (by rw [hcS]; simp) (by rw [hcP]; rfl) (fun i p hp => ?_) ?_ ?_ ?_
      · rw [hcP] at hp
        match i, hp with
        | 0, hp => cases hp; exact rl'
        | 1, hp => cases hp; exact rr'
        | i + 2, hp => simp at hp
      · rw [hcS]
        intro i hi
        have : i = 0 := by simp at hi; exact hi
        subst this
        exact oo
      · rw [hcS]; simp [List.range_succ]
      · rw [hcS]; simp [List.range_succ]
    cases ho : o with
    | or => subst ho; exact hbool 0 0 (by decide) rfl (fun o' ho' => by revert ho'; cases o' <;> simp [Op.pr])
    | and => subst ho; exact hbool 1 0 (by decide) rfl (fun o' ho' => by revert ho'; cases o' <;> simp [Op.pr])
    | eq => subst ho; exact hcmp (.inl rfl)
    | ne => subst ho; exact hcmp (.inl rfl)
    | lt => subst ho; exact hcmp (.inr rfl)
    | gt => subst ho; exact hcmp (.inr rfl)
    | le => subst ho; exact hcmp (.inr rfl)
    | ge => subst ho; exact hcmp (.inr rfl)
    | add => subst ho; exact harith 1 (by decide) (by decide) rfl (fun o' ho' => by revert ho'; cases o' <;> simp [Op.pr] <;> decide +kernel)
    | sub => subst ho; exact harith 1 (by decide) (by decide) rfl (fun o' ho' => by revert ho'; cases o' <;> simp [Op.pr] <;> decide +kernel)
    | mul => subst ho; exact harith 2 (by decide) (by decide) rfl (fun o' ho' => by revert ho'; cases o' <;> simp [Op.pr] <;> decide +kernel)
    | div => subst ho; exact harith 2 (by decide) (by decide) rfl (fun o' ho' => by revert ho'; cases o' <;> simp [Op.pr] <;> decide +kernel)
    | mod => subst ho; exact harith 2 (by decide) (by decide) rfl (fun o' ho' => by revert ho'; cases o' <;> simp [Op.pr] <;> decide +kernel)
end
section
def NS : List Int := [0, 1, 2, 3, 5, 12]

theorem pow_add_le (m n : Nat) : 16 ^ m + 16 ^ n ≤ 16 ^ (m + 1 + n) := by
  have h1 : 16 ^ m ≤ 16 ^ (m + n) := Nat.pow_le_pow_right (by decide) (by omega)
  have h2 : 16 ^ n ≤ 16 ^ (m + n) := Nat.pow_le_pow_right (by decide) (by omega)
  have h3 : 16 ^ (m + 1 + n) = 16 * 16 ^ (m + n) := by rw [show m + 1 + n = (m + n) + 1 by omega, Nat.pow_succ, Nat.mul_comm]
  omega
theorem apply_bound (o : Op) (a b : Int) (A B : Nat) (ha : a.natAbs ≤ A) (hb : b.natAbs ≤ B) (hA : 1 ≤ A) (hB : 1 ≤ B) (hd : (o = .div ∨ o = .mod) → 1 ≤ b) : (applyF o.tok a b).natAbs ≤ A + B ∨ (applyF o.tok a b).natAbs ≤ A * B := by
  have c01 : ∀ v : Int, v = 0 ∨ v = 1 → v.natAbs ≤ A + B := fun v h => by rcases h with rfl | rfl <;> omega
  cases o with
  | or => left; rw [apply_or]; omega
  | and => left; rw [apply_and]; omega
  | eq => exact .inl (c01 _ (apply_cmp01 .eq (.inl rfl) a b))
  | ne => exact .inl (c01 _ (apply_cmp01 .ne (.inl rfl) a b))
  | lt => exact .inl (c01 _ (apply_cmp01 .lt (.inr rfl) a b))
  | gt => exact .inl (c01 _ (apply_cmp01 .gt (.inr rfl) a b))
  | le => exact .inl (c01 _ (apply_cmp01 .le (.inr rfl) a b))
  | ge => exact .inl (c01 _ (apply_cmp01 .ge (.inr rfl) a b))
  | add =>
    left
    have : applyF (Op.tok .add) a b = a + b := by
      unfold applyF Op.tok; rw [if_neg (by decide +kernel), if_pos (by decide +kernel), if_pos (by decide +kernel)]
    rw [this]; omega
  | sub =>
    left
    have : applyF (Op.tok .sub) a b = a - b := by
      unfold applyF Op.tok; rw [if_neg (by decide +kernel), if_pos (by decide +kernel), if_neg (by decide +kernel), if_pos (by decide +kernel)]
    rw [this]; omega
  | mul =>
    right
    have : applyF (Op.tok .mul) a b = a * b := by
      unfold applyF Op.tok; rw [if_neg (by decide +kernel), if_pos (by decide +kernel), if_neg (by decide +kernel), if_neg (by decide +kernel)]
    rw [this, Int.natAbs_mul]; exact Nat.mul_le_mul ha hb
  | div =>
    left
    have hb1 := hd (.inl rfl)
    have : applyF (Op.tok .div) a b = a.fdiv b := by
      unfold applyF Op.tok; rw [if_neg (by decide +kernel), if_neg (by decide +kernel), if_pos (by decide +kernel), if_neg (by decide +kernel)]
    rw [this, Int.fdiv_eq_ediv_of_nonneg _ (by omega)]
    have := Int.natAbs_ediv_le_natAbs a b
    omega
  | mod =>
    left
    have hb1 := hd (.inr rfl)
    have : applyF (Op.tok .mod) a b = a.fmod b := by
      unfold applyF Op.tok; rw [if_neg (by decide +kernel), if_neg (by decide +kernel), if_pos (by decide +kernel), if_pos (by decide +kernel)]
    rw [this, Int.fmod_eq_emod_of_nonneg _ (by omega)]
    have h1 := Int.emod_nonneg a (show b ≠ 0 by omega)
    have h2 := Int.emod_lt_of_pos a (show 0 < b by omega)
    omega

theorem ev_bound : ∀ e : Ex, e.WF → ∀ x, 0 ≤ x → x ≤ 12 → (e.ev x).natAbs ≤ 16 ^ e.toks.length
  | .n, _, x, h0, h1 => by show x.natAbs ≤ 16 ^ 1; omega
  | .num k, h, x, _, _ => by
    have h0 := h.1
    have h1 := h.2
    show k.natAbs ≤ 16 ^ 1
    omega
  | .bin o l r, h, x, h0, h1 => by
    have il := ev_bound l h.1 x h0 h1
    have ir := ev_bound r h.2.1 x h0 h1
    have hl : (Ex.bin o l r).toks.length = l.toks.length + 1 + r.toks.length := by simp [Ex.toks]; omega
    rw [hl]
    have hd : (o = .div ∨ o = .mod) → 1 ≤ r.ev x := fun q => by obtain ⟨k, rfl, hk⟩ := h.2.2.2.2.2 q; exact hk
    have p1 : 1 ≤ 16 ^ l.toks.length := Nat.one_le_pow _ _ (by decide)
    have p2 : 1 ≤ 16 ^ r.toks.length := Nat.one_le_pow _ _ (by decide)
    show (applyF o.tok (l.ev x) (r.ev x)).natAbs ≤ _
    rcases apply_bound o _ _ _ _ il ir p1 p2 hd with q | q
    · exact Nat.le_trans q (pow_add_le _ _)
    · refine Nat.le_trans q ?_
      rw [← Nat.pow_add]
      exact Nat.pow_le_pow_right (by decide) (by omega)
  | .tern c a b, h, x, h0, h1 => by
    have ia := ev_bound a h.2.1 x h0 h1
    have ib := ev_bound b h.2.2.1 x h0 h1
    show (if c.ev x = 0 then b.ev x else a.ev x).natAbs ≤ _
    have hl : (Ex.tern c a b).toks.length = c.toks.length + 1 + a.toks.length + 1 + b.toks.length := by simp [Ex.toks]; omega
    rw [hl]
    split
    · exact Nat.le_trans ib (Nat.pow_le_pow_right (by decide) (by omega))
    · exact Nat.le_trans ia (Nat.pow_le_pow_right (by decide) (by omega))
  | .not e, h, x, h0, h1 => by
    show (if (e.ev x == 0) = true then (1 : Int) else 0).natAbs ≤ _
    have p1 : 1 ≤ 16 ^ (Ex.not e).toks.length := Nat.one_le_pow _ _ (by decide)
    split
    · exact p1
    · exact Nat.zero_le _
  | .par e, h, x, h0, h1 => by
    refine Nat.le_trans (ev_bound e h x h0 h1) (Nat.pow_le_pow_right (by decide) ?_)
    simp [Ex.toks]; omega

theorem intBits_le {a : Int} {n : Nat} (h : a.natAbs ≤ 16 ^ n) : Builtin.Int.intBits a ≤ 4 * n + 1 := by
  unfold Builtin.Int.intBits
  split
  · omega
  · rename_i hz
    have h0 : a.natAbs ≠ 0 := by intro q; apply hz; simp [Int.natAbs_eq_zero.mp q]
    have : a.natAbs.log2 < 4 * n + 1 := (Nat.log2_lt h0).mpr (Nat.lt_of_le_of_lt h (by
      rw [show (16 : Nat) = 2 ^ 4 from rfl, ← Nat.pow_mul]
      exact Nat.pow_lt_pow_right (by decide) (by omega)))
    omega
theorem mulOk_of {a b : Int} {m n : Nat} (ha : a.natAbs ≤ 16 ^ m) (hb : b.natAbs ≤ 16 ^ n) (h : m + n ≤ 4000) : IntMulOk a b := by
  have h1 := intBits_le ha
  have h2 := intBits_le hb
  unfold IntMulOk
  have : Builtin.Int.intTooBig ((Builtin.Int.intBits a : Int) + (Builtin.Int.intBits b : Int)) = false := by
    unfold Builtin.Int.intTooBig
    refine decide_eq_false ?_
    have : (32768 : Int) ≤ bitsLine := by decide
    omega
  rw [this]
  simp
theorem notPylong {a b : Int} (h : 0 ≤ b) (h9 : b ≤ 9) : Builtin.divisionGoesByPylong a b = false := by
  unfold Builtin.divisionGoesByPylong
  have : b = 0 ∨ b = 1 ∨ b = 2 ∨ b = 3 ∨ b = 4 ∨ b = 5 ∨ b = 6 ∨ b = 7 ∨ b = 8 ∨ b = 9 := by omega
  have key : ¬ ((if (b == 0) = true then 0 else b.natAbs.log2 / 30 + 1) > 300) := by
    rcases this with rfl | rfl | rfl | rfl | rfl | rfl | rfl | rfl | rfl | rfl <;> decide
  simp only [decide_eq_false key, Bool.false_and]

theorem apply_ok {o : Op} {a b : Int} {m n : Nat} (ha : a.natAbs ≤ 16 ^ m) (hb : b.natAbs ≤ 16 ^ n) (h : m + n ≤ 4000) (hd : (o = .div ∨ o = .mod) → 1 ≤ b ∧ b ≤ 9) : ApplyOk o.tok a b ∧ ApplyOk o.py a b := by
  refine ⟨⟨fun _ => mulOk_of ha hb h, fun hm => ?_⟩, ⟨fun _ => mulOk_of ha hb h, fun hm => ?_⟩⟩
  · have : o = .div ∨ o = .mod := by revert hm; cases o <;> first | (intro _; exact .inl rfl) | (intro _; exact .inr rfl) | (intro hm; exact absurd hm (by decide +kernel))
    obtain ⟨h1, h2⟩ := hd this
    exact ⟨by omega, notPylong (by omega) h2⟩
  · have : o = .div ∨ o = .mod := by revert hm; cases o <;> first | (intro _; exact .inl rfl) | (intro _; exact .inr rfl) | (intro hm; exact absurd hm (by decide +kernel))
    obtain ⟨h1, h2⟩ := hd this
    exact ⟨by omega, notPylong (by omega) h2⟩

theorem ok_of : ∀ e : Ex, e.WF → e.toks.length ≤ 4000 → ∀ x, 0 ≤ x → x ≤ 12 → e.ok x
  | .n, _, _, _, _, _ => trivial
  | .num k, _, _, _, _, _ => trivial
  | .bin o l r, h, hl, x, h0, h1 => by
    have e : (Ex.bin o l r).toks.length = l.toks.length + 1 + r.toks.length := by simp [Ex.toks]; omega
    rw [e] at hl
    refine ⟨ok_of l h.1 (by omega) x h0 h1, ok_of r h.2.1 (by omega) x h0 h1, (apply_ok (ev_bound l h.1 x h0 h1) (ev_bound r h.2.1 x h0 h1) (by omega) fun q => ?_).2⟩
    have hr := h.2.1
    obtain ⟨k, rfl, hk⟩ := h.2.2.2.2.2 q
    exact ⟨hk, hr.2⟩
  | .tern c a b, h, hl, x, h0, h1 => by
    have e : (Ex.tern c a b).toks.length = c.toks.length + 1 + a.toks.length + 1 + b.toks.length := by simp [Ex.toks]; omega
    rw [e] at hl
    exact ⟨ok_of c h.1 (by omega) x h0 h1, ok_of a h.2.1 (by omega) x h0 h1, ok_of b h.2.2.1 (by omega) x h0 h1⟩
  | .not e, h, hl, x, h0, h1 => ok_of e h.1 (by simp [Ex.toks] at hl; omega) x h0 h1
  | .par e, h, hl, x, h0, h1 => ok_of e h (by simp [Ex.toks] at hl; omega) x h0 h1
end
section
/-- a part stands for a formula -/
structure Gp (p : Part) (e : Ex) : Prop where
  wf : e.WF
  r : p.r = (e.rank : Int)
  t : p.t = true → e.tr
  ws : p.ws = e.toks
  ns : p.ns = NS.map e.ev

theorem Gp.len {p : Part} {e : Ex} (h : Gp p e) : p.ns.length = 6 := by rw [h.ns]; rfl
theorem Gp.get {p : Part} {e : Ex} (h : Gp p e) : ∀ k, k < 6 → p.ns.getD k 0 = e.ev (NS.getD k 0) := by
  intro k hk
  rw [h.ns]
  match k, hk with
  | 0, _ => rfl
  | 1, _ => rfl
  | 2, _ => rfl
  | 3, _ => rfl
  | 4, _ => rfl
  | 5, _ => rfl
theorem NS_range : ∀ k, k < 6 → 0 ≤ NS.getD k 0 ∧ NS.getD k 0 ≤ 12 := by decide
theorem map_NS (f : Int → Int) : (List.range 6).map (fun k => f (NS.getD k 0)) = NS.map f := rfl

theorem Gp.bracket {p : Part} {e : Ex} (h : Gp p e) : Gp (bracketF p) (.par e) :=
  ⟨h.wf, rfl, h.t, by show Str.ofString "(" :: (p.ws ++ [Str.ofString ")"]) = _; rw [h.ws]; rfl, h.ns⟩

/-- brackets where the rank is too low -/
def brE (b : Bool) (e : Ex) : Ex := if b then .par e else e
theorem Gp.br {p : Part} {e : Ex} (h : Gp p e) (c : Prop) [Decidable c] : Gp (if c then bracketF p else p) (brE (decide c) e) := by
  by_cases hc : c
  · rw [if_pos hc, decide_eq_true hc]; exact h.bracket
  · rw [if_neg hc, decide_eq_false hc]; exact h
theorem brE_D (b : Bool) (e : Ex) : (brE b e).D ≤ e.D + 1 := by cases b <;> simp [brE, Ex.D]
theorem brE_len (b : Bool) (e : Ex) : (brE b e).toks.length ≤ e.toks.length + 2 := by cases b <;> simp [brE, Ex.toks]
theorem brE_tr {b : Bool} {e : Ex} (h : e.tr) : (brE b e).tr := by cases b <;> exact h

theorem Gp.pairG {p q : Part} {e f : Ex} (o : Op) (hp : Gp p e) (hq : Gp q f) (ht : o.lr ≤ 2 → e.tr ∧ f.tr) (hd : o = .div ∨ o = .mod → ∃ k, f = .num k ∧ 1 ≤ k) :
    Gp (Mine.pairG (o.lr : Int) o.tok p q) (.bin o (brE (decide (p.r < (o.lr : Int))) e) (brE (decide (q.r ≤ (o.lr : Int))) f)) := by
  have h8 : o.lr ≤ 7 := by cases o <;> decide
  have g1 := hp.br (p.r < (o.lr : Int))
  have g2 := hq.br (q.r ≤ (o.lr : Int))
  have r1 : o.lr ≤ (brE (decide (p.r < (o.lr : Int))) e).rank := by
    by_cases hc : p.r < (o.lr : Int)
    · rw [decide_eq_true hc]; show o.lr ≤ 8; omega
    · rw [decide_eq_false hc]; show o.lr ≤ e.rank; have := hp.r; omega
  have r2 : o.lr < (brE (decide (q.r ≤ (o.lr : Int))) f).rank := by
    by_cases hc : q.r ≤ (o.lr : Int)
    · rw [decide_eq_true hc]; show o.lr < 8; omega
    · rw [decide_eq_false hc]; show o.lr < f.rank; have := hq.r; omega
  refine ⟨⟨g1.wf, g2.wf, r1, r2, fun h2 => ⟨brE_tr (ht h2).1, brE_tr (ht h2).2⟩, fun h => ?_⟩, rfl, fun h => ?_, ?_, ?_⟩
  · obtain ⟨k, rfl, hk⟩ := hd h
    refine ⟨k, ?_, hk⟩
    have hr := hq.r
    have : ¬ q.r ≤ (o.lr : Int) := by rw [hr]; show ¬ ((8 : Nat) : Int) ≤ _; omega
    rw [decide_eq_false this]; rfl
  · have : (o.lr : Int) ≤ 5 := of_decide_eq_true h
    show o.lr ≤ 5
    omega
  · show (if p.r < (o.lr : Int) then bracketF p else p).ws ++ [o.tok] ++ (if q.r ≤ (o.lr : Int) then bracketF q else q).ws = _
    rw [g1.ws, g2.ws]
    show _ = (brE _ e).toks ++ (o.tok :: (brE _ f).toks)
    simp
  · show (List.range 6).map (fun k => applyF o.tok ((if p.r < (o.lr : Int) then bracketF p else p).ns.getD k 0) ((if q.r ≤ (o.lr : Int) then bracketF q else q).ns.getD k 0)) = _
    rw [← map_NS]
    refine List.map_congr_left fun k hk => ?_
    have hk6 : k < 6 := by simpa using hk
    rw [g1.get k hk6, g2.get k hk6]
    rfl

theorem gp_zero : Gp zeroP (.num 0) := ⟨⟨by decide, by decide⟩, rfl, fun _ => .inl rfl, by decide +kernel, rfl⟩

theorem Gp.truth {p : Part} {e : Ex} (h : Gp p e) : ∃ e', Gp (truthF p) e' ∧ e'.tr ∧ e'.D ≤ e.D + 3 ∧ e'.toks.length ≤ e.toks.length + 4 ∧ (e' = e ∨ e'.rank = 4) := by
  unfold truthF
  by_cases ht : p.t = true
  · rw [if_pos ht]
    exact ⟨e, h, h.t ht, by omega, by omega, .inl rfl⟩
  · rw [if_neg ht]
    refine ⟨_, h.pairG .ne gp_zero (fun q => absurd q (by decide)) (fun q => by rcases q with q | q <;> cases q), show (4 : Nat) ≤ 5 by decide, ?_, ?_, .inr rfl⟩
    · have := brE_D (decide (p.r < ((Op.ne.lr : Nat) : Int))) e
      have h2 : (brE (decide (zeroP.r ≤ ((Op.ne.lr : Nat) : Int))) (.num 0)).D = 1 := by decide
      show max (brE _ e).D (brE _ (.num 0)).D + 2 ≤ _
      have := e.D_pos
      omega
    · have := brE_len (decide (p.r < ((Op.ne.lr : Nat) : Int))) e
      have h2 : (brE (decide (zeroP.r ≤ ((Op.ne.lr : Nat) : Int))) (.num 0)).toks.length = 1 := rfl
      show ((brE _ e).toks ++ (Op.ne.tok :: (brE _ (.num 0)).toks)).length ≤ _
      rw [List.length_append, List.length_cons]
      omega

/-- two parts joined -/
theorem Gp.pair {p q : Part} {e f : Ex} (o : Op) (hp : Gp p e) (hq : Gp q f) (hd : o = .div ∨ o = .mod → ∃ k, f = .num k ∧ 1 ≤ k) :
    ∃ g, Gp (pairF (o.lr : Int) o.tok p q) g ∧ g.D ≤ e.D + f.D + 5 ∧ g.toks.length ≤ e.toks.length + f.toks.length + 9 ∧ ((o = .div ∨ o = .mod) → g.D ≤ e.D + 3 ∧ g.toks.length ≤ e.toks.length + 4) := by
  unfold pairF
  by_cases h2 : (o.lr : Int) ≤ 2
  · rw [if_pos h2]
    obtain ⟨e', ge, te, de, le, re⟩ := hp.truth
    obtain ⟨f', gf, tf, df, lf, rf⟩ := hq.truth
    refine ⟨_, ge.pairG o gf (fun _ => ⟨te, tf⟩) (fun q => ?_), ?_, ?_, fun q => ?_⟩
    · rcases q with rfl | rfl <;> exact absurd h2 (by decide)
    · have e1 : (brE (decide ((truthF p).r < (o.lr : Int))) e').D ≤ e.D + 3 := by
        rcases re with rfl | re
        · have := brE_D (decide ((truthF p).r < (o.lr : Int))) e'; omega
        · have : ¬ (truthF p).r < (o.lr : Int) := by rw [ge.r, re]; omega
          rw [decide_eq_false this]; exact de
      have e2 : (brE (decide ((truthF q).r ≤ (o.lr : Int))) f').D ≤ f.D + 3 := by
        rcases rf with rfl | rf
        · have := brE_D (decide ((truthF q).r ≤ (o.lr : Int))) f'; omega
        · have : ¬ (truthF q).r ≤ (o.lr : Int) := by rw [gf.r, rf]; omega
          rw [decide_eq_false this]; exact df
      show max (brE _ e').D (brE _ f').D + 2 ≤ _
      omega
    · have e1 : (brE (decide ((truthF p).r < (o.lr : Int))) e').toks.length ≤ e.toks.length + 4 := by
        rcases re with rfl | re
        · have := brE_len (decide ((truthF p).r < (o.lr : Int))) e'; omega
        · have : ¬ (truthF p).r < (o.lr : Int) := by rw [ge.r, re]; omega
          rw [decide_eq_false this]; exact le
      have e2 : (brE (decide ((truthF q).r ≤ (o.lr : Int))) f').toks.length ≤ f.toks.length + 4 := by
        rcases rf with rfl | rf
        · have := brE_len (decide ((truthF q).r ≤ (o.lr : Int))) f'; omega
        · have : ¬ (truthF q).r ≤ (o.lr : Int) := by rw [gf.r, rf]; omega
          rw [decide_eq_false this]; exact lf
      show ((brE _ e').toks ++ (o.tok :: (brE _ f').toks)).length ≤ _
      rw [List.length_append, List.length_cons]
      omega
    · rcases q with rfl | rfl <;> exact absurd h2 (by decide)
  · rw [if_neg h2]
    have b1 := brE_D (decide (p.r < (o.lr : Int))) e
    have b2 := brE_D (decide (q.r ≤ (o.lr : Int))) f
    have c1 := brE_len (decide (p.r < (o.lr : Int))) e
    have c2 := brE_len (decide (q.r ≤ (o.lr : Int))) f
    refine ⟨_, hp.pairG o hq (fun q => absurd q (by omega)) hd, ?_, ?_, fun h => ?_⟩
    · show max (brE _ e).D (brE _ f).D + 2 ≤ _
      omega
    · show ((brE _ e).toks ++ (o.tok :: (brE _ f).toks)).length ≤ _
      rw [List.length_append, List.length_cons]
      omega
    · obtain ⟨k, rfl, hk⟩ := hd h
      have hr := hq.r
      have h8 : o.lr ≤ 7 := by cases o <;> decide
      have : ¬ q.r ≤ (o.lr : Int) := by rw [hr]; show ¬ ((8 : Nat) : Int) ≤ _; omega
      have f1 : (brE (decide (q.r ≤ (o.lr : Int))) (.num k)) = .num k := by rw [decide_eq_false this]; rfl
      constructor
      · show max (brE _ e).D (brE _ (.num k)).D + 2 ≤ _
        rw [f1]
        have := e.D_pos
        show max _ 1 + 2 ≤ _
        omega
      · show ((brE _ e).toks ++ (o.tok :: (brE _ (.num k)).toks)).length ≤ _
        rw [f1, List.length_append, List.length_cons]
        show _ + (1 + 1) ≤ _
        omega

theorem Gp.applyOk {p q : Part} {e f : Ex} (o : Op) (hp : Gp p e) (hq : Gp q f) (hl : e.toks.length + f.toks.length ≤ 3900) (hd : o = .div ∨ o = .mod → ∃ k, f = .num k ∧ 1 ≤ k) :
    ∀ k, k < 6 → ApplyOk o.tok ((if o.lr ≤ 2 then truthF p else p).ns.getD k 0) ((if o.lr ≤ 2 then truthF q else q).ns.getD k 0) := by
  intro k hk
  obtain ⟨n0, n1⟩ := NS_range k hk
  by_cases h2 : o.lr ≤ 2
  · rw [if_pos h2, if_pos h2]
    obtain ⟨e', ge, te, de, le, re⟩ := hp.truth
    obtain ⟨f', gf, tf, df, lf, rf⟩ := hq.truth
    rw [ge.get k hk, gf.get k hk]
    exact (apply_ok (ev_bound e' ge.wf _ n0 n1) (ev_bound f' gf.wf _ n0 n1) (by omega) (fun q => by rcases q with rfl | rfl <;> exact absurd h2 (by decide))).1
  · rw [if_neg h2, if_neg h2, hp.get k hk, hq.get k hk]
    refine (apply_ok (ev_bound e hp.wf _ n0 n1) (ev_bound f hq.wf _ n0 n1) (by omega) (fun h => ?_)).1
    have hw := hq.wf
    obtain ⟨k, rfl, hk⟩ := hd h
    exact ⟨hk, hw.2⟩
end
section
theorem gp_n : Gp ⟨8, false, [Str.ofString "n"], NS⟩ .n := ⟨trivial, rfl, fun h => (by cases h), rfl, rfl⟩
theorem gp_num {k : Int} {t : Bool} (h0 : 0 ≤ k) (h9 : k ≤ 9) (ht : t = true → k < 2) : Gp ⟨8, t, [numT k], List.replicate 6 k⟩ (.num k) :=
  ⟨⟨h0, h9⟩, rfl, fun h => by have := ht h; show k = 0 ∨ k = 1; omega, rfl, rfl⟩

def ternF (c a b : Part) : Part :=
  ⟨0, a.t && b.t, (if c.r = 0 then bracketF c else c).ws ++ [Str.ofString "?"] ++ a.ws ++ [Str.ofString ":"] ++ b.ws, (List.range 6).map fun k => if (if c.r = 0 then bracketF c else c).ns.getD k 0 = 0 then b.ns.getD k 0 else a.ns.getD k 0⟩
theorem Gp.tern {pc pa pb : Part} {c a b : Ex} (hc : Gp pc c) (ha : Gp pa a) (hb : Gp pb b) : ∃ g, Gp (ternF pc pa pb) g ∧ g.D ≤ c.D + a.D + b.D + 3 ∧ g.toks.length ≤ c.toks.length + a.toks.length + b.toks.length + 4 := by
  have g1 := hc.br (pc.r = 0)
  have b1 := brE_D (decide (pc.r = 0)) c
  have b2 := brE_len (decide (pc.r = 0)) c
  refine ⟨.tern (brE (decide (pc.r = 0)) c) a b, ⟨⟨g1.wf, ha.wf, hb.wf, ?_⟩, rfl, fun h => ?_, ?_, ?_⟩, ?_, ?_⟩
  · by_cases hz : pc.r = 0
    · rw [decide_eq_true hz]; show (8 : Nat) ≠ 0; decide
    · rw [decide_eq_false hz]; show c.rank ≠ 0; have := hc.r; omega
  · have : (pa.t && pb.t) = true := h
    rw [Bool.and_eq_true] at this
    exact ⟨ha.t this.1, hb.t this.2⟩
  · show (if pc.r = 0 then bracketF pc else pc).ws ++ [Str.ofString "?"] ++ pa.ws ++ [Str.ofString ":"] ++ pb.ws = (brE _ c).toks ++ (Str.ofString "?" :: (a.toks ++ (Str.ofString ":" :: b.toks)))
    rw [g1.ws, ha.ws, hb.ws]
    simp
  · show (List.range 6).map (fun k => if (if pc.r = 0 then bracketF pc else pc).ns.getD k 0 = 0 then pb.ns.getD k 0 else pa.ns.getD k 0) = _
    rw [← map_NS]
    refine List.map_congr_left fun k hk => ?_
    have hk6 : k < 6 := by simpa using hk
    rw [g1.get k hk6, ha.get k hk6, hb.get k hk6]
    rfl
  · show max (brE _ c).D (max a.D b.D) + 2 ≤ _
    omega
  · show ((brE _ c).toks ++ (Str.ofString "?" :: (a.toks ++ (Str.ofString ":" :: b.toks)))).length ≤ _
    simp only [List.length_append, List.length_cons]
    omega
def notF (p : Part) : Part := ⟨3, true, Str.ofString "!" :: (if p.r = 3 ∨ p.r = 8 then p else bracketF p).ws, (if p.r = 3 ∨ p.r = 8 then p else bracketF p).ns.map fun v => if v == 0 then 1 else 0⟩
theorem Gp.not {p : Part} {e : Ex} (h : Gp p e) : ∃ g, Gp (notF p) g ∧ g.D ≤ e.D + 2 ∧ g.toks.length ≤ e.toks.length + 3 := by
  have key : ∃ e', Gp (if p.r = 3 ∨ p.r = 8 then p else bracketF p) e' ∧ (e'.rank = 3 ∨ e'.rank = 8) ∧ e'.D ≤ e.D + 1 ∧ e'.toks.length ≤ e.toks.length + 2 := by
    by_cases hc : p.r = 3 ∨ p.r = 8
    · rw [if_pos hc]; exact ⟨e, h, by have := h.r; omega, by omega, by omega⟩
    · rw [if_neg hc]; exact ⟨.par e, h.bracket, .inr rfl, Nat.le_refl _, by simp [Ex.toks]⟩
  obtain ⟨e', g, hr, hD, hl⟩ := key
  refine ⟨.not e', ⟨⟨g.wf, hr⟩, rfl, fun _ => trivial, ?_, ?_⟩, ?_, ?_⟩
  · show Str.ofString "!" :: (if p.r = 3 ∨ p.r = 8 then p else bracketF p).ws = _
    rw [g.ws]; rfl
  · show (if p.r = 3 ∨ p.r = 8 then p else bracketF p).ns.map (fun v => if v == 0 then 1 else 0) = _
    rw [g.ns, List.map_map]; rfl
  · show e'.D + 1 ≤ _; omega
  · show (e'.toks).length + 1 ≤ _; omega
end
section
theorem par_len (x : Str) : (par x).length = x.length + 2 := by
  unfold par
  rw [str_len_app, str_len_app]
  have e1 : (Str.ofString "(").length = 1 := by decide +kernel
  have e2 : (Str.ofString ")").length = 1 := by decide +kernel
  omega
theorem ite_par_len (b : Bool) (x : Str) : (if b then par x else x).length ≤ x.length + 2 := by
  cases b
  · show x.length ≤ _; omega
  · show (par x).length ≤ _; rw [par_len]; omega
theorem ite_pl_len (b : Bool) (x : List Str) : (if b then Ex.pl x else x).length ≤ x.length + 2 := by
  cases b
  · show x.length ≤ _; omega
  · show (Ex.pl x).length ≤ _; simp [Ex.pl]
theorem py_len (o : Op) : o.py.length ≤ 3 := by cases o <;> decide +kernel
theorem tx_len : ∀ e : Ex, e.WF → e.tx.length ≤ 9 * e.toks.length
  | .n, _ => by show (Str.ofString "n").length ≤ 9; decide +kernel
  | .num k, h => by
    have := (num_facts k h.1 h.2).2.1
    show (numT k).length ≤ 9
    omega
  | .bin o l r, h => by
    have il := tx_len l h.1
    have ir := tx_len r h.2.1
    have hl : (Ex.bin o l r).toks.length = l.toks.length + 1 + r.toks.length := by simp [Ex.toks]; omega
    rw [hl]
    show ((if Ex.lw o l then Mine.par l.tx else l.tx) ++ Str.ofString " " ++ o.py ++ Str.ofString " " ++ (if Ex.pw (o.pr + 1) r then Mine.par r.tx else r.tx)).length ≤ _
    simp only [str_len_app]
    have e1 : (Str.ofString " ").length = 1 := by decide +kernel
    have := ite_par_len (Ex.lw o l) l.tx
    have := ite_par_len (Ex.pw (o.pr + 1) r) r.tx
    have := py_len o
    omega
  | .tern c a b, h => by
    have ic := tx_len c h.1
    have ia := tx_len a h.2.1
    have ib := tx_len b h.2.2.1
    have hl : (Ex.tern c a b).toks.length = c.toks.length + 1 + a.toks.length + 1 + b.toks.length := by simp [Ex.toks]; omega
    rw [hl]
    show ((if Ex.pw 0 a then Mine.par a.tx else a.tx) ++ Str.ofString " if " ++ c.tx ++ Str.ofString " else " ++ b.tx).length ≤ _
    simp only [str_len_app]
    have e1 : (Str.ofString " if ").length = 4 := by decide +kernel
    have e2 : (Str.ofString " else ").length = 6 := by decide +kernel
    have := ite_par_len (Ex.pw 0 a) a.tx
    omega
  | .not e, h => by
    have ie := tx_len e h.1
    show (Str.ofString "not " ++ e.tx).length ≤ 9 * (e.toks.length + 1)
    rw [str_len_app]
    have e1 : (Str.ofString "not ").length = 4 := by decide +kernel
    omega
  | .par e, h => by
    have ie := tx_len e h
    have hl : (Ex.par e).toks.length = e.toks.length + 2 := by simp [Ex.toks]
    rw [hl]
    show (Mine.par e.tx).length ≤ _
    rw [par_len]
    omega
theorem wd_len : ∀ e : Ex, e.wd.length ≤ 5 * e.toks.length
  | .n => by show 1 ≤ 5; omega
  | .num k => by show 1 ≤ 5; omega
  | .bin o l r => by
    have il := wd_len l
    have ir := wd_len r
    have hl : (Ex.bin o l r).toks.length = l.toks.length + 1 + r.toks.length := by simp [Ex.toks]; omega
    rw [hl]
    show ((if Ex.lw o l then Ex.pl l.wd else l.wd) ++ (o.py :: (if Ex.pw (o.pr + 1) r then Ex.pl r.wd else r.wd))).length ≤ _
    rw [List.length_append, List.length_cons]
    have := ite_pl_len (Ex.lw o l) l.wd
    have := ite_pl_len (Ex.pw (o.pr + 1) r) r.wd
    omega
  | .tern c a b => by
    have ic := wd_len c
    have ia := wd_len a
    have ib := wd_len b
    have hl : (Ex.tern c a b).toks.length = c.toks.length + 1 + a.toks.length + 1 + b.toks.length := by simp [Ex.toks]; omega
    rw [hl]
    show ((if Ex.pw 0 a then Ex.pl a.wd else a.wd) ++ (Str.ofString "if" :: (c.wd ++ (Str.ofString "else" :: b.wd)))).length ≤ _
    simp only [List.length_append, List.length_cons]
    have := ite_pl_len (Ex.pw 0 a) a.wd
    omega
  | .not e => by
    have ie := wd_len e
    show e.wd.length + 1 ≤ 5 * (e.toks.length + 1)
    omega
  | .par e => by
    have ie := wd_len e
    have hl : (Ex.par e).toks.length = e.toks.length + 2 := by simp [Ex.toks]
    rw [hl]
    show (Ex.pl e.wd).length ≤ _
    simp [Ex.pl]; omega
theorem subC_len (c : Nat) (z : List Nat) (hz : z.length = 3) : ∀ l : List Nat, (subC c z l).length ≤ 3 * l.length
  | [] => by simp [subC]
  | k :: r => by
    have ih := subC_len c z hz r
    unfold subC at ih ⊢
    rw [List.flatMap_cons, List.length_append, List.length_cons]
    have : (if k = c then z else [k]).length ≤ 3 := by
      split
      · omega
      · simp
    omega
theorem str_len_list (x : Str) : x.length = x.cps.toList.length := by cases x; rfl
theorem rep1_len (x : Str) : (Txt.replace x (Str.ofString "(") (Str.ofString " ( ")).length ≤ 3 * x.length := by
  have e2 : Str.ofString "(" = ⟨#[40]⟩ := by decide +kernel
  rw [str_len_list, e2, replace_subC, str_len_list x]
  exact subC_len _ _ (by decide +kernel) _
theorem rep2_len (x : Str) : (Txt.replace x (Str.ofString ")") (Str.ofString " ) ")).length ≤ 3 * x.length := by
  have e2 : Str.ofString ")" = ⟨#[41]⟩ := by decide +kernel
  rw [str_len_list, e2, replace_subC, str_len_list x]
  exact subC_len _ _ (by decide +kernel) _
theorem sw_len (x : Str) : (Builtin.Str.spaceWords x (x.length + 1)).length ≤ x.length + 1 := Nat.le_trans (StrLaws.len_le_wsum _) (StrLaws.sw_weight x).1
end
section
/-- a value that is a part of bounded depth and length -/
def Pt (I : Led) (v : Value) (d l : Nat) : Prop := ∃ p e, PartIs I v p ∧ Gp p e ∧ e.D ≤ d ∧ e.toks.length ≤ l
theorem Pt.mono {v : Value} {d l : Nat} : Mono (fun I => Pt I v d l) := fun I J h ⟨p, e, a, b⟩ => ⟨p, e, PartIs.mono _ _ h a, b⟩
inductive HpV (I : Led) : List Value → Nat → Nat → Prop
  | nil {a b : Nat} : HpV I [] a b
  | snoc {vs : List Value} {v : Value} {a b d l a' b' : Nat} : HpV I vs a b → Pt I v d l → d + 5 + a ≤ a' → l + 9 + b ≤ b' → HpV I (vs ++ [v]) a' b'
theorem HpV.mono {I J : Led} (h : ∀ p ∈ I, p ∈ J) {vs : List Value} {a b : Nat} (x : HpV I vs a b) : HpV J vs a b := by
  induction x with
  | nil => exact .nil
  | snoc _ p h1 h2 ih => exact .snoc ih (Pt.mono _ _ h p) h1 h2
theorem HpV.weak {I : Led} {vs : List Value} {a b a' b' : Nat} (h : HpV I vs a b) (ha : a ≤ a') (hb : b ≤ b') : HpV I vs a' b' := by
  cases h with
  | nil => exact .nil
  | snoc h p h1 h2 => exact .snoc h p (by omega) (by omega)
theorem HpV.pop {I : Led} {vs : List Value} {a b : Nat} (h : HpV I vs a b) (hne : vs ≠ []) : ∃ vs' v a' b' d l, vs = vs' ++ [v] ∧ HpV I vs' a' b' ∧ Pt I v d l ∧ d + 5 + a' ≤ a ∧ l + 9 + b' ≤ b := by
  cases h with
  | nil => exact absurd rfl hne
  | snoc h p h1 h2 => exact ⟨_, _, _, _, _, _, rfl, h, p, h1, h2⟩
theorem HpV.len {I : Led} {vs : List Value} {a b : Nat} (h : HpV I vs a b) : 5 * vs.length ≤ a := by
  induction h with
  | nil => simp
  | snoc h p h1 h2 ih => simp; omega

def opsL : List Str := [Str.ofString "||", Str.ofString "&&", Str.ofString "==", Str.ofString "!=", Str.ofString "<", Str.ofString ">", Str.ofString "<=", Str.ofString ">=", Str.ofString "+", Str.ofString "-", Str.ofString "*", Str.ofString "/", Str.ofString "%"]

structure LwC (C : Cx) (mg mb : Vm) (p1 p2 p3 p4 p5 p6 p7 p8 : Addr) : Prop where
  G : Gl mg mb p1 p2 p3 p4 p5 p6 p7 p8
  R : Rt C.hr mg mb
  pair : DefAt C.hr 9 "_law_pair" p4 .none
  app : DefAt C.hr 7 "_law_apply" p2 .none
  br : DefAt C.hr 8 "_law_bracketed" p3 .none
  F : Fe C (scopeOf (stmtAt 12))
  hh : C.A.handled = none
  hX : C.X = []
  own : C.own = C.vars
  dep : C.A.depth + 3 < recursionLimit
  un : C.A.units + 24 + 100 < cLine

theorem LwC.u64 {C : Cx} {mg mb : Vm} {p1 p2 p3 p4 p5 p6 p7 p8 : Addr} (X : LwC C mg mb p1 p2 p3 p4 p5 p6 p7 p8) : C.A.units + 64 < cLine := by have := X.un; omega
theorem LwC.dep1 {C : Cx} {mg mb : Vm} {p1 p2 p3 p4 p5 p6 p7 p8 : Addr} (X : LwC C mg mb p1 p2 p3 p4 p5 p6 p7 p8) : C.A.depth + 1 < recursionLimit := by have := X.dep; omega
theorem LwC.un1 {C : Cx} {mg mb : Vm} {p1 p2 p3 p4 p5 p6 p7 p8 : Addr} (X : LwC C mg mb p1 p2 p3 p4 p5 p6 p7 p8) : C.A.units + 8 * 1 + 100 < cLine := by have := X.un; omega
structure LwM (ah : Addr) (m : Vm) (I : Led) : Prop where
  ops : ∃ ao ov k, m (Str.ofString "ops") = some (.ref ao) ∧ (ao, lstO ov k) ∈ I ∧ Strs ov opsL
  ns : ∃ an nv k, m (Str.ofString "ns") = some (.ref an) ∧ (an, lstO nv k) ∈ I ∧ Ints nv NS
  heap : m (Str.ofString "heap") = some (.ref ah)
theorem LwM.mono {ah : Addr} {m : Vm} {I J : Led} (h : ∀ p ∈ I, p ∈ J) (x : LwM ah m I) : LwM ah m J :=
  ⟨let ⟨a, b, c, d, e, f⟩ := x.ops; ⟨a, b, c, d, h _ e, f⟩, let ⟨a, b, c, d, e, f⟩ := x.ns; ⟨a, b, c, d, h _ e, f⟩, x.heap⟩
theorem LwM.put {ah : Addr} {m : Vm} {I : Led} {s : Str} {v : Value} (x : LwM ah m I) (h1 : (Str.ofString "ops" == s) = false) (h2 : (Str.ofString "ns" == s) = false) (h3 : (Str.ofString "heap" == s) = false) : LwM ah (fun y => if y = s then some v else m y) I :=
  ⟨let ⟨a, b, c, d, e, f⟩ := x.ops; ⟨a, b, c, ite_ne' h1 d, e, f⟩, let ⟨a, b, c, d, e, f⟩ := x.ns; ⟨a, b, c, ite_ne' h2 d, e, f⟩, ite_ne' h3 x.heap⟩

def lwFor : List Stmt := forBody (nth (bodyOf (stmtAt 12)) 3)

/-- what a turn knows of its number -/
structure LwP (m : Vm) (x : Int) : Prop where
  pick : ∃ t, m (Str.ofString "pick") = some (.int (x.fmod 24) t)
  rest : ∃ t, m (Str.ofString "rest") = some (.int (x.fdiv 24) t)
def LwV (m : Vm) (I : Led) : Prop := ∃ al v0 v1 v2 k, m (Str.ofString "leaves") = some (.ref al) ∧ (al, lstO [v0, v1, v2] k) ∈ I ∧ Pt I v0 1 1 ∧ Pt I v1 1 1 ∧ Pt I v2 1 1
theorem LwV.mono {m : Vm} : Mono (LwV m) := fun I J h ⟨al, v0, v1, v2, k, e, a, b, c, d⟩ => ⟨al, v0, v1, v2, k, e, h _ a, Pt.mono _ _ h b, Pt.mono _ _ h c, Pt.mono _ _ h d⟩

theorem noPy (x : Int) : Builtin.divisionGoesByPylong x 24 = false := by
  unfold Builtin.divisionGoesByPylong
  have key : ¬ ((if ((24 : Int) == 0) = true then 0 else (24 : Int).natAbs.log2 / 30 + 1) > 300) := by decide
  simp only [decide_eq_false key, Bool.false_and]

set_option maxHeartbeats 4000000 in
theorem lw_head {C : Cx} {mg mb : Vm} {p1 p2 p3 p4 p5 p6 p7 p8 : Addr} (X : LwC C mg mb p1 p2 p3 p4 p5 p6 p7 p8) {ah : Addr} {m : Vm} {I Mu : Led} {x : Int} {tx : Tok} (M : LwM ah m I) (hx : m (Str.ofString "x") = some (.int x tx)) {KF : Flow → Vm → Led → Led → Prop}
    (K : ∀ m' I', (∀ p ∈ I, p ∈ I') → LwM ah m' I' → LwP m' x → LwV m' I' → W C m' I' Mu (execs (List.drop 2 lwFor) C.env) KF) : W C m I Mu (execs lwFor C.env) KF := by
  have hsl : sizeLine = 16777216 := rfl
  have hcl : cLine = 9900 := rfl
  have hu64 := X.u64
  have G := X.G
  have R := X.R
  have F := X.F
  have hh := X.hh
  have hown := X.own
  obtain ⟨ao, ov, ko, o1, o2, o3⟩ := M.ops
  obtain ⟨an, nv, kn, n1, n2, n3⟩ := M.ns
  have hp := M.heap
  refine W_execs_cons ?_
  refine W_mid (fun m' I' Mu' => Mu' = Mu ∧ (∀ p ∈ I, p ∈ I') ∧ LwM ah m' I' ∧ LwP m' x ∧ m' (Str.ofString "ns") = some (.ref an)) ?_ ?_
  · refine W.gen fun K' hK => ?_
    refine W_AssignSwap (names := ["pick", "rest"]) rfl (swapped_of F (by with_unfolding_all rfl)) ?_
    repeat walk_at "w1"
    refine W_div (by decide) (noPy x) ?_
    intro tq
    repeat walk_at "w1"
    refine W_unpackItems hh (by walk_at "has") rfl ?_
    refine W_inOrder_cons ?_
    refine W_bindName ?_
    repeat walk_at "w1"
    refine W_inOrder_cons ?_
    refine W_bindName ?_
    repeat walk_at "w1"
    refine W_inOrder_nil ?_
    exact hK _ _ _ _ ⟨rfl, rfl, fun p hp => by walk_at "mem", ((M.mono fun p hp => by walk_at "mem").put (by decide +kernel) (by decide +kernel) (by decide +kernel)).put (by decide +kernel) (by decide +kernel) (by decide +kernel), ⟨⟨_, by walk_at "var"⟩, ⟨_, by walk_at "var"⟩⟩, by walk_at "var"⟩
  rintro m1 I1 Mu1 ⟨rfl, hs1, M1, P1, nn1⟩
  obtain ⟨tr, hr⟩ := P1.rest
  have n2' := hs1 _ n2
  refine W_cut (fun m' I' Mu' => Mu' = Mu1 ∧ (∀ p ∈ I1, p ∈ I') ∧ LwM ah m' I' ∧ LwP m' x ∧ LwV m' I') ?_ ?_
  · refine W.gen fun K' hK => ?_
    repeat walk_at "w1"
    refine W_ListComp F hh X.hX (cap := []) (by decide +kernel) (fun _ => rfl) ?_
    repeat walk_at "w1"
    refine W_iter_list (by walk_at "has") ?_
    intro it oi hoi
    refine ⟨it, _, _, listSrc (by walk_at "mem"), fun i ys J => ys.length = i ∧ ∀ v ∈ ys, Pt J v 1 1, rfl, rfl, hoi, by show 2 ≤ _; omega, ⟨rfl, fun v hv => (nomatch hv)⟩, fun ys I J h hh => ⟨hh.1, fun v hv => Pt.mono _ _ h (hh.2 v hv)⟩, ?_, ?_⟩
    · intro C2 f1 f2 f3 f4 F2 i v ys I' Mu' hi hsub hP hInv
      have hi2 : i < 2 := hi
      have hv : ∃ z tz, v = .int z tz := by
        match i, hi2, hP with
        | 0, _, hP => cases hP; exact ⟨_, _, rfl⟩
        | 1, _, hP => cases hP; exact ⟨_, _, rfl⟩
      obtain ⟨z, tz, rfl⟩ := hv
      rw [← f3] at R
      have z0 : 0 ≤ z.fmod 7 := by rw [Int.fmod_eq_emod_of_nonneg _ (by decide)]; omega
      have z7 : z.fmod 7 < 7 := by rw [Int.fmod_eq_emod_of_nonneg _ (by decide)]; omega
      refine W_tests_nil ?_
      rw [if_pos rfl]
      refine W.gen fun K2 hK2 => ?_
      repeat walk_at "w1"
      refine W_strOf z0 (by omega) ?_
      intro ts
      repeat walk_at "w1"
      refine W_mulLZ (j := 6) rfl (by walk_at "has") (by simp) (by decide) (by simp) ?_
      intro c
      repeat walk_at "w1"
      refine hK2 _ _ _ _ ⟨rfl, rfl, fun p hp => by have := hsub p hp; walk_at "mem", by simp [hInv.1], fun v hv => ?_⟩
      rcases List.mem_append.mp hv with hv | hv
      · exact Pt.mono _ _ (fun p hp => by walk_at "mem") (hInv.2 v hv)
      · rw [List.mem_singleton.mp hv]
        refine ⟨⟨8, decide (z.fmod 7 < 2), [numT (z.fmod 7)], List.replicate 6 (z.fmod 7)⟩, .num (z.fmod 7), ⟨_, _, _, _, _, _, _, _, _, rfl, List.mem_cons_self, by walk_at "mem", ?_, by walk_at "mem", rfl⟩, gp_num z0 (by omega) (fun h => of_decide_eq_true h), Nat.le_refl _, Nat.le_refl _⟩
        exact Strs.cons' Strs.nil'
    intro acc ys n' J hInv
    obtain ⟨hl2, hys⟩ := hInv
    have hl2' : ys.length = 2 := hl2
    match ys, hl2' with
    | [v1, v2], _ =>
    repeat walk_at "w1"
    refine hK _ _ _ _ ⟨rfl, rfl, fun p hp => by walk_at "mem", (M1.mono fun p hp => by walk_at "mem").put (by decide +kernel) (by decide +kernel) (by decide +kernel), ⟨let ⟨t, e⟩ := P1.pick; ⟨t, by walk_at "var"⟩, ⟨tr, by walk_at "var"⟩⟩, ?_⟩
    refine ⟨_, _, v1, v2, _, by walk_at "var", List.mem_cons_self, ?_, Pt.mono _ _ (fun p hp => by walk_at "mem") (hys v1 (by simp)), Pt.mono _ _ (fun p hp => by walk_at "mem") (hys v2 (by simp))⟩
    exact ⟨⟨8, false, [Str.ofString "n"], NS⟩, .n, ⟨_, _, _, _, _, _, _, _, _, rfl, by walk_at "mem", by walk_at "mem", Strs.cons' Strs.nil', by walk_at "mem", n3⟩, gp_n, Nat.le_refl _, Nat.le_refl _⟩
  · rintro m2 I2 Mu2 ⟨rfl, hs2, M2, P2, V2⟩
    exact K _ _ (fun p hp => hs2 p (hs1 p hp)) M2 P2 V2
end
section
/-- where a turn may end -/
def LwE (it : Addr) (o' : Obj) (ah : Addr) (I : Led) (A B : Nat) (KF : Flow → Vm → Led → Led → Prop) : Prop :=
  ∀ f, f = Flow.next ∨ f = .cont → ∀ m' I' vs' n', (∀ p ∈ I, p ∈ I') → LwM ah m' I' → HpV I' vs' A B → vs' ≠ [] → KF f m' I' [(it, o'), (ah, lstO vs' n')]
theorem LwE.sub {it : Addr} {o' : Obj} {ah : Addr} {I J : Led} {A B : Nat} {KF : Flow → Vm → Led → Led → Prop} (x : LwE it o' ah I A B KF) (h : ∀ p ∈ I, p ∈ J) : LwE it o' ah J A B KF :=
  fun f hf m' I' vs' n' hs M H hn => x f hf m' I' vs' n' (fun p hp => hs p (h p hp)) M H hn

theorem heap_nil {vs : List Value} {n : Nat} : (!vs.isEmpty) = true ↔ vs ≠ [] := by cases vs <;> simp

set_option maxHeartbeats 4000000 in
theorem lw_small {C : Cx} {mg mb : Vm} {p1 p2 p3 p4 p5 p6 p7 p8 : Addr} (X : LwC C mg mb p1 p2 p3 p4 p5 p6 p7 p8) {ah it : Addr} {o' : Obj} {m : Vm} {I : Led} {x : Int} {vs : List Value} {n A B : Nat} (M : LwM ah m I) (P : LwP m x) (V : LwV m I) (H : HpV I vs A B) (hA : A ≤ 1000) {KF : Flow → Vm → Led → Led → Prop}
    (K : LwE it o' ah I (A + 9) (B + 14) KF) (next : 7 ≤ x.fmod 24 → W C m I [(it, o'), (ah, lstO vs n)] (execs (List.drop 3 lwFor) C.env) KF) : W C m I [(it, o'), (ah, lstO vs n)] (execs (List.drop 2 lwFor) C.env) KF := by
  have hsl : sizeLine = 16777216 := rfl
  have hcl : cLine = 9900 := rfl
  have hu64 := X.u64
  have G := X.G
  have R := X.R
  have F := X.F
  have hh := X.hh
  have hown := X.own
  have hp := M.heap
  obtain ⟨tp, vp⟩ := P.pick
  obtain ⟨tr, vr⟩ := P.rest
  obtain ⟨al, v0, v1, v2, kl, vl, ml, s0, s1, s2⟩ := V
  have hlen := H.len
  refine W_execs_cons ?_
  repeat walk_at "w1"
  by_cases h7 : x.fmod 24 < 7
  · rw [if_pos (decide_eq_true h7)]
    repeat walk_at "w1"
    refine Meth_list PySem.F.slot_list_append PySem.F.type_list_append (by walk_at "has") ?_
    refine W_with1 rfl rfl ?_
    repeat walk_at "w1"
    have fin : ∀ v, Pt I v 1 1 → KF .cont m I [(it, o'), (ah, lstO (vs ++ [v]) (n + 1))] := fun v hv => K .cont (.inr rfl) m I _ _ (fun p hp => hp) M (.snoc H hv (by omega) (by omega)) (by simp)
    generalize hz : (x.fdiv 24).fmod 3 = z
    have z0 : 0 ≤ z := by rw [← hz, Int.fmod_eq_emod_of_nonneg _ (by decide)]; omega
    by_cases hz2 : z < 2
    · rw [if_pos (decide_eq_true hz2)]
      repeat walk_at "w1"
      rw [hz]
      have : z = 0 ∨ z = 1 := by omega
      rcases this with rfl | rfl
      · refine W_itemL (i := 0) rfl (by walk_at "has") (by decide) (by decide) (v := v0) rfl ?_
        repeat walk_at "w1"
        refine W_append (.tail .head) (by omega) ⟨rfl, ?_⟩
        repeat walk_at "w1"
        exact fin v0 s0
      · refine W_itemL (i := 1) rfl (by walk_at "has") (by decide) (by decide) (v := v1) rfl ?_
        repeat walk_at "w1"
        refine W_append (.tail .head) (by omega) ⟨rfl, ?_⟩
        repeat walk_at "w1"
        exact fin v1 s1
    · rw [if_neg (by simpa using hz2)]
      repeat walk_at "w1"
      refine W_append (.tail .head) (by omega) ⟨rfl, ?_⟩
      repeat walk_at "w1"
      exact fin v0 s0
  · rw [if_neg (by simpa using h7)]
    refine W_execs_nil ?_
    exact next (by omega)

/-- what stands behind the choice of the operands -/
structure LwO (m : Vm) (I : Led) (vl vf : Value) (d l d2 l2 : Nat) : Prop where
  last : m (Str.ofString "last") = some vl
  first : m (Str.ofString "first") = some vf
  pl : Pt I vl d l
  pf : Pt I vf d2 l2

set_option maxHeartbeats 4000000 in
theorem lw_pick {C : Cx} {mg mb : Vm} {p1 p2 p3 p4 p5 p6 p7 p8 : Addr} (X : LwC C mg mb p1 p2 p3 p4 p5 p6 p7 p8) {ah it : Addr} {o' : Obj} {m : Vm} {I : Led} {x : Int} {vs : List Value} {n A B : Nat} (M : LwM ah m I) (P : LwP m x) (V : LwV m I) (H : HpV I vs A B) (hA : A ≤ 1000) (hA6 : 6 ≤ A) (hB : 10 ≤ B) {KF : Flow → Vm → Led → Led → Prop}
    (next : ∀ m' I' vs' n' vl vf d l d2 l2 a b, (∀ p ∈ I, p ∈ I') → LwM ah m' I' → LwP m' x → LwV m' I' → LwO m' I' vl vf d l d2 l2 → HpV I' vs' a b → d + 5 + a ≤ A → l + 9 + b ≤ B →
      (x.fmod 24 < 22 → d + 5 + d2 + 5 + a ≤ A + 6 ∧ l + 9 + l2 + 9 + b ≤ B + 10) → W C m' I' [(it, o'), (ah, lstO vs' n')] (execs (List.drop 6 lwFor) C.env) KF) :
    W C m I [(it, o'), (ah, lstO vs n)] (execs (List.drop 3 lwFor) C.env) KF := by
  have hsl : sizeLine = 16777216 := rfl
  have hcl : cLine = 9900 := rfl
  have hu64 := X.u64
  have G := X.G
  have R := X.R
  have F := X.F
  have hh := X.hh
  have hown := X.own
  have hp := M.heap
  obtain ⟨tp, vp⟩ := P.pick
  obtain ⟨tr, vr⟩ := P.rest
  obtain ⟨al, v0, v1, v2, kl, vl, ml, s0, s1, s2⟩ := id V
  have hlen := H.len
  have step2 : ∀ m' I' vs' n' v d l a b, (∀ p ∈ I, p ∈ I') → LwM ah m' I' → LwP m' x → LwV m' I' → m' (Str.ofString "last") = some v → Pt I' v d l → HpV I' vs' a b → 1 ≤ d → d + 5 + a ≤ A → l + 9 + b ≤ B → W C m' I' [(it, o'), (ah, lstO vs' n')] (execs (List.drop 4 lwFor) C.env) KF := by
    intro m' I' vs' n' v d l a b hs M' P' V' hl hv H' hd1 hAa hBb
    obtain ⟨tp, vp⟩ := P'.pick
    obtain ⟨tr, vr⟩ := P'.rest
    have hp := M'.heap
    have hlen := H'.len
    obtain ⟨al, v0, v1, v2, kl, vl, ml, s0, s1, s2⟩ := id V'
    have V2 : ∀ u, LwV (fun y => if y = Str.ofString "first" then some u else m' y) I' := fun u => ⟨al, v0, v1, v2, kl, by walk_at "var", ml, s0, s1, s2⟩
    have P2 : ∀ u, LwP (fun y => if y = Str.ofString "first" then some u else m' y) x := fun u => ⟨⟨tp, by walk_at "var"⟩, ⟨tr, by walk_at "var"⟩⟩
    have M2 : ∀ u, LwM ah (fun y => if y = Str.ofString "first" then some u else m' y) I' := fun u => M'.put (by decide +kernel) (by decide +kernel) (by decide +kernel)
    have V3 : ∀ u w, LwV (fun y => if y = Str.ofString "first" then some u else if y = Str.ofString "first" then some w else m' y) I' := fun u w => ⟨al, v0, v1, v2, kl, by walk_at "var", ml, s0, s1, s2⟩
    have P3 : ∀ u w, LwP (fun y => if y = Str.ofString "first" then some u else if y = Str.ofString "first" then some w else m' y) x := fun u w => ⟨⟨tp, by walk_at "var"⟩, ⟨tr, by walk_at "var"⟩⟩
    refine W_execs_cons ?_
    refine W_Assign_Name rfl ?_
    repeat walk_at "w1"
    by_cases h22 : x.fmod 24 < 22
    · rw [if_pos (decide_eq_true h22)]
      repeat walk_at "w1"
      by_cases hne : vs' = []
      · subst hne
        rw [if_neg (by simp)]
        repeat walk_at "w1"
        rw [if_neg (by simp)]
        refine W_execs_nil ?_
        have hI2 : ∀ (q : Addr × Obj), ∀ p ∈ I', p ∈ q :: I' := fun q p hp => List.mem_cons_of_mem _ hp
        exact next _ _ [] n' v v1 d l 1 1 0 0 (fun p hp => List.mem_cons_of_mem _ (hs p hp)) ((M2 v1).mono (hI2 _)) (P2 v1) (LwV.mono _ _ (hI2 _) (V2 v1)) ⟨by walk_at "var", by walk_at "var", Pt.mono _ _ (hI2 _) hv, Pt.mono _ _ (hI2 _) s1⟩ .nil (by omega) (by omega) (fun _ => ⟨by omega, by omega⟩)
      · rw [if_pos (heap_nil (n := 0) |>.mpr hne)]
        repeat walk_at "w1"
        rw [if_pos rfl]
        obtain ⟨vs2, w, a2, b2, d2, l2, rfl, H2, hw, e1, e2⟩ := H'.pop hne
        repeat walk_at "w1"
        refine Meth_list PySem.F.slot_list_pop PySem.F.type_list_pop (by walk_at "has") ?_
        refine W_with0 ?_
        simp only [List.length_append, List.length_singleton] at hlen
        refine W_pop (.tail .head) (by omega) ?_
        walk_at "w1"
        refine W_execs_nil ?_
        have hI2 : ∀ (q : Addr × Obj), ∀ p ∈ I', p ∈ q :: I' := fun q p hp => List.mem_cons_of_mem _ hp
        exact next _ _ vs2 _ v w d l d2 l2 a2 b2 (fun p hp => List.mem_cons_of_mem _ (hs p hp)) (((M2 v1).put (by decide +kernel) (by decide +kernel) (by decide +kernel)).mono (hI2 _)) (P3 w v1) (LwV.mono _ _ (hI2 _) (V3 w v1)) ⟨by walk_at "var", by walk_at "var", Pt.mono _ _ (hI2 _) hv, Pt.mono _ _ (hI2 _) hw⟩ (H2.mono (hI2 _)) (by omega) (by omega) (fun _ => ⟨by omega, by omega⟩)
    · rw [if_neg (by simpa using h22)]
      rw [if_neg (by simp)]
      refine W_execs_nil ?_
      exact next _ _ vs' n' v v1 d l 1 1 a b hs (M2 v1) (P2 v1) (V2 v1) ⟨by walk_at "var", by walk_at "var", hv, s1⟩ H' (by omega) (by omega) (fun q => absurd q h22)
  refine W_execs_cons ?_
  repeat walk_at "w1"
  have V2 : ∀ u, LwV (fun y => if y = Str.ofString "last" then some u else m y) I := fun u => ⟨al, v0, v1, v2, kl, by walk_at "var", ml, s0, s1, s2⟩
  have P2 : ∀ u, LwP (fun y => if y = Str.ofString "last" then some u else m y) x := fun u => ⟨⟨tp, by walk_at "var"⟩, ⟨tr, by walk_at "var"⟩⟩
  have M2 : ∀ u, LwM ah (fun y => if y = Str.ofString "last" then some u else m y) I := fun u => M.put (by decide +kernel) (by decide +kernel) (by decide +kernel)
  have hI2 : ∀ (q : Addr × Obj), ∀ p ∈ I, p ∈ q :: I := fun q p hp => List.mem_cons_of_mem _ hp
  by_cases hne : vs = []
  · subst hne
    rw [if_neg (by simp)]
    iterate 5 walk_at "w1"
    exact step2 _ _ [] _ v0 1 1 0 0 (hI2 _) ((M2 v0).mono (hI2 _)) (P2 v0) (LwV.mono _ _ (hI2 _) (V2 v0)) (by walk_at "var") (Pt.mono _ _ (hI2 _) s0) .nil (by omega) (by omega) (by omega)
  · rw [if_pos (heap_nil (n := 0) |>.mpr hne)]
    obtain ⟨vs2, w, a2, b2, d2, l2, rfl, H2, hw, e1, e2⟩ := H.pop hne
    repeat walk_at "w1"
    refine Meth_list PySem.F.slot_list_pop PySem.F.type_list_pop (by walk_at "has") ?_
    refine W_with0 ?_
    simp only [List.length_append, List.length_singleton] at hlen
    refine W_pop (.tail .head) (by omega) ?_
    walk_at "w1"
    exact step2 _ _ vs2 _ w d2 l2 a2 b2 (hI2 _) ((M2 w).mono (hI2 _)) (P2 w) (LwV.mono _ _ (hI2 _) (V2 w)) (by walk_at "var") (Pt.mono _ _ (hI2 _) hw) (H2.mono (hI2 _)) (by obtain ⟨_, e, _, _, h, _⟩ := hw; have := e.D_pos; omega) (by omega) (by omega)
end
section
def opList : List Op := [.or, .and, .eq, .ne, .lt, .gt, .le, .ge, .add, .sub, .mul, .div, .mod]
theorem opsL_eq : opsL = opList.map Op.tok := by decide +kernel
theorem Op.rankIs (o : Op) : RankIs o.tok o.lr := by cases o <;> (unfold RankIs; decide +kernel)
theorem opList_safe : ∀ i, i < 11 → ∃ o, opList[i]? = some o ∧ ¬ (o = .div ∨ o = .mod) := by
  intro i hi
  match i, hi with
  | 0, _ => exact ⟨_, rfl, by rintro (h | h) <;> cases h⟩
  | 1, _ => exact ⟨_, rfl, by rintro (h | h) <;> cases h⟩
  | 2, _ => exact ⟨_, rfl, by rintro (h | h) <;> cases h⟩
  | 3, _ => exact ⟨_, rfl, by rintro (h | h) <;> cases h⟩
  | 4, _ => exact ⟨_, rfl, by rintro (h | h) <;> cases h⟩
  | 5, _ => exact ⟨_, rfl, by rintro (h | h) <;> cases h⟩
  | 6, _ => exact ⟨_, rfl, by rintro (h | h) <;> cases h⟩
  | 7, _ => exact ⟨_, rfl, by rintro (h | h) <;> cases h⟩
  | 8, _ => exact ⟨_, rfl, by rintro (h | h) <;> cases h⟩
  | 9, _ => exact ⟨_, rfl, by rintro (h | h) <;> cases h⟩
  | 10, _ => exact ⟨_, rfl, by rintro (h | h) <;> cases h⟩

set_option maxHeartbeats 4000000 in
theorem lw_pairs {C : Cx} {mg mb : Vm} {p1 p2 p3 p4 p5 p6 p7 p8 : Addr} (X : LwC C mg mb p1 p2 p3 p4 p5 p6 p7 p8) {ah it : Addr} {o' : Obj} {m : Vm} {I : Led} {x : Int} {vs : List Value} {n : Nat} (M : LwM ah m I) (P : LwP m x) {vf vl : Value} {p q : Part} {e f : Ex} {o : Op}
    (hf : m (Str.ofString "first") = some vf) (hl : m (Str.ofString "last") = some vl) (pf : PartIs I vf p) (pl : PartIs I vl q) (gf : Gp p e) (gl : Gp q f) (h7 : 7 ≤ x.fmod 24) (h20 : x.fmod 24 < 20) (ho : opList[(x.fmod 24 - 7).toNat]? = some o)
    (hd : o = .div ∨ o = .mod → ∃ k, f = .num k ∧ 1 ≤ k) (hlen : e.toks.length + f.toks.length ≤ 3900) (hvs : vs.length ≤ 1000) {KF : Flow → Vm → Led → Led → Prop}
    (K : ∀ I' v, (∀ p ∈ I, p ∈ I') → PartIs I' v (pairF (o.lr : Int) o.tok p q) → KF .next m I' [(it, o'), (ah, lstO (vs ++ [v]) (n + 1))]) : W C m I [(it, o'), (ah, lstO vs n)] (execs (List.drop 7 lwFor) C.env) KF := by
  have hsl : sizeLine = 16777216 := rfl
  have hcl : cLine = 9900 := rfl
  have hu64 := X.u64
  have G := X.G
  have R := X.R
  have F := X.F
  have hh := X.hh
  have hown := X.own
  have hp := M.heap
  obtain ⟨tp, vp⟩ := P.pick
  obtain ⟨ao, ov, ko, o1, o2, o3⟩ := M.ops
  refine W_execs_cons ?_
  repeat walk_at "w1"
  rw [if_pos (decide_eq_true h20)]
  repeat walk_at "w1"
  refine Meth_list PySem.F.slot_list_append PySem.F.type_list_append (by walk_at "has") ?_
  refine W_with1 rfl rfl ?_
  repeat walk_at "w1"
  refine W_withDef' X.pair rfl ?_
  repeat walk_at "w1"
  have hop : opsL[(x.fmod 24 - 7).toNat]? = some o.tok := by rw [opsL_eq, List.getElem?_map, ho]; rfl
  obtain ⟨to, hov⟩ := o3.get hop
  refine W_itemL (i := x.fmod 24 - 7) rfl (by walk_at "has") (by omega) (by omega) hov ?_
  repeat walk_at "w1"
  have g1 := gf.len
  have g2 := gl.len
  have w1 := gf.ws
  have w2 := gl.ws
  refine W_call (pair_spec3 G X.pair X.app X.br R o.rankIs _ _ _ _ p q pf pl g1 g2 (by rw [w1, w2]; omega) (gf.applyOk o gl hlen hd)) hh X.dep X.un ?_
  intro v J hv
  repeat walk_at "w1"
  refine W_append (.tail .head) (by omega) ⟨rfl, ?_⟩
  repeat walk_at "w1"
  exact K _ v (fun p hp => by walk_at "mem") hv
end
section
set_option maxHeartbeats 4000000 in
theorem lw_op20 {C : Cx} {mg mb : Vm} {p1 p2 p3 p4 p5 p6 p7 p8 : Addr} (X : LwC C mg mb p1 p2 p3 p4 p5 p6 p7 p8) {ah it : Addr} {o' : Obj} {m : Vm} {I : Led} {x : Int} {vs : List Value} {n A B a b d l d2 l2 : Nat} (M : LwM ah m I) (P : LwP m x) {vf vl : Value} (O : LwO m I vl vf d l d2 l2) (H : HpV I vs a b) (h7 : 7 ≤ x.fmod 24) (h20 : x.fmod 24 < 20) (hA : A ≤ 1000) (hB : B ≤ 1000)
    (b3 : d + 5 + d2 + 5 + a ≤ A + 6) (b4 : l + 9 + l2 + 9 + b ≤ B + 10) {KF : Flow → Vm → Led → Led → Prop}
    (K : LwE it o' ah I (A + 9) (B + 14) KF) : W C m I [(it, o'), (ah, lstO vs n)] (execs (List.drop 6 lwFor) C.env) KF := by
  have hsl : sizeLine = 16777216 := rfl
  have hcl : cLine = 9900 := rfl
  have hu64 := X.u64
  have G := X.G
  have R := X.R
  have F := X.F
  have hh := X.hh
  have hown := X.own
  have hp := M.heap
  obtain ⟨tp, vp⟩ := P.pick
  obtain ⟨tr, vr⟩ := P.rest
  obtain ⟨hlast, hfirst, ⟨q, f, plast, gl, fd, fl⟩, ⟨p, e, pfirst, gf, ed, el⟩⟩ := id O
  have hlen := H.len
  refine W_execs_cons ?_
  repeat walk_at "w1"
  by_cases h18 : x.fmod 24 ∈ [18, 19]
  · rw [if_pos (decide_eq_true h18)]
    repeat walk_at "w1"
    refine Meth_list PySem.F.slot_list_append PySem.F.type_list_append (by walk_at "has") ?_
    refine W_with1 rfl rfl ?_
    repeat walk_at "w1"
    refine W_append (.tail .head) (by omega) ⟨rfl, ?_⟩
    refine W_execs_cons ?_
    refine W_AssignTuple ?_ rfl (swapped_of F (by with_unfolding_all rfl))
    generalize hz : (x.fdiv 24).fmod 9 = z
    have z0 : 0 ≤ z := by rw [← hz, Int.fmod_eq_emod_of_nonneg _ (by decide)]; omega
    have z9 : z < 9 := by rw [← hz, Int.fmod_eq_emod_of_nonneg _ (by decide)]; omega
    repeat walk_at "w1"
    rw [hz]
    refine W_strOf (by omega) (by omega) ?_
    intro ts
    repeat walk_at "w1"
    rw [hz]
    refine W_mulLZ (j := 6) rfl (by walk_at "has") (by simp) (by decide) (by simp) ?_
    intro c
    walk_at "w1"
    walk_at "w1"
    walk_at "w1"
    walk_at "w1"
    refine W_assignTuple hh (by walk_at "has") rfl rfl ?_
    refine W_inOrder_cons ?_
    refine W_assignName ?_
    walk_at "w1"
    refine W_inOrder_cons ?_
    refine W_assignName ?_
    walk_at "w1"
    refine W_inOrder_nil ?_
    refine W_execs_nil ?_
    have hop : ∃ o, opList[(x.fmod 24 - 7).toNat]? = some o ∧ (o = .div ∨ o = .mod) := by
      have : x.fmod 24 = 18 ∨ x.fmod 24 = 19 := by simpa using h18
      rcases this with e | e
      · exact ⟨.div, by rw [e]; rfl, .inl rfl⟩
      · exact ⟨.mod, by rw [e]; rfl, .inr rfl⟩
    obtain ⟨o, ho, hdm⟩ := hop
    have gk : Gp ⟨8, false, [numT (1 + z)], List.replicate 6 (1 + z)⟩ (.num (1 + z)) := gp_num (by omega) (by omega) (fun h => by cases h)
    have hdk : o = .div ∨ o = .mod → ∃ k, Ex.num (1 + z) = .num k ∧ 1 ≤ k := fun _ => ⟨_, rfl, by omega⟩
    refine lw_pairs X (x := x) (p := q) (e := f) (q := ⟨8, false, [numT (1 + z)], List.replicate 6 (1 + z)⟩) (f := .num (1 + z)) (o := o) (((M.put (by decide +kernel) (by decide +kernel) (by decide +kernel)).put (by decide +kernel) (by decide +kernel) (by decide +kernel)).mono fun p hp => by walk_at "mem") ⟨⟨tp, by walk_at "var"⟩, ⟨tr, by walk_at "var"⟩⟩ (by walk_at "var") (by walk_at "var")
      (PartIs.mono _ _ (fun p hp => by walk_at "mem") plast) ⟨_, _, _, _, _, _, _, _, _, rfl, by walk_at "mem", by walk_at "mem", Strs.cons' Strs.nil', by walk_at "mem", rfl⟩ gl gk h7 h20 ho hdk ?_ ?_ ?_
    · show _ + 1 ≤ _; omega
    · rw [List.length_append, List.length_singleton]; omega
    · intro I' v hs hv
      obtain ⟨g, gg, gD, gL, gDM⟩ := gl.pair o gk hdk
      obtain ⟨g1, g2⟩ := gDM hdm
      have hs' : ∀ p ∈ I, p ∈ I' := fun p hp => hs p (by walk_at "mem")
      refine K .next (.inl rfl) _ I' _ _ hs' ((((M.put (by decide +kernel) (by decide +kernel) (by decide +kernel)).put (by decide +kernel) (by decide +kernel) (by decide +kernel)).mono hs')) (.snoc (.snoc (a' := a + d2 + 5) (b' := b + l2 + 9) (H.mono hs') (Pt.mono _ _ hs' O.pf) (by omega) (by omega)) (d := d + 3) (l := l + 4) ⟨_, g, hv, gg, by omega, by omega⟩ (by omega) (by omega)) (by simp)
  · rw [if_neg (by simpa using h18)]
    refine W_execs_nil ?_
    have h18' : x.fmod 24 < 18 := by
      have : x.fmod 24 ≠ 18 ∧ x.fmod 24 ≠ 19 := by simpa using h18
      omega
    have hop : ∃ o, opList[(x.fmod 24 - 7).toNat]? = some o ∧ ¬ (o = .div ∨ o = .mod) := by
      have : (x.fmod 24 - 7).toNat < 11 := by omega
      exact opList_safe _ this
    obtain ⟨o, ho, hdm⟩ := hop
    have hdk : o = .div ∨ o = .mod → ∃ k, f = .num k ∧ 1 ≤ k := fun h => absurd h hdm
    refine lw_pairs X (x := x) (p := p) (e := e) (q := q) (f := f) (o := o) (M.mono fun p hp => by walk_at "mem") ⟨⟨tp, vp⟩, ⟨tr, vr⟩⟩ hfirst hlast (PartIs.mono _ _ (fun p hp => by walk_at "mem") pfirst) (PartIs.mono _ _ (fun p hp => by walk_at "mem") plast) gf gl h7 h20 ho hdk (by omega) (by omega) ?_
    intro I' v hs hv
    obtain ⟨g, gg, gD, gL, _⟩ := gf.pair o gl hdk
    have hs' : ∀ p ∈ I, p ∈ I' := fun p hp => hs p (by walk_at "mem")
    exact K .next (.inl rfl) _ I' _ _ hs' (M.mono hs') (.snoc (H.mono hs') (d := d + d2 + 5) (l := l + l2 + 9) ⟨_, g, hv, gg, by omega, by omega⟩ (by omega) (by omega)) (by simp)
end
section
/-- the body of the conditional's branch -/
def lwTern : List Stmt := match nth lwFor 7 with
  | .If _ _ [.If _ b _ _] _ => b
  | _ => []

theorem PartIs.mk' {I : Led} {a lw lv : Addr} {tk : Tok} {r : Int} {t : Bool} {vw vv : List Value} {n1 n2 n3 : Nat} {ws : List Str} {ns : List Int} {p : Part} (h1 : (a, tupO [.int r tk, .bool t, .ref lw, .ref lv] n1) ∈ I) (h2 : (lw, lstO vw n2) ∈ I) (h3 : Strs vw ws) (h4 : (lv, lstO vv n3) ∈ I) (h5 : Ints vv ns)
    (e1 : r = p.r) (e2 : t = p.t) (e3 : ws = p.ws) (e4 : ns = p.ns) : PartIs I (.ref a) p := by
  subst e1 e2 e3 e4
  exact ⟨a, tk, lw, lv, vw, vv, n1, n2, n3, rfl, h1, h2, h3, h4, h5⟩

set_option maxHeartbeats 4000000 in
theorem lw_ternEnd {C : Cx} {mg mb : Vm} {p1 p2 p3 p4 p5 p6 p7 p8 : Addr} (X : LwC C mg mb p1 p2 p3 p4 p5 p6 p7 p8) {ah it : Addr} {o' : Obj} {m : Vm} {I : Led} {vs : List Value} {n : Nat} (M : LwM ah m I) {vc vf vl : Value} {pc pa pb : Part} {c a b : Ex}
    (hc : m (Str.ofString "cond") = some vc) (hf : m (Str.ofString "first") = some vf) (hl : m (Str.ofString "last") = some vl) (Pc : PartIs I vc (if pc.r = 0 then bracketF pc else pc)) (Pa : PartIs I vf pa) (Pb : PartIs I vl pb) (gc : Gp pc c) (ga : Gp pa a) (gb : Gp pb b)
    (hlen : c.toks.length + a.toks.length + b.toks.length ≤ 3900) (hvs : vs.length ≤ 1000) {KF : Flow → Vm → Led → Led → Prop}
    (K : ∀ m' I' v, (∀ p ∈ I, p ∈ I') → LwM ah m' I' → PartIs I' v (ternF pc pa pb) → KF .next m' I' [(it, o'), (ah, lstO (vs ++ [v]) (n + 1))]) : W C m I [(it, o'), (ah, lstO vs n)] (execs (List.drop 2 lwTern) C.env) KF := by
  have hsl : sizeLine = 16777216 := rfl
  have hcl : cLine = 9900 := rfl
  have hu64 := X.u64
  have G := X.G
  have R := X.R
  have F := X.F
  have hh := X.hh
  have hown := X.own
  have hp := M.heap
  have qr : (if pc.r = 0 then bracketF pc else pc).ns = pc.ns := by split <;> rfl
  have qw : (if pc.r = 0 then bracketF pc else pc).ws.length ≤ pc.ws.length + 2 := by split <;> simp [bracketF]
  have wl1 : pc.ws.length + pa.ws.length + pb.ws.length ≤ 3900 := by rw [gc.ws, ga.ws, gb.ws]; exact hlen
  have ln1 := gc.len
  have ln2 := ga.len
  have ln3 := gb.len
  obtain ⟨ac, tkc, lwc, lvc, vwc, vvc, n1c, n2c, n3c, rfl, c1, c2, c3, c4, c5⟩ := Pc
  obtain ⟨aa, tka, lwa, lva, vwa, vva, n1a, n2a, n3a, rfl, a1, a2, a3, a4, a5⟩ := Pa
  obtain ⟨ab, tkb, lwb, lvb, vwb, vvb, n1b, n2b, n3b, rfl, b1, b2, b3, b4, b5⟩ := Pb
  rw [qr] at c5
  have s1 := c3.length
  have s2 := a3.length
  have s3 := b3.length
  refine W_execs_cons ?_
  refine W_AssignComp F hh X.hX (cap := ["last", "cond", "first"]) (by decide +kernel) (fun _ => rfl) (by decide +kernel) (swaps_comp F (by decide +kernel) (by decide +kernel) (by decide +kernel)) ?_
  repeat walk_at "w1"
  refine W_rangeZ (n := 6) rfl ?_
  intro ra rt rv
  refine W_iter_range (n := 6) (by decide) (by walk_at "has") ?_
  intro it2
  refine ⟨it2, _, _, rangeSrc _ 6, fun i ys J => Ints ys ((List.range i).map fun k => if pc.ns.getD k 0 = 0 then pb.ns.getD k 0 else pa.ns.getD k 0), rfl, rfl, rfl, by show 6 ≤ _; omega, rfl, fun ys _ _ _ h => h, ?_, ?_⟩
  · intro C2 f1 f2 f3 f4 F2 i v ys I' Mu' hi hsub hP hInv
    obtain ⟨tki, rfl⟩ := hP
    have hi6 : i < 6 := hi
    refine W_tests_nil ?_
    rw [if_pos rfl]
    refine W.gen fun K' hK => ?_
    have c1 := hsub _ (List.mem_cons_of_mem _ c1)
    have c4 := hsub _ (List.mem_cons_of_mem _ c4)
    have a1 := hsub _ (List.mem_cons_of_mem _ a1)
    have a4 := hsub _ (List.mem_cons_of_mem _ a4)
    have b1 := hsub _ (List.mem_cons_of_mem _ b1)
    have b4 := hsub _ (List.mem_cons_of_mem _ b4)
    obtain ⟨t1, e1⟩ := c5.get (getD_some (l := pc.ns) (k := i) (by omega))
    obtain ⟨t2, e2⟩ := a5.get (getD_some (l := pa.ns) (k := i) (by omega))
    obtain ⟨t3, e3⟩ := b5.get (getD_some (l := pb.ns) (k := i) (by omega))
    have fin : ∀ w tw, w = (if pc.ns.getD i 0 = 0 then pb.ns.getD i 0 else pa.ns.getD i 0) → Ints (ys ++ [Value.int w tw]) ((List.range (i + 1)).map fun k => if pc.ns.getD k 0 = 0 then pb.ns.getD k 0 else pa.ns.getD k 0) := by
      intro w tw hw
      rw [List.range_succ, List.map_append]
      subst hw
      exact Ints.append' hInv (.cons' .nil')
    repeat walk_at "w1"
    refine W_itemL (i := (i : Int)) rfl (Or.inl c4) (by omega) (by omega) (by rw [Int.toNat_natCast]; exact e1) ?_
    repeat walk_at "w1"
    by_cases hz : pc.ns.getD i 0 = 0
    · rw [if_pos (beq_iff_eq.mpr hz)]
      repeat walk_at "w1"
      refine W_itemL (i := (i : Int)) rfl (Or.inl b4) (by omega) (by omega) (by rw [Int.toNat_natCast]; exact e3) ?_
      exact hK _ _ _ _ ⟨rfl, rfl, hsub, fin _ _ (by rw [if_pos hz])⟩
    · rw [if_neg (fun q => hz (beq_iff_eq.mp q))]
      repeat walk_at "w1"
      refine W_itemL (i := (i : Int)) rfl (Or.inl a4) (by omega) (by omega) (by rw [Int.toNat_natCast]; exact e2) ?_
      exact hK _ _ _ _ ⟨rfl, rfl, hsub, fin _ _ (by rw [if_neg hz])⟩
  intro acc ys nn J hInv
  have hI6 : Ints ys ((List.range 6).map fun k => if pc.ns.getD k 0 = 0 then pb.ns.getD k 0 else pa.ns.getD k 0) := hInv
  have hM : LwM ah (fun z => if z = Str.ofString "values" then some (.ref acc) else m z) I := M.put (by decide +kernel) (by decide +kernel) (by decide +kernel)
  refine W_execs_cons ?_
  repeat walk_at "w1"
  refine Meth_list PySem.F.slot_list_append PySem.F.type_list_append (by walk_at "has") ?_
  refine W_with1 rfl rfl ?_
  repeat walk_at "w1"
  have done : ∀ I' ak, (∀ p ∈ I, p ∈ I') → PartIs I' (.ref ak) (ternF pc pa pb) → KF .next (fun z => if z = Str.ofString "values" then some (.ref acc) else m z) I' [(it, o'), (ah, lstO (vs ++ [.ref ak]) (n + 1))] := fun I' ak hs hq => K _ I' _ hs (hM.mono hs) hq
  have hns : ((List.range 6).map fun k => if pc.ns.getD k 0 = 0 then pb.ns.getD k 0 else pa.ns.getD k 0) = (ternF pc pa pb).ns := by unfold ternF; simp only [qr]
  cases hat : pa.t with
  | true =>
    rw [if_pos (by simp)]
    repeat walk_at "w1"
    refine W_append (.tail .head) (by omega) ⟨rfl, ?_⟩
    repeat walk_at "w1"
    exact done _ _ (fun p hp => by walk_at "mem") (PartIs.mk' List.mem_cons_self (by walk_at "mem") (by walk_at "strs") (by walk_at "mem") hI6 rfl (by show _ = (pa.t && pb.t); rw [hat]; rfl) rfl hns)
  | false =>
    rw [if_neg (by simp)]
    repeat walk_at "w1"
    refine W_append (.tail .head) (by omega) ⟨rfl, ?_⟩
    repeat walk_at "w1"
    exact done _ _ (fun p hp => by walk_at "mem") (PartIs.mk' List.mem_cons_self (by walk_at "mem") (by walk_at "strs") (by walk_at "mem") hI6 rfl (by show _ = (pa.t && pb.t); rw [hat]; rfl) rfl hns)

set_option maxHeartbeats 4000000 in
theorem lw_op21 {C : Cx} {mg mb : Vm} {p1 p2 p3 p4 p5 p6 p7 p8 : Addr} (X : LwC C mg mb p1 p2 p3 p4 p5 p6 p7 p8) {ah it : Addr} {o' : Obj} {m : Vm} {I : Led} {x : Int} {vs : List Value} {n A B a b d l d2 l2 : Nat} (M : LwM ah m I) (P : LwP m x) (V : LwV m I) {vf vl : Value} (O : LwO m I vl vf d l d2 l2) (H : HpV I vs a b) (h20 : 20 ≤ x.fmod 24) (h22 : x.fmod 24 < 22) (hA : A ≤ 1000) (hB : B ≤ 1000)
    (b3 : d + 5 + d2 + 5 + a ≤ A + 6) (b4 : l + 9 + l2 + 9 + b ≤ B + 10) {KF : Flow → Vm → Led → Led → Prop}
    (K : LwE it o' ah I (A + 9) (B + 14) KF) : W C m I [(it, o'), (ah, lstO vs n)] (execs (List.drop 6 lwFor) C.env) KF := by
  have hsl : sizeLine = 16777216 := rfl
  have hcl : cLine = 9900 := rfl
  have hu64 := X.u64
  have G := X.G
  have R := X.R
  have F := X.F
  have hh := X.hh
  have hown := X.own
  have hp := M.heap
  obtain ⟨tp, vp⟩ := P.pick
  obtain ⟨hlast, hfirst, Pl, Pf⟩ := id O
  obtain ⟨al, v0, v1, v2, kl, vlv, ml, s0, s1, s2⟩ := id V
  have hlen := H.len
  refine W_execs_cons ?_
  repeat walk_at "w1"
  have h18 : x.fmod 24 ∉ [18, 19] := by simp; omega
  rw [if_neg (by simpa using h18)]
  refine W_execs_nil ?_
  refine W_execs_cons ?_
  repeat walk_at "w1"
  rw [if_neg (by simp; omega)]
  repeat walk_at "w1"
  rw [if_pos (by simp; omega)]
  -- cond
  refine W_cut (fun m' I' Mu' => ∃ vs' n' vc dc lc a' b', Mu' = [(it, o'), (ah, lstO vs' n')] ∧ (∀ p ∈ I, p ∈ I') ∧ LwM ah m' I' ∧ m' (Str.ofString "cond") = some vc ∧ m' (Str.ofString "first") = some vf ∧ m' (Str.ofString "last") = some vl ∧ Pt I' vc dc lc ∧ HpV I' vs' a' b' ∧ dc + d + d2 + 3 + 5 + a' ≤ A + 9 ∧ lc + l + l2 + 4 + 9 + b' ≤ B + 14) ?_ ?_
  · refine W.gen fun K' hK => ?_
    repeat walk_at "w1"
    have M2 : ∀ u, LwM ah (fun y => if y = Str.ofString "cond" then some u else m y) I := fun u => M.put (by decide +kernel) (by decide +kernel) (by decide +kernel)
    by_cases hne : vs = []
    · subst hne
      rw [if_neg (by simp)]
      repeat walk_at "w1"
      exact hK _ _ _ _ ⟨rfl, [], _, v2, 1, 1, 0, 0, rfl, fun p hp => by walk_at "mem", (M2 _).mono fun p hp => by walk_at "mem", by walk_at "var", by walk_at "var", by walk_at "var", Pt.mono _ _ (fun p hp => by walk_at "mem") s2, .nil, by omega, by omega⟩
    · rw [if_pos (heap_nil (n := 0) |>.mpr hne)]
      obtain ⟨vs2, w, a2, b2', d3, l3, rfl, H2, hw, e1, e2⟩ := H.pop hne
      repeat walk_at "w1"
      refine Meth_list PySem.F.slot_list_pop PySem.F.type_list_pop (by walk_at "has") ?_
      refine W_with0 ?_
      simp only [List.length_append, List.length_singleton] at hlen
      refine W_pop (.tail .head) (by omega) ?_
      repeat walk_at "w1"
      exact hK _ _ _ _ ⟨rfl, vs2, _, w, d3, l3, a2, b2', rfl, fun p hp => by walk_at "mem", (M2 _).mono fun p hp => by walk_at "mem", by walk_at "var", by walk_at "var", by walk_at "var", Pt.mono _ _ (fun p hp => by walk_at "mem") hw, H2.mono (fun p hp => by walk_at "mem"), by omega, by omega⟩
  rintro m' I' Mu' ⟨vs', n', vc, dc, lc, a', b', rfl, hs, M', mc, mf, mlv, Pc, H', w1, w2⟩
  obtain ⟨pc, ec, Pc1, gc, dc1, lc1⟩ := Pc
  obtain ⟨pb, eb, Pb1, gb, db1, lb1⟩ := Pt.mono _ _ hs Pl
  obtain ⟨pa, ea, Pa1, ga, da1, la1⟩ := Pt.mono _ _ hs Pf
  have hlen' := H'.len
  have hp := M'.heap
  refine W_cut (fun m'' I'' Mu'' => Mu'' = [(it, o'), (ah, lstO vs' n')] ∧ (∀ p ∈ I', p ∈ I'') ∧ LwM ah m'' I'' ∧ m'' (Str.ofString "first") = some vf ∧ m'' (Str.ofString "last") = some vl ∧ ∃ vc', m'' (Str.ofString "cond") = some vc' ∧ PartIs I'' vc' (if pc.r = 0 then bracketF pc else pc)) ?_ ?_
  · refine W.gen fun K' hK => ?_
    obtain ⟨ai, tki, lwi, lvi, vwi, vvi, n1i, n2i, n3i, rfl, i1, i2, i3, i4, i5⟩ := id Pc1
    repeat walk_at "w1"
    by_cases hz : pc.r = 0
    · rw [if_pos (beq_iff_eq.mpr hz)]
      repeat walk_at "w1"
      refine W_withDef' X.br rfl ?_
      repeat walk_at "w1"
      refine W_call (bracketed_spec X.br R Pc1 (by rw [gc.ws]; omega)) hh X.dep1 X.un1 ?_
      intro w J hw
      repeat walk_at "w1"
      exact hK _ _ _ _ ⟨rfl, rfl, fun p hp => by walk_at "mem", (M'.put (by decide +kernel) (by decide +kernel) (by decide +kernel)).mono fun p hp => by walk_at "mem", by walk_at "var", by walk_at "var", w, by walk_at "var", by rw [if_pos hz]; exact hw⟩
    · rw [if_neg (fun q => hz (beq_iff_eq.mp q))]
      repeat walk_at "w1"
      exact hK _ _ _ _ ⟨rfl, rfl, fun p hp => hp, M', mf, mlv, _, mc, by rw [if_neg hz]; exact Pc1⟩
  rintro m'' I'' Mu'' ⟨rfl, hs2, M'', mf2, ml2, vc', mc2, Pc2⟩
  refine lw_ternEnd X M'' mc2 mf2 ml2 Pc2 (PartIs.mono _ _ hs2 Pa1) (PartIs.mono _ _ hs2 Pb1) gc ga gb (by omega) (by omega) ?_
  intro m3 I3 v hs3 M3 hv
  obtain ⟨g, gg, gD, gL⟩ := gc.tern ga gb
  refine W_execs_nil ?_
  refine W_execs_nil ?_
  have hs4 : ∀ p ∈ I, p ∈ I3 := fun p hp => hs3 p (hs2 p (hs p hp))
  exact K .next (.inl rfl) _ I3 _ _ hs4 M3 (.snoc (H'.mono fun p hp => hs3 p (hs2 p hp)) (d := dc + d + d2 + 3) (l := lc + l + l2 + 4) ⟨_, g, hv, gg, by omega, by omega⟩ (by omega) (by omega)) (by simp)
end
section
set_option maxHeartbeats 4000000 in
theorem lw_op22 {C : Cx} {mg mb : Vm} {p1 p2 p3 p4 p5 p6 p7 p8 : Addr} (X : LwC C mg mb p1 p2 p3 p4 p5 p6 p7 p8) {ah it : Addr} {o' : Obj} {m : Vm} {I : Led} {x : Int} {vs : List Value} {n A B a b d l d2 l2 : Nat} (M : LwM ah m I) (P : LwP m x) {vf vl : Value} (O : LwO m I vl vf d l d2 l2) (H : HpV I vs a b) (h22 : 22 ≤ x.fmod 24) (hA : A ≤ 1000) (hB : B ≤ 1000)
    (b1 : d + 5 + a ≤ A) (b2 : l + 9 + b ≤ B) {KF : Flow → Vm → Led → Led → Prop}
    (K : LwE it o' ah I (A + 9) (B + 14) KF) : W C m I [(it, o'), (ah, lstO vs n)] (execs (List.drop 6 lwFor) C.env) KF := by
  have hsl : sizeLine = 16777216 := rfl
  have hcl : cLine = 9900 := rfl
  have hu64 := X.u64
  have G := X.G
  have R := X.R
  have F := X.F
  have hh := X.hh
  have hown := X.own
  have hp := M.heap
  obtain ⟨tp, vp⟩ := P.pick
  obtain ⟨hlast, hfirst, ⟨q, f, plast, gl, fd, fl⟩, _⟩ := id O
  have hlen := H.len
  have gws := gl.ws
  refine W_execs_cons ?_
  repeat walk_at "w1"
  have h18 : x.fmod 24 ∉ [18, 19] := by simp; omega
  rw [if_neg (by simpa using h18)]
  refine W_execs_nil ?_
  refine W_execs_cons ?_
  repeat walk_at "w1"
  rw [if_neg (by simp; omega)]
  repeat walk_at "w1"
  rw [if_neg (by simp; omega)]
  repeat walk_at "w1"
  by_cases h : x.fmod 24 = 22
  · rw [if_pos (by simpa using h)]
    have hM : ∀ u, LwM ah (fun z => if z = Str.ofString "inner" then some u else m z) I := fun u => M.put (by decide +kernel) (by decide +kernel) (by decide +kernel)
    obtain ⟨al, tkl, lwl, lvl, vwl, vvl, n1l, n2l, n3l, rfl, l1, l2, l3, l4, l5⟩ := id plast
    refine W_cut (fun m' I' Mu' => Mu' = [(it, o'), (ah, lstO vs n)] ∧ (∀ p ∈ I, p ∈ I') ∧ LwM ah m' I' ∧ ∃ vi, m' (Str.ofString "inner") = some vi ∧ PartIs I' vi (if q.r = 3 ∨ q.r = 8 then q else bracketF q)) ?_ ?_
    · refine W.gen fun K' hK => ?_
      repeat walk_at "w1"
      by_cases hr : q.r = 3 ∨ q.r = 8
      · rw [if_pos (by simpa using hr)]
        repeat walk_at "w1"
        exact hK _ _ _ _ ⟨rfl, rfl, fun p hp => by walk_at "mem", (hM _).mono fun p hp => by walk_at "mem", _, by walk_at "var", by rw [if_pos hr]; exact PartIs.mono _ _ (fun p hp => by walk_at "mem") plast⟩
      · rw [if_neg (by simpa using hr)]
        repeat walk_at "w1"
        refine W_withDef' X.br rfl ?_
        repeat walk_at "w1"
        refine W_call (bracketed_spec X.br R (PartIs.mono _ _ (fun p hp => by walk_at "mem") plast) (by rw [gws]; omega)) hh X.dep1 X.un1 ?_
        intro w J hw
        repeat walk_at "w1"
        exact hK _ _ _ _ ⟨rfl, rfl, fun p hp => by walk_at "mem", (hM _).mono fun p hp => by walk_at "mem", _, by walk_at "var", by rw [if_neg hr]; exact hw⟩
    · rintro m' I' Mu' ⟨rfl, hs, M', vi, hi, Pi⟩
      have hp := M'.heap
      have qw : (if q.r = 3 ∨ q.r = 8 then q else bracketF q).ws.length ≤ q.ws.length + 2 := by split <;> simp [bracketF]
      have qn : (if q.r = 3 ∨ q.r = 8 then q else bracketF q).ns.length = 6 := by split <;> exact gl.len
      obtain ⟨ai, tki, lwi, lvi, vwi, vvi, n1i, n2i, n3i, rfl, i1, i2, i3, i4, i5⟩ := id Pi
      have s1 := i3.length
      have s2 := i5.length
      rw [gws] at qw
      refine W_execs_cons ?_
      repeat walk_at "w1"
      refine Meth_list PySem.F.slot_list_append PySem.F.type_list_append (by walk_at "has") ?_
      refine W_with1 rfl rfl ?_
      repeat walk_at "w1"
      refine W_ListComp F hh X.hX (cap := []) (by decide +kernel) (fun _ => rfl) ?_
      repeat walk_at "w1"
      refine W_iter_list (by walk_at "has") ?_
      intro it2 oi hoi
      refine ⟨it2, _, _, listSrc (by walk_at "mem"), fun i ys J => Ints ys (((if q.r = 3 ∨ q.r = 8 then q else bracketF q).ns.take i).map fun v => if v == 0 then 1 else 0), rfl, rfl, hoi, by show vvi.length ≤ _; omega, rfl, fun ys _ _ _ h => h, ?_, ?_⟩
      · intro C2 f1 f2 f3 f4 F2 i v ys I' Mu' hi hsub hP hInv
        have hi6 : i < (if q.r = 3 ∨ q.r = 8 then q else bracketF q).ns.length := by rw [← s2]; exact hi
        have hP' : vvi[i]? = some v := hP
        obtain ⟨tz, ez⟩ := i5.get (List.getElem?_eq_getElem hi6)
        rw [hP'] at ez
        cases ez
        rw [← f3] at R
        refine W_tests_nil ?_
        rw [if_pos rfl]
        refine W.gen fun K' hK => ?_
        repeat walk_at "w1"
        refine hK _ _ _ _ ⟨rfl, rfl, hsub, ?_⟩
        show Ints _ (List.map _ (List.take (i + 1) _))
        rw [List.take_succ_eq_append_getElem hi6, List.map_append]
        exact Ints.append' hInv (.cons' .nil')
      intro acc ys nn J hInv
      have hI6 : Ints ys (((if q.r = 3 ∨ q.r = 8 then q else bracketF q).ns).map fun v => if v == 0 then 1 else 0) := by
        have : Ints ys (((if q.r = 3 ∨ q.r = 8 then q else bracketF q).ns.take vvi.length).map fun v => if v == 0 then 1 else 0) := hInv
        rw [s2, List.take_length] at this
        exact this
      repeat walk_at "w1"
      refine W_append (.tail .head) (by omega) ⟨rfl, ?_⟩
      repeat walk_at "w1"
      obtain ⟨g, gg, gD, gL⟩ := gl.not
      refine K .next (.inl rfl) _ _ _ _ (fun p hp => by have := hs p hp; walk_at "mem") (M'.mono fun p hp => by walk_at "mem") (.snoc (H.mono fun p hp => by have := hs p hp; walk_at "mem") (d := d + 2) (l := l + 3) ⟨notF q, g, ⟨_, _, _, _, _, _, _, _, _, rfl, List.mem_cons_self, by walk_at "mem", ?_, by walk_at "mem", hI6⟩, gg, by omega, by omega⟩ (by omega) (by omega)) (by simp)
      exact Strs.cons' i3
  · rw [if_neg (by simpa using h)]
    repeat walk_at "w1"
    refine Meth_list PySem.F.slot_list_append PySem.F.type_list_append (by walk_at "has") ?_
    refine W_with1 rfl rfl ?_
    repeat walk_at "w1"
    refine W_withDef' X.br rfl ?_
    repeat walk_at "w1"
    refine W_call (bracketed_spec X.br R (PartIs.mono _ _ (fun p hp => by walk_at "mem") plast) (by rw [gws]; omega)) hh X.dep1 X.un1 ?_
    intro w J hw
    repeat walk_at "w1"
    refine W_append (.tail .head) (by omega) ⟨rfl, ?_⟩
    repeat walk_at "w1"
    refine K .next (.inl rfl) _ _ _ _ (fun p hp => by walk_at "mem") (M.mono fun p hp => by walk_at "mem") (.snoc (H.mono fun p hp => by walk_at "mem") (d := d + 1) (l := l + 2) ⟨bracketF q, .par f, hw, gl.bracket, ?_, ?_⟩ (by omega) (by omega)) (by simp)
    · show f.D + 1 ≤ _; omega
    · simp only [Ex.toks, List.length_cons, List.length_append, List.length_nil]; omega
end
section
theorem ints_of : ∀ {vs : List Value} {ns : List Int}, IntsAre vs ns → Ints vs ns
  | _, _, .nil => rfl
  | _, _, .cons n t h => Ints.cons' (ints_of h)

theorem lw_turn {C : Cx} {mg mb : Vm} {p1 p2 p3 p4 p5 p6 p7 p8 : Addr} (X : LwC C mg mb p1 p2 p3 p4 p5 p6 p7 p8) {ah it : Addr} {o' : Obj} {m : Vm} {I : Led} {x : Int} {tx : Tok} {vs : List Value} {n A B : Nat} (M : LwM ah m I) (hx : m (Str.ofString "x") = some (.int x tx)) (H : HpV I vs A B) (hA : A ≤ 1000) (hA6 : 6 ≤ A) (hB : B ≤ 1000) (hB10 : 10 ≤ B)
    {KF : Flow → Vm → Led → Led → Prop} (K : LwE it o' ah I (A + 9) (B + 14) KF) : W C m I [(it, o'), (ah, lstO vs n)] (execs lwFor C.env) KF := by
  have f0 : 0 ≤ x.fmod 24 := by rw [Int.fmod_eq_emod_of_nonneg _ (by decide)]; omega
  have f1 : x.fmod 24 < 24 := by rw [Int.fmod_eq_emod_of_nonneg _ (by decide)]; omega
  refine lw_head X M hx fun m1 I1 hs M1 P1 V1 => ?_
  refine lw_small X M1 P1 V1 (H.mono hs) hA (K.sub hs) fun h7 => ?_
  refine lw_pick X M1 P1 V1 (H.mono hs) hA hA6 hB10 ?_
  intro m' I' vs' n' vl vf d l d2 l2 a b hs' M' P' V' O' H' e1 e2 e3
  have K' := (K.sub hs).sub hs'
  by_cases h22 : x.fmod 24 < 22
  · obtain ⟨g3, g4⟩ := e3 h22
    by_cases h20 : x.fmod 24 < 20
    · exact lw_op20 X M' P' O' H' h7 h20 hA hB g3 g4 K'
    · exact lw_op21 X M' P' V' O' H' (by omega) h22 hA hB g3 g4 K'
  · exact lw_op22 X M' P' O' H' (by omega) hA hB e1 e2 K'

/-- the script: a list of which cls and data are known -/
structure ScO (I : Led) (as : Addr) (sv : List Value) : Prop where
  out : ∃ o k, (as, o) ∈ I ∧ o.cls = .type "list" ∧ o.data = .seq sv.toArray k
theorem ScO.mono {I J : Led} {as : Addr} {sv : List Value} (h : ∀ p ∈ I, p ∈ J) (x : ScO I as sv) : ScO J as sv := let ⟨o, k, a, b⟩ := x.out; ⟨o, k, h _ a, b⟩
theorem ScO.is {C : Cx} {m : Vm} {I Mu : Led} {h : Heap} {as : Addr} {sv : List Value} (x : ScO I as sv) (S : St C m I Mu h) : h.IsList as sv.toArray := let ⟨o, k, a, b, c⟩ := x.out; ⟨o, S.led _ a, b, k, c⟩
theorem W_neNilO {C : Cx} {m : Vm} {I Mu : Led} {K : Value → Vm → Led → Led → Prop} {l l' : Addr} {vs : List Value} {n' : Nat} (hl : ScO I l vs) (hl' : Has I Mu l' (lstO [] n')) (hu : C.A.units + 64 < cLine)
    (k : K (.bool (!vs.isEmpty)) m I Mu) : W C m I Mu (compareOp .NotEq (.ref l) (.ref l')) K := .mk fun E h tk S => by
  have hL := hl.is S
  cases vs with
  | nil => exact ne_intsK (ns := []) (ms := []) hL .nil (IsL.isList (S.has hl')) .nil hu (back S (by simpa using k))
  | cons v vs =>
    show wpAny _ _ (richCompare .NotEq _ _) _ _ _
    exact SeqAt.RcNeAt.lists_lengths hL (IsL.isList (S.has hl')) (by simp) (by omega) _ _ _ _ (back S (by simpa using k))
theorem W_SliceO {C : Cx} {m : Vm} {I Mu : Led} {K : Value → Vm → Led → Led → Prop} {value : Expr} {lower upper : Option Expr} {p pos : Pos}
    (k : W C m I Mu (eval value C.env) fun o m1 I1 Mu1 => W C m1 I1 Mu1 (evalPart lower C.env) fun vl m2 I2 Mu2 => W C m2 I2 Mu2 (evalPart upper C.env) fun vu m3 I3 Mu3 =>
      ∃ l vs lo hi, o = .ref l ∧ ScO I3 l vs ∧ vs.length ≤ sizeLine ∧ PySem.IsPart vl lo ∧ PySem.IsPart vu hi ∧ ∀ a, K (.ref a) m3 ((a, lstO (slicePick vs.toArray lo hi none).toList) :: I3) Mu3)
    (ht : ∀ o r, letTemporaryGo value o r = Pure.pure ()) : W C m I Mu (eval (.Subscript value (.Slice lower upper none p) pos) C.env) K := .mk fun E h tk S => by
  refine wpAny_Subscript_list_slice (k.use S fun o _ _ _ _ _ S1 k1 => k1.use S1 fun vl _ _ _ _ _ S2 k2 => k2.use S2 fun vu _ _ _ h3 t3 S3 k3 => ?_) ht
  obtain ⟨l, vs, lo, hi, rfl, hl, hsz, pl, pu, k3⟩ := k3
  refine ⟨l, vs.toArray, lo, hi, rfl, hl.is S3, by simpa using hsz, pl, pu, ?_⟩
  have S4 := S3.alloc { cls := .type "slice", data := .fields #[vl, vu, .none] } rfl
  have S5 := S4.alloc (lstO (slicePick vs.toArray lo hi none).toList) rfl
  have S6 := S5.less (J := ((h3.push { cls := .type "slice", data := .fields #[vl, vu, .none] }).objs.size, lstO (slicePick vs.toArray lo hi none).toList) :: _) (fun p hp => by
    rcases List.mem_cons.mp hp with rfl | hp
    · exact .head _
    · exact .tail _ (.tail _ hp))
  rw [Heap.size_push] at S6
  have := back (tk := t3) S6 (k3 _)
  simpa [lstO] using this

set_option maxHeartbeats 4000000 in
theorem lw_for {C : Cx} {mg mb : Vm} {p1 p2 p3 p4 p5 p6 p7 p8 : Addr} (X : LwC C mg mb p1 p2 p3 p4 p5 p6 p7 p8) {ah as : Addr} {m : Vm} {I : Led} {sv : List Value} {ns : List Int} {n : Nat} (M : LwM ah m I) (hs : m (Str.ofString "script") = some (.ref as)) (hsv : ScO I as sv) (hi : Ints sv ns) (hlen : ns.length ≤ 63)
    {KF : Flow → Vm → Led → Led → Prop} (K : ∀ m' I' vs n', LwM ah m' I' → HpV I' vs 573 892 → vs ≠ [] → KF .next m' I' [(ah, lstO vs n')]) : W C m I [(ah, lstO [] n)] (exec (nth (bodyOf (stmtAt 12)) 3) C.env) KF := by
  have hsl : sizeLine = 16777216 := rfl
  have hcl : cLine = 9900 := rfl
  have hd' := X.dep
  have hu := X.un
  have G := X.G
  have R := X.R
  have F := X.F
  have hh := X.hh
  have hown := X.own
  have hX := X.hX
  have hsl2 := hi.length
  have loop : ∀ {I2 : Led} {l : Addr} {vs : List Value} {kk : Nat} {zs : List Int} {it : Addr} {oi : Obj}, (l, lstO vs kk) ∈ I2 → Ints vs zs → vs ≠ [] → vs.length ≤ 63 → (∀ p ∈ I, p ∈ I2) → LIt l 0 oi → ∀ {tg : Pos},
      W C m I2 [(it, oi), (ah, lstO [] n)] (runOwn (.forLoop (.Name (Str.ofString "x") tg) (.ref it) lwFor [] C.env) C.env) KF := by
    intro I2 l vs kk zs it oi hl hz hne hlen2 hsub hoi tg
    refine W_forLoop F hh (listSrc hl) hoi (by rw [hX]; exact fun q => nomatch q) (.inl (by decide +kernel)) (fun i m' I' Mu' => LwM ah m' I' ∧ ∃ ws n', Mu' = [(ah, lstO ws n')] ∧ HpV I' ws (9 * i + 6) (14 * i + 10) ∧ (i ≠ 0 → ws ≠ [])) ⟨M.mono hsub, [], n, rfl, .nil, fun q => absurd rfl q⟩ ?_ ?_
    · intro i v m' I' Mu' o' hi' hs' hP hInv KT hT
      obtain ⟨M', ws, n', rfl, H', _⟩ := hInv
      have hi2 : i < vs.length := hi'
      have hP' : vs[i]? = some v := hP
      obtain ⟨z, tz, _, rfl⟩ := hz.mem (List.mem_of_getElem? hP')
      refine lw_turn X (M'.put (by decide +kernel) (by decide +kernel) (by decide +kernel)) (x := z) (tx := tz) (by walk_at "var") H' (by omega) (by omega) (by omega) (by omega) ?_
      intro f hf m2 I3 vs' n2 hs2 M2 H2 hn2
      have : ∃ Mu3, [(it, o'), (ah, lstO vs' n2)] = (it, o') :: Mu3 ∧ (∀ p ∈ I2, p ∈ I3) ∧ LwM ah m2 I3 ∧ ∃ ws n', Mu3 = [(ah, lstO ws n')] ∧ HpV I3 ws (9 * (i + 1) + 6) (14 * (i + 1) + 10) ∧ (i + 1 ≠ 0 → ws ≠ []) :=
        ⟨_, rfl, fun p hp => hs2 p (hs' p hp), M2, vs', n2, rfl, H2.weak (by omega) (by omega), fun _ => hn2⟩
      rcases hf with rfl | rfl
      · exact hT _ _ _ _ this
      · exact hT _ _ _ _ this
    · intro m' I' Mu' hs' hInv
      obtain ⟨M', ws, n', rfl, H', hne'⟩ := hInv
      have e : (listSrc hl).n = vs.length := rfl
      rw [e] at H' hne'
      have hpos : vs.length ≠ 0 := by cases vs <;> simp at hne ⊢
      refine W_execs_nil ?_
      exact K _ _ _ _ M' (H'.weak (by omega) (by omega)) (hne' hpos)
  refine W_For (fun _ => rfl) ?_
  repeat walk_at "w1"
  refine W_neNilO (hsv.mono fun p hp => by walk_at "mem") (by walk_at "has") (by omega) ?_
  repeat walk_at "w1"
  by_cases hne : sv = []
  · subst hne
    rw [if_neg (by simp)]
    repeat walk_at "w1"
    refine W_iter_list (by walk_at "has") ?_
    intro it oi hoi
    exact loop (zs := [0]) List.mem_cons_self (Ints.cons' Ints.nil') (by simp) (by simp) (fun p hp => by walk_at "mem") hoi
  · rw [if_pos (heap_nil (n := 0) |>.mpr hne)]
    refine W_SliceO ?_ (fun _ _ => rfl)
    repeat walk_at "w1"
    refine ⟨as, sv, none, some 63, rfl, hsv.mono fun p hp => by walk_at "mem", by omega, ?_, ?_, ?_⟩
    · exact .none
    · exact .int 63 _
    intro a
    have hpick : Ints (slicePick sv.toArray none (some 63) none).toList ns := by
      have := ints_of (slice_ints_uptoW (intsAre_of hi) (y := 63) (by decide))
      rw [List.take_of_length_le (by exact hlen)] at this
      exact this
    have hpl := hpick.length
    refine W_iter_list (by walk_at "has") ?_
    intro it oi hoi
    refine loop (zs := ns) List.mem_cons_self ?_ ?_ ?_ (fun p hp => by walk_at "mem") hoi
    · exact hpick
    · intro q
      rw [q] at hpl
      have : sv.length = 0 := by rw [hsl2]; exact hpl.symm
      exact hne (List.length_eq_zero_iff.mp this)
    · omega
end
section
set_option maxHeartbeats 4000000 in
theorem lw_while {C : Cx} {mg mb : Vm} {p1 p2 p3 p4 p5 p6 p7 p8 : Addr} (X : LwC C mg mb p1 p2 p3 p4 p5 p6 p7 p8) {ah : Addr} {m : Vm} {I : Led} {vs : List Value} {n : Nat} (M : LwM ah m I) (H : HpV I vs 573 892) (hne : vs ≠ [])
    {KF : Flow → Vm → Led → Led → Prop} (K : ∀ m' I' v n', LwM ah m' I' → Pt I' v 568 883 → KF .next m' I' [(ah, lstO [v] n')]) : W C m I [(ah, lstO vs n)] (exec (nth (bodyOf (stmtAt 12)) 4) C.env) KF := by
  have hsl : sizeLine = 16777216 := rfl
  have hcl : cLine = 9900 := rfl
  have hu64 := X.u64
  have G := X.G
  have R := X.R
  have F := X.F
  have hh := X.hh
  have hown := X.own
  refine W_While (fun j m' I' Mu' => LwM ah m' I' ∧ ∃ vs k, Mu' = [(ah, lstO vs k)] ∧ HpV I' vs 573 892 ∧ vs ≠ [] ∧ j = vs.length) vs.length ⟨M, vs, n, rfl, H, hne, rfl⟩ ?_
  rintro j m' I' Mu' ⟨M', vs, k, rfl, H', hne', rfl⟩ KT hT
  have hp := M'.heap
  have hlen := H'.len
  obtain ⟨ao, ov, ko, o1, o2, o3⟩ := M'.ops
  repeat walk_at "w1"
  by_cases h1 : (1 : Int) < vs.length
  · rw [if_pos (decide_eq_true h1)]
    obtain ⟨vs1, wl, a1, b1, dl, ll, rfl, H1, hwl, e1, e2⟩ := H'.pop hne'
    rw [List.length_append, List.length_singleton] at h1 hlen
    have hne1 : vs1 ≠ [] := by
      intro q
      rw [q] at h1
      simp at h1
    obtain ⟨vs2, wf, a2, b2, df, lf, rfl, H2, hwf, e3, e4⟩ := H1.pop hne1
    rw [List.length_append, List.length_singleton] at h1 hlen
    repeat walk_at "w1"
    refine Meth_list PySem.F.slot_list_pop PySem.F.type_list_pop (by walk_at "has") ?_
    refine W_with0 ?_
    refine W_pop .head (by rw [List.length_append, List.length_singleton]; omega) ?_
    repeat walk_at "w1"
    refine Meth_list PySem.F.slot_list_pop PySem.F.type_list_pop (by walk_at "has") ?_
    refine W_with0 ?_
    refine W_pop .head (by omega) ?_
    repeat walk_at "w1"
    refine Meth_list PySem.F.slot_list_append PySem.F.type_list_append (by walk_at "has") ?_
    refine W_with1 rfl rfl ?_
    repeat walk_at "w1"
    refine W_withDef' X.pair rfl ?_
    repeat walk_at "w1"
    generalize hz : ((vs2.length : Int) + 8).fmod 11 = z
    have z0 : 0 ≤ z := by rw [← hz, Int.fmod_eq_emod_of_nonneg _ (by decide)]; omega
    have z11 : z < 11 := by rw [← hz, Int.fmod_eq_emod_of_nonneg _ (by decide)]; omega
    obtain ⟨o, ho, hdm⟩ := opList_safe z.toNat (by omega)
    have hop : opsL[z.toNat]? = some o.tok := by rw [opsL_eq, List.getElem?_map, ho]; rfl
    obtain ⟨to, hov⟩ := o3.get hop
    refine W_itemL (i := z) rfl (by walk_at "has") (by omega) (by omega) hov ?_
    repeat walk_at "w1"
    obtain ⟨p, e, pfirst, gf, ed, el⟩ := id hwf
    obtain ⟨q, f, plast, gl, fd, fl⟩ := id hwl
    have g1 := gf.len
    have g2 := gl.len
    have w1 := gf.ws
    have w2 := gl.ws
    have hdk : o = .div ∨ o = .mod → ∃ k, f = .num k ∧ 1 ≤ k := fun h => absurd h hdm
    refine W_call (pair_spec3 G X.pair X.app X.br R o.rankIs _ _ _ _ p q pfirst plast g1 g2 (by rw [w1, w2]; omega) (gf.applyOk o gl (by omega) hdk)) hh X.dep X.un ?_
    intro v J hv
    repeat walk_at "w1"
    refine W_append .head (by omega) ⟨rfl, ?_⟩
    repeat walk_at "w1"
    obtain ⟨g, gg, gD, gL, _⟩ := gf.pair o gl hdk
    have hsub : ∀ p ∈ I', p ∈ J ++ I' := fun p hp => by walk_at "mem"
    have hD := f.D_pos
    have hD2 := e.D_pos
    refine hT _ _ _ _ ⟨vs2.length + 1, by simp, (((M'.put (by decide +kernel) (by decide +kernel) (by decide +kernel)).put (by decide +kernel) (by decide +kernel) (by decide +kernel)).mono hsub), _, _, rfl, .snoc (H2.mono hsub) (d := df + dl + 5) (l := lf + ll + 9) ⟨_, g, hv, gg, by omega, by omega⟩ (by omega) (by omega), by simp, by simp⟩
  · rw [if_neg (by simpa using h1)]
    obtain ⟨vs1, wl, a1, b1, dl, ll, rfl, H1, hwl, e1, e2⟩ := H'.pop hne'
    have : vs1 = [] := by
      rw [List.length_append, List.length_singleton] at h1
      exact List.length_eq_zero_iff.mp (by omega)
    subst this
    refine W_execs_nil ?_
    obtain ⟨p, e, h1, h2, h3, h4⟩ := hwl
    exact K _ _ _ _ M' ⟨p, e, h1, h2, by omega, by omega⟩
end
section
structure LwZ (C : Cx) (p1 p5 p6 p7 p8 dv : Addr) : Prop where
  pa : PaD C.prog C.w C.hr p1 p7 p8 dv
  cut : DefAt C.hr 10 "_law_cut" p5 .none
  read : DefAt C.hr 11 "_law_read" p6 .none
  dep : C.A.depth + 600 < recursionLimit
  un : C.A.units + 4800 + 100 < cLine

set_option maxHeartbeats 4000000 in
theorem lw_parse {C : Cx} {mg mb : Vm} {p1 p2 p3 p4 p5 p6 p7 p8 dv : Addr} (X : LwC C mg mb p1 p2 p3 p4 p5 p6 p7 p8) (Z : LwZ C p1 p5 p6 p7 p8 dv) {ah : Addr} {m : Vm} {I : Led} {v : Value} {n : Nat} {p : Part} {e : Ex} (M : LwM ah m I) (Pv : PartIs I v p) (gv : Gp p e) (hD : e.D ≤ 568) (hL : e.toks.length ≤ 883)
    {KF : Flow → Vm → Led → Led → Prop} (K : ∀ m' I' it o', (∀ p ∈ I, p ∈ I') → LwM ah m' I' → (∃ t, m' (Str.ofString "text") = some (.str e.tx t)) → (∃ t, m' (Str.ofString "following") = some (.str (Str.ofString "") t)) → KF .next m' I' [(it, o'), (ah, lstO [v] n)]) :
    W C m I [(ah, lstO [v] n)] (exec (nth (bodyOf (stmtAt 12)) 5) C.env) KF := by
  have hsl : sizeLine = 16777216 := rfl
  have hcl : cLine = 9900 := rfl
  have hd' := Z.dep
  have hu := Z.un
  have G := X.G
  have R := X.R
  have F := X.F
  have hh := X.hh
  have hown := X.own
  have hp := M.heap
  have hws := gv.ws
  obtain ⟨a, tk, lw, lv, vw, vv, n1, n2, n3, rfl, h1, h2, h3, h4, h5⟩ := id Pv
  have hlw := h3.length
  rw [hws] at hlw
  refine W_AssignTuple ?_ rfl rfl
  repeat walk_at "w1"
  refine W_withDef' Z.pa.D rfl ?_
  repeat walk_at "w1"
  refine W_iterCall (by walk_at "has") ?_
  intro it oi hoi
  repeat walk_at "w1"
  have hR := parse_of 568 e (-1) (Str.ofString "") [] gv.wf hD (by have := e.pk_nn; omega) (fun i hi => by rw [show opRank (Str.ofString "") = none by decide +kernel] at hi; cases hi) (fun _ => by decide +kernel)
  rw [ptx_m1] at hR
  have hlen := tx_len e gv.wf
  rw [hws] at h3
  refine W_callP ((parse_spec G R Z.pa 568 (-1) (e.toks ++ [Str.ofString ""]) e.tx (Str.ofString "") [] hR (by omega) _ _ _ oi 0 (by walk_at "mem") (Strs.append' h3 (Strs.cons' Strs.nil')) hoi rfl).2 rfl) hh (by omega) (by omega) ?_
  rintro v' J o' ⟨ra, t1, t2, rk, rfl, hra, _⟩
  refine W_assignTuple hh (by walk_at "has") rfl rfl ?_
  refine W_inOrder_cons ?_
  refine W_assignName ?_
  walk_at "w1"
  refine W_inOrder_cons ?_
  refine W_assignName ?_
  walk_at "w1"
  refine W_inOrder_nil ?_
  have hM : ∀ u w, LwM ah (fun y => if y = Str.ofString "following" then some u else if y = Str.ofString "text" then some w else m y) I := fun u w => (M.put (by decide +kernel) (by decide +kernel) (by decide +kernel)).put (by decide +kernel) (by decide +kernel) (by decide +kernel)
  exact K _ _ _ _ (fun p hp => by walk_at "mem") ((hM _ _).mono fun p hp => by walk_at "mem") ⟨t1, by walk_at "var"⟩ ⟨t2, by walk_at "var"⟩

set_option maxHeartbeats 4000000 in
theorem lw_words {C : Cx} {mg mb : Vm} {p1 p2 p3 p4 p5 p6 p7 p8 : Addr} (X : LwC C mg mb p1 p2 p3 p4 p5 p6 p7 p8) {ah : Addr} {m : Vm} {I Mu : Led} {e : Ex} {t t2 : Tok} (M : LwM ah m I) (hw : e.WF) (hL : e.toks.length ≤ 883) (ht : m (Str.ofString "text") = some (.str e.tx t)) (hf : m (Str.ofString "following") = some (.str (Str.ofString "") t2))
    {KF : Flow → Vm → Led → Led → Prop} (K : ∀ m' I' aw vw kw, (∀ p ∈ I, p ∈ I') → LwM ah m' I' → m' (Str.ofString "following") = some (.str (Str.ofString "") t2) → m' (Str.ofString "words") = some (.ref aw) → (aw, lstO vw kw) ∈ I' → Strs vw e.wd → KF .next m' I' Mu) :
    W1 C m I Mu (exec (nth (bodyOf (stmtAt 12)) 6) C.env) KF := by
  have hsl : sizeLine = 16777216 := rfl
  have hcl : cLine = 9900 := rfl
  have G := X.G
  have R := X.R
  have F := X.F
  have hh := X.hh
  have hown := X.own
  have hlen := tx_len e hw
  have r1 := rep1_len e.tx
  have r2 := rep2_len (Txt.replace e.tx (Str.ofString "(") (Str.ofString " ( "))
  have r3 := sw_len (spaced e.tx)
  have r2' : (spaced e.tx).length ≤ 3 * (Txt.replace e.tx (Str.ofString "(") (Str.ofString " ( ")).length := r2
  refine W1_Assign_Name rfl ?_
  refine W1_CallMeth rfl rfl rfl ?_
  refine W1_replace rfl rfl rfl (by decide +kernel) (by decide +kernel) ?_
  refine W1_replace rfl rfl rfl (by decide +kernel) (by decide +kernel) ?_
  refine W.one ?_
  repeat walk_at "w1"
  refine ⟨_, _, rfl, by omega, fun t' => ⟨_, _, rfl, by omega, fun t'' => ?_⟩⟩
  refine Meth_str PySem.F.slot_str_split PySem.F.type_str_split ?_
  refine W_with0 ?_
  refine W_split (x := spaced e.tx) (by omega) (by omega) ?_
  intro aw vw hvw
  rw [words_spaced hw] at hvw
  repeat walk_at "w1"
  exact K _ _ _ _ _ (fun p hp => by walk_at "mem") ((M.put (by decide +kernel) (by decide +kernel) (by decide +kernel)).mono fun p hp => by walk_at "mem") (by walk_at "var") (by walk_at "var") List.mem_cons_self hvw

set_option maxHeartbeats 4000000 in
theorem lw_ret {C : Cx} {mg mb : Vm} {p1 p2 p3 p4 p5 p6 p7 p8 dv : Addr} (X : LwC C mg mb p1 p2 p3 p4 p5 p6 p7 p8) (Z : LwZ C p1 p5 p6 p7 p8 dv) {ah : Addr} {m : Vm} {I : Led} {v : Value} {n : Nat} {p : Part} {e : Ex} {t2 : Tok} {aw : Addr} {vw : List Value} {kw : Nat} {q : Addr × Obj} (M : LwM ah m I) (Pv : PartIs I v p) (gv : Gp p e) (hD : e.D ≤ 568) (hL : e.toks.length ≤ 883)
    (hf : m (Str.ofString "following") = some (.str (Str.ofString "") t2)) (hw : m (Str.ofString "words") = some (.ref aw)) (haw : (aw, lstO vw kw) ∈ I) (hvw : Strs vw e.wd)
    {KF : Flow → Vm → Led → Led → Prop} (K : ∀ m' I' Mu', KF (.ret (.bool true)) m' I' Mu') :
    W C m I [q, (ah, lstO [v] n)] (exec (nth (bodyOf (stmtAt 12)) 7) C.env) KF := by
  have hsl : sizeLine = 16777216 := rfl
  have hcl : cLine = 9900 := rfl
  have hd' := Z.dep
  have hu := Z.un
  have G := X.G
  have R := X.R
  have F := X.F
  have hh := X.hh
  have hown := X.own
  have hp := M.heap
  have hlen := wd_len e
  obtain ⟨an, nv, kn, m1, m2, m3⟩ := M.ns
  obtain ⟨a, tk, lw, lv, vpw, vv, n1, n2, n3, rfl, h1, h2, h3, h4, h5⟩ := id Pv
  have nl := m3.length
  refine W_Return ?_
  repeat walk_at "w1"
  rw [if_pos (by decide +kernel)]
  refine W_Compare ?_ rfl
  refine W_ListComp F hh X.hX (cap := ["words"]) (by decide +kernel) (fun _ => rfl) ?_
  repeat walk_at "w1"
  refine W_iter_list (by walk_at "has") ?_
  intro it oi hoi
  refine ⟨it, _, _, listSrc m2, fun i ys J => Ints ys ((NS.take i).map e.ev), rfl, rfl, hoi, by show nv.length ≤ _; rw [nl]; decide, rfl, fun ys _ _ _ h => h, ?_, ?_⟩
  · intro C2 f1 f2 f3 f4 F2 i w ys I' Mu' hi hsub hP hInv
    have hi6 : i < NS.length := by rw [← nl]; exact hi
    have hP' : nv[i]? = some w := hP
    obtain ⟨tz, ez⟩ := m3.get (List.getElem?_eq_getElem hi6)
    rw [hP'] at ez
    cases ez
    have haw' := hsub _ haw
    have hr : ∀ z ∈ NS, 0 ≤ z ∧ z ≤ 12 := by decide
    obtain ⟨z0, z12⟩ := hr _ (List.getElem_mem hi6)
    have rd := read_of (x := NS[i]) 568 e gv.wf hD (ok_of e gv.wf (by omega) _ z0 z12)
    have sp := read_spec (prog := C2.prog) (w := C2.w) G R Z.cut X.app Z.read rd
    have D := Z.read
    rw [← f3] at R D sp
    refine W_tests_nil ?_
    rw [if_pos rfl]
    refine W.gen fun K' hK => ?_
    repeat walk_at "w1"
    refine W_withDef' D rfl ?_
    repeat walk_at "w1"
    refine W_call (sp _ _ _ _ _ haw' hvw (by omega)) (by rw [f4]; exact hh) (by rw [f4]; omega) (by rw [f4]; omega) ?_
    rintro r J ⟨tr, rfl⟩
    refine hK _ _ _ _ ⟨rfl, rfl, fun p hp => List.mem_append.mpr (.inr (hsub p hp)), ?_⟩
    show Ints _ (List.map _ (List.take (i + 1) _))
    rw [List.take_succ_eq_append_getElem hi6, List.map_append]
    exact Ints.append' hInv (.cons' .nil')
  intro acc ys nn J hInv
  have hI6 : Ints ys (NS.map e.ev) := by
    have : Ints ys ((NS.take nv.length).map e.ev) := hInv
    rw [nl, List.take_length] at this
    exact this
  repeat walk_at "w1"
  refine W_eqInts (by walk_at "has") hI6 (by walk_at "has") h5 (by omega) ?_
  rw [gv.ns, decide_eq_true rfl]
  exact K _ _ _
end
section
set_option maxHeartbeats 4000000 in
theorem law_body {C : Cx} {mg mb : Vm} {p1 p2 p3 p4 p5 p6 p7 p8 dv : Addr} (X : LwC C mg mb p1 p2 p3 p4 p5 p6 p7 p8) (Z : LwZ C p1 p5 p6 p7 p8 dv) {m : Vm} {I : Led} {as : Addr} {sv : List Value} {ns : List Int} (hs : m (Str.ofString "script") = some (.ref as)) (hsv : ScO I as sv) (hi : Ints sv ns) (hlen : ns.length ≤ 63) :
    W C m I [] (execs (bodyOf (stmtAt 12)) C.env) fun fl _ _ _ => fl = .ret (.bool true) := by
  have hsl : sizeLine = 16777216 := rfl
  have hcl : cLine = 9900 := rfl
  have G := X.G
  have R := X.R
  have F := X.F
  have hh := X.hh
  have hown := X.own
  refine W_firstStr rfl ?_
  intro t
  repeat walk_at "w1"
  refine W1_cut (fun m' I' Mu' => Mu' = [] ∧ (∀ p ∈ I, p ∈ I') ∧ m' (Str.ofString "script") = some (.ref as) ∧ (∃ ao ov k, m' (Str.ofString "ops") = some (.ref ao) ∧ (ao, lstO ov k) ∈ I' ∧ Strs ov opsL) ∧ (∃ an nv k, m' (Str.ofString "ns") = some (.ref an) ∧ (an, lstO nv k) ∈ I' ∧ Ints nv NS)) (W.one ?_) ?_
  · repeat walk_at "w1"
    refine ⟨rfl, rfl, fun p hp => by walk_at "mem", by walk_at "var", ⟨_, _, _, by walk_at "var", List.mem_cons_of_mem _ List.mem_cons_self, ?_⟩, ⟨_, _, _, by walk_at "var", List.mem_cons_self, ?_⟩⟩
    · unfold opsL; walk_at "strs"
    · unfold NS; walk_at "ints"
  rintro m1 I1 Mu1 ⟨rfl, hs1, ms1, mo1, mn1⟩
  refine W1_cut (fun m' I' Mu' => ∃ ah n, Mu' = [(ah, lstO [] n)] ∧ (∀ p ∈ I1, p ∈ I') ∧ m' (Str.ofString "script") = some (.ref as) ∧ LwM ah m' I') (W.one ?_) ?_
  · refine W_Assign_Name rfl ?_
    refine W_ListM ?_
    repeat walk_at "w1"
    obtain ⟨ao, ov, ko, e1, e2, e3⟩ := mo1
    obtain ⟨an, nv, kn, f1, f2, f3⟩ := mn1
    exact ⟨rfl, _, _, rfl, fun p hp => hp, by walk_at "var", ⟨⟨ao, ov, ko, by walk_at "var", e2, e3⟩, ⟨an, nv, kn, by walk_at "var", f2, f3⟩, by walk_at "var"⟩⟩
  rintro m2 I2 Mu2 ⟨ah, n, rfl, hs2, ms2, M2⟩
  refine W1_cut (fun m' I' Mu' => ∃ vs n', Mu' = [(ah, lstO vs n')] ∧ LwM ah m' I' ∧ HpV I' vs 573 892 ∧ vs ≠ []) (W.one ?_) ?_
  · exact lw_for X M2 ms2 ((hsv.mono hs1).mono hs2) hi hlen fun m' I' vs n' a b c => ⟨rfl, vs, n', rfl, a, b, c⟩
  rintro m3 I3 Mu3 ⟨vs, n3, rfl, M3, H3, hne⟩
  refine W1_cut (fun m' I' Mu' => ∃ v n', Mu' = [(ah, lstO [v] n')] ∧ LwM ah m' I' ∧ Pt I' v 568 883) (W.one ?_) ?_
  · exact lw_while X M3 H3 hne fun m' I' v n' a b => ⟨rfl, v, n', rfl, a, b⟩
  rintro m4 I4 Mu4 ⟨v, n4, rfl, M4, p, e, Pv, gv, hD, hL⟩
  refine W1_cut (fun m' I' Mu' => ∃ it o', Mu' = [(it, o'), (ah, lstO [v] n4)] ∧ LwM ah m' I' ∧ PartIs I' v p ∧ (∃ t, m' (Str.ofString "text") = some (.str e.tx t)) ∧ (∃ t, m' (Str.ofString "following") = some (.str (Str.ofString "") t))) (W.one ?_) ?_
  · exact lw_parse X Z M4 Pv gv hD hL fun m' I' it o' a b c d => ⟨rfl, it, o', rfl, b, PartIs.mono _ _ a Pv, c, d⟩
  rintro m5 I5 Mu5 ⟨it, o', rfl, M5, Pv5, ⟨t5, ht5⟩, ⟨t6, ht6⟩⟩
  refine W1_cut (fun m' I' Mu' => Mu' = [(it, o'), (ah, lstO [v] n4)] ∧ LwM ah m' I' ∧ PartIs I' v p ∧ m' (Str.ofString "following") = some (.str (Str.ofString "") t6) ∧ ∃ aw vw kw, m' (Str.ofString "words") = some (.ref aw) ∧ (aw, lstO vw kw) ∈ I' ∧ Strs vw e.wd) ?_ ?_
  · exact lw_words X M5 gv.wf hL ht5 ht6 fun m' I' aw vw kw a b c d e f => ⟨rfl, rfl, b, PartIs.mono _ _ a Pv5, c, aw, vw, kw, d, e, f⟩
  rintro m6 I6 Mu6 ⟨rfl, M6, Pv6, ht7, aw, vw, kw, w1, w2, w3⟩
  refine W.one (W_execs_cons ?_)
  exact lw_ret X Z M6 Pv6 gv hD hL ht7 w1 w2 w3 fun m' I' Mu' => rfl

/-- law, as it is called -/
theorem law_spec {prog : Program} {w : World} {hr : Heap} {mg mb : Vm} {f p1 p2 p3 p4 p5 p6 p7 p8 dv : Addr} (D : DefAt hr 12 "law" f .none) (G : Gl mg mb p1 p2 p3 p4 p5 p6 p7 p8) (R : Rt hr mg mb) (Dp : DefAt hr 9 "_law_pair" p4 .none) (Da : DefAt hr 7 "_law_apply" p2 .none) (Db : DefAt hr 8 "_law_bracketed" p3 .none)
    (Dc : DefAt hr 10 "_law_cut" p5 .none) (Dr : DefAt hr 11 "_law_read" p6 .none) (Pa : PaD prog w hr p1 p7 p8 dv) {I : Led} {as : Addr} {sv : List Value} {ns : List Int} (hsv : ScO I as sv) (hi : Ints sv ns) (hlen : ns.length ≤ 63) :
    FSpec prog w hr 602 f [.ref as] I fun v _ => v = .bool true := by
  obtain ⟨kV, doc, pm, an, cdv, ct, D⟩ := D
  refine FSpec.intro D R (binds := [("script", .ref as)]) (ns := ["script"]) (fun s _ => BindsTo.of_eq (by with_unfolding_all rfl)) rfl (by decide +kernel) (fun v _ _ _ h => h) ?_
  intro C e1 e2 e3 hd hu hh hX hown F
  subst e1 e2 e3
  refine (law_body ⟨G, R, Dp, Da, Db, F, hh, hX, hown, by omega, by omega⟩ ⟨Pa, Dc, Dr, by omega, by omega⟩ (by rfl) hsv hi hlen).mono ?_
  rintro fl _ _ _ rfl
  exact ⟨_, rfl, rfl⟩
end
section
def fdIn (K : Frag) (f : Addr) : Option FuncData := match K.lookup f with
  | some ⟨_, _, .func fd, _⟩ => some fd
  | _ => none
def fdGet {α : Type} (K : Frag) (f : Addr) (g : FuncData → α) (d : α) : α := match fdIn K f with
  | some fd => g fd
  | none => d
def esIn (K : Frag) (a : Addr) : List DictEntry := match K.lookup a with
  | some ⟨_, _, .dict es _, _⟩ => es.toList
  | _ => []
def epIn (K : Frag) (a : Addr) : Nat := match K.lookup a with
  | some ⟨_, _, .dict _ n, _⟩ => n
  | _ => 0

/-- the def of statement i as the written heap has it -/
def DefK (K : Frag) (i : Nat) (nm : Str) (f : Addr) (dV : Value) : Prop :=
  fdIn K f = some (fnOf nm nm (paramsOf (stmtAt i)) (bodyOf (stmtAt i)) (scopeOf (stmtAt i)) dV (fdGet K f (·.kwdefaults) .none) (fdGet K f (·.doc) .none) (fdGet K f (·.pyModule) .none) (fdGet K f (·.annotations) none) (fdGet K f (·.code) .none) (fdGet K f (·.closureTuple) .none))
  ∧ codeIn K (fdGet K f (·.code) .none) nm = true
theorem defAt_of {K : Frag} {h : Heap} (X : K.In h) {i : Nat} {nm : Str} {f : Addr} {dV : Value} (d : DefK K i nm f dV) (ok : scopeOk (scopeOf (stmtAt i)) = true) : DefAt h i nm f dV := by
  obtain ⟨e, hc⟩ := d
  have ho : ∀ fd, fdIn K f = some fd → ∃ o, h.get? f = some o ∧ o.data = .func fd := by
    intro fd e
    unfold fdIn at e
    split at e
    · rename_i c dd fd' sl ho
      cases e
      exact ⟨_, X _ _ ho, rfl⟩
    · cases e
  exact ⟨_, _, _, _, _, _, ⟨ho _ e, codeRec_of X hc, rfl, rfl, rfl, rfl, rfl, ok⟩⟩

theorem find_tab : ∀ (l : List DictEntry) (tab : List (Str × Int)), l.map (fun e => (strV e.key, intV e.val)) = tab.map (fun q => (some q.1, some q.2)) → ∀ x, (tab.lookup x = none → (l.find? fun e => Value.isStrOf x e.key).map (·.val) = none) ∧ ∀ i, tab.lookup x = some i → ∃ t, (l.find? fun e => Value.isStrOf x e.key).map (·.val) = some (.int i t)
  | [], [], _, x => ⟨fun _ => rfl, fun i h => nomatch h⟩
  | [], _ :: _, h, x => by simp at h
  | _ :: _, [], h, x => by simp at h
  | e :: l, (y, i) :: tab, h, x => by
    simp only [List.map_cons, List.cons.injEq, Prod.mk.injEq] at h
    obtain ⟨⟨h1, h2⟩, h3⟩ := h
    obtain ⟨t1, k1⟩ := strV_eq h1
    obtain ⟨t2, k2⟩ := intV_eq h2
    have ih := find_tab l tab h3 x
    have hs : Value.isStrOf x e.key = (x == y) := by
      rw [k1]
      show (Value.isStrOf x (.str y t1)) = _
      simp only [Value.isStrOf]
      by_cases q : x = y
      · subst q; simp
      · have : (x == y) = false := by simpa using q
        rw [this]; simp; exact fun r => q r.symm
    rw [List.lookup_cons, List.find?_cons, hs]
    cases hxy : (x == y)
    · exact ih
    · exact ⟨(fun q => nomatch q), fun j q => by cases q; exact ⟨t2, by simp [k2]⟩⟩
theorem find_tabS : ∀ (l : List DictEntry) (tab : List (Str × Str)), l.map (fun e => (strV e.key, strV e.val)) = tab.map (fun q => (some q.1, some q.2)) → ∀ x, (tab.lookup x = none → (l.find? fun e => Value.isStrOf x e.key).map (·.val) = none) ∧ ∀ i, tab.lookup x = some i → ∃ t, (l.find? fun e => Value.isStrOf x e.key).map (·.val) = some (.str i t)
  | [], [], _, x => ⟨fun _ => rfl, fun i h => nomatch h⟩
  | [], _ :: _, h, x => by simp at h
  | _ :: _, [], h, x => by simp at h
  | e :: l, (y, i) :: tab, h, x => by
    simp only [List.map_cons, List.cons.injEq, Prod.mk.injEq] at h
    obtain ⟨⟨h1, h2⟩, h3⟩ := h
    obtain ⟨t1, k1⟩ := strV_eq h1
    obtain ⟨t2, k2⟩ := strV_eq h2
    have ih := find_tabS l tab h3 x
    have hs : Value.isStrOf x e.key = (x == y) := by
      rw [k1]
      show (Value.isStrOf x (.str y t1)) = _
      simp only [Value.isStrOf]
      by_cases q : x = y
      · subst q; simp
      · have : (x == y) = false := by simpa using q
        rw [this]; simp; exact fun r => q r.symm
    rw [List.lookup_cons, List.find?_cons, hs]
    cases hxy : (x == y)
    · exact ih
    · exact ⟨(fun q => nomatch q), fun j q => by cases q; exact ⟨t2, by simp [k2]⟩⟩

/-- what is looked up in the written heap -/
structure KOk (P : Params) (K : Frag) : Prop where
  n1 : nsIn K mainGlobals "_parse" = some (some (.ref 85))
  n2 : nsIn K mainGlobals "_law_apply" = some (some (.ref 92))
  n3 : nsIn K mainGlobals "_law_bracketed" = some (some (.ref 99))
  n4 : nsIn K mainGlobals "_law_pair" = some (some (.ref 104))
  n5 : nsIn K mainGlobals "_law_cut" = some (some (.ref 111))
  n6 : nsIn K mainGlobals "_law_read" = some (some (.ref 116))
  n7 : nsIn K mainGlobals "_binary_ops" = some (some (.ref 31))
  n8 : nsIn K mainGlobals "_c2py_ops" = some (some (.ref 77))
  n9 : nsIn K mainGlobals "law" = some (some (.ref 121))
  b1 : nsIn K mainGlobals "len" = some none
  b2 : nsIn K mainGlobals "max" = some none
  b3 : nsIn K mainGlobals "min" = some none
  b4 : nsIn K mainGlobals "next" = some none
  b5 : nsIn K mainGlobals "iter" = some none
  b6 : nsIn K mainGlobals "int" = some none
  b7 : nsIn K mainGlobals "str" = some none
  b8 : nsIn K mainGlobals "range" = some none
  d1 : DefK K 5 "_parse" 85 (.ref 78)
  d2 : DefK K 7 "_law_apply" 92 .none
  d3 : DefK K 8 "_law_bracketed" 99 .none
  d4 : DefK K 9 "_law_pair" 104 .none
  d5 : DefK K 10 "_law_cut" 111 .none
  d6 : DefK K 11 "_law_read" 116 .none
  d7 : DefK K 12 "law" 121 .none
  t0 : K.lookup 78 = some ⟨.type "tuple", none, .seq #[.int (-1) 267] 0, #[]⟩
  t1 : K.lookup 31 = some ⟨.type "dict", none, .dict (esIn K 31).toArray (epIn K 31), #[]⟩
  t2 : KeysLit P (esIn K 31)
  t3 : (esIn K 31).map (fun e => (strV e.key, intV e.val)) = opTab.map (fun q => (some q.1, some q.2))
  t4 : K.lookup 77 = some ⟨.type "dict", none, .dict (esIn K 77).toArray (epIn K 77), #[]⟩
  t5 : KeysLit P (esIn K 77)
  t6 : (esIn K 77).map (fun e => (strV e.key, strV e.val)) = c2Tab.map (fun q => (some q.1, some q.2))

theorem law_join {prog : Program} {w : World} {h : Heap} {K : Frag} {mg mb : Vm} (ok : KOk w.params K) (X : K.In h) (R : Rt h mg mb) (hb : ∀ x : Str, x ≠ "__name__" → mb x = bootBuiltins x) {I : Led} {as : Addr} {sv : List Value} {ns : List Int} (hsv : ScO I as sv) (hi : Ints sv ns) (hlen : ns.length ≤ 63) :
    mg "law" = some (.ref 121) ∧ FSpec prog w h 602 121 [.ref as] I fun v _ => v = .bool true := by
  refine ⟨mg_of X R.g ok.n9, ?_⟩
  have G : Gl mg mb 85 92 99 104 111 116 31 77 := {
    parse := mg_of X R.g ok.n1
    apply := mg_of X R.g ok.n2
    br := mg_of X R.g ok.n3
    pair := mg_of X R.g ok.n4
    cut := mg_of X R.g ok.n5
    read := mg_of X R.g ok.n6
    ops := mg_of X R.g ok.n7
    c2 := mg_of X R.g ok.n8
    len := ⟨mg_none_of X R.g ok.b1, (hb _ (by decide +kernel)).trans (by decide +kernel)⟩
    max := ⟨mg_none_of X R.g ok.b2, (hb _ (by decide +kernel)).trans (by decide +kernel)⟩
    min := ⟨mg_none_of X R.g ok.b3, (hb _ (by decide +kernel)).trans (by decide +kernel)⟩
    next := ⟨mg_none_of X R.g ok.b4, (hb _ (by decide +kernel)).trans (by decide +kernel)⟩
    iter := ⟨mg_none_of X R.g ok.b5, (hb _ (by decide +kernel)).trans (by decide +kernel)⟩
    int := ⟨mg_none_of X R.g ok.b6, (hb _ (by decide +kernel)).trans (by decide +kernel)⟩
    str := ⟨mg_none_of X R.g ok.b7, (hb _ (by decide +kernel)).trans (by decide +kernel)⟩
    range := ⟨mg_none_of X R.g ok.b8, (hb _ (by decide +kernel)).trans (by decide +kernel)⟩ }
  have Pa : PaD prog w h 85 31 77 78 := {
    D := defAt_of X ok.d1 (by decide +kernel)
    dft := ⟨_, _, _, X _ _ ok.t0, rfl⟩
    ops := ⟨_, mapOf_K X ok.t1 (by simpa using ok.t2), fun x => by
      have := find_tab _ _ ok.t3 x
      show (opTab.lookup x = none → _) ∧ _
      unfold findBy
      rw [List.find?_toArray]
      exact this⟩
    c2 := ⟨_, mapOf_K X ok.t4 (by simpa using ok.t5), fun x => by
      have := find_tabS _ _ ok.t6 x
      unfold findBy
      rw [List.find?_toArray]
      exact this⟩
    s7 := by decide +kernel
    s8 := by decide +kernel }
  exact law_spec (defAt_of X ok.d7 (by decide +kernel)) G R (defAt_of X ok.d4 (by decide +kernel)) (defAt_of X ok.d2 (by decide +kernel)) (defAt_of X ok.d3 (by decide +kernel)) (defAt_of X ok.d5 (by decide +kernel)) (defAt_of X ok.d6 (by decide +kernel)) Pa hsv hi hlen
end
section
def fnO (i : Nat) (nm : String) (dV : Value) (md : String) (tk : Tok) (cd : Addr) : Obj :=
  { cls := .type "function", data := .func (fnOf (Str.ofString nm) (Str.ofString nm) (paramsOf (stmtAt i)) (bodyOf (stmtAt i)) (scopeOf (stmtAt i)) dV .none .none (.str (Str.ofString md) tk) none (.ref cd) .none) }
/-- what is asked of the heap that the text leaves behind -/
def KK (P : Params) : Frag :=
  [(3, { cls := Value.type "dict", data := Data.dict #[{ hash := PyData.keyHash P (Str.ofString "__name__"), key := Value.str (Str.ofString "__name__") 165, val := Value.str (Str.ofString "law_dm0127_12") 286 }, { hash := PyData.keyHash P (Str.ofString "__doc__"), key := Value.str (Str.ofString "__doc__") 166, val := Value.none }, { hash := PyData.keyHash P (Str.ofString "__package__"), key := Value.str (Str.ofString "__package__") 167, val := Value.none }, { hash := PyData.keyHash P (Str.ofString "__loader__"), key := Value.str (Str.ofString "__loader__") 168, val := Value.builtin "__main__.__loader__#opaque" }, { hash := PyData.keyHash P (Str.ofString "__spec__"), key := Value.str (Str.ofString "__spec__") 169, val := Value.none }, { hash := PyData.keyHash P (Str.ofString "__annotations__"), key := Value.str (Str.ofString "__annotations__") 170, val := Value.ref 6 }, { hash := PyData.keyHash P (Str.ofString "__builtins__"), key := Value.str (Str.ofString "__builtins__") 171, val := Value.ref 4 }, { hash := PyData.keyHash P (Str.ofString "__file__"), key := Value.str (Str.ofString "__file__") 173, val := Value.str (Str.ofString "/claim/cut.py") 172 }, { hash := PyData.keyHash P (Str.ofString "__cached__"), key := Value.str (Str.ofString "__cached__") 174, val := Value.none }, { hash := PyData.keyHash P (Str.ofString "_error"), key := Value.str (Str.ofString "_error") 195, val := Value.ref 21 }, { hash := PyData.keyHash P (Str.ofString "_binary_ops"), key := Value.str (Str.ofString "_binary_ops") 209, val := Value.ref 31 }, { hash := PyData.keyHash P (Str.ofString "_c2py_ops"), key := Value.str (Str.ofString "_c2py_ops") 265, val := Value.ref 77 }, { hash := PyData.keyHash P (Str.ofString "_parse"), key := Value.str (Str.ofString "_parse") 285, val := Value.ref 85 }, { hash := PyData.keyHash P (Str.ofString "_law_apply"), key := Value.str (Str.ofString "_law_apply") 296, val := Value.ref 92 }, { hash := PyData.keyHash P (Str.ofString "_law_bracketed"), key := Value.str (Str.ofString "_law_bracketed") 303, val := Value.ref 99 }, { hash := PyData.keyHash P (Str.ofString "_law_pair"), key := Value.str (Str.ofString "_law_pair") 309, val := Value.ref 104 }, { hash := PyData.keyHash P (Str.ofString "_law_cut"), key := Value.str (Str.ofString "_law_cut") 321, val := Value.ref 111 }, { hash := PyData.keyHash P (Str.ofString "_law_read"), key := Value.str (Str.ofString "_law_read") 327, val := Value.ref 116 }, { hash := PyData.keyHash P (Str.ofString "law"), key := Value.str (Str.ofString "law") 333, val := Value.ref 121 }] 19 }),
   (31, { cls := Value.type "dict", data := Data.dict #[{ hash := PyData.keyHash P (Str.ofString "||"), key := Value.str (Str.ofString "||") 196, val := Value.int 1 211 }, { hash := PyData.keyHash P (Str.ofString "&&"), key := Value.str (Str.ofString "&&") 197, val := Value.int 2 216 }, { hash := PyData.keyHash P (Str.ofString "=="), key := Value.str (Str.ofString "==") 198, val := Value.int 3 221 }, { hash := PyData.keyHash P (Str.ofString "!="), key := Value.str (Str.ofString "!=") 199, val := Value.int 3 221 }, { hash := PyData.keyHash P (Str.ofString "<"), key := Value.str (Str.ofString "<") 200, val := Value.int 4 228 }, { hash := PyData.keyHash P (Str.ofString ">"), key := Value.str (Str.ofString ">") 201, val := Value.int 4 228 }, { hash := PyData.keyHash P (Str.ofString "<="), key := Value.str (Str.ofString "<=") 202, val := Value.int 4 228 }, { hash := PyData.keyHash P (Str.ofString ">="), key := Value.str (Str.ofString ">=") 203, val := Value.int 4 228 }, { hash := PyData.keyHash P (Str.ofString "+"), key := Value.str (Str.ofString "+") 204, val := Value.int 5 239 }, { hash := PyData.keyHash P (Str.ofString "-"), key := Value.str (Str.ofString "-") 205, val := Value.int 5 239 }, { hash := PyData.keyHash P (Str.ofString "*"), key := Value.str (Str.ofString "*") 206, val := Value.int 6 246 }, { hash := PyData.keyHash P (Str.ofString "/"), key := Value.str (Str.ofString "/") 207, val := Value.int 6 246 }, { hash := PyData.keyHash P (Str.ofString "%"), key := Value.str (Str.ofString "%") 208, val := Value.int 6 246 }] 13 }),
   (77, { cls := Value.type "dict", data := Data.dict #[{ hash := PyData.keyHash P (Str.ofString "||"), key := Value.str (Str.ofString "||") 256, val := Value.str (Str.ofString "or") 257 }, { hash := PyData.keyHash P (Str.ofString "&&"), key := Value.str (Str.ofString "&&") 258, val := Value.str (Str.ofString "and") 259 }, { hash := PyData.keyHash P (Str.ofString "/"), key := Value.str (Str.ofString "/") 260, val := Value.str (Str.ofString "//") 261 }] 3 }),
   (78, { cls := Value.type "tuple", data := Data.seq #[Value.int (-1) 267] }),
   (84, { cls := Value.type "code", data := Data.fields #[Value.str (Str.ofString "_parse") 268, Value.str (Str.ofString "_parse") 269, Value.str (Str.ofString "/claim/cut.py") 270, Value.int 10 0, Value.int 2 0, Value.int 0 0, Value.int 0 0, Value.int 3 0, Value.ref 79, Value.bool true, Value.int 181 0, Value.ref 80, Value.none, Value.ref 81, Value.ref 82, Value.ref 83, Value.int 283 0, Value.int 10 0, Value.str (Str.ofString "/claim/cut.py") 284] }),
   (91, { cls := Value.type "code", data := Data.fields #[Value.str (Str.ofString "_law_apply") 288, Value.str (Str.ofString "_law_apply") 289, Value.str (Str.ofString "/claim/cut.py") 290, Value.int 53 0, Value.int 3 0, Value.int 0 0, Value.int 0 0, Value.int 3 0, Value.ref 86, Value.bool true, Value.int 181 0, Value.ref 87, Value.none, Value.ref 88, Value.ref 89, Value.ref 90, Value.int 294 0, Value.int 53 0, Value.str (Str.ofString "/claim/cut.py") 295] }),
   (98, { cls := Value.type "code", data := Data.fields #[Value.str (Str.ofString "_law_bracketed") 297, Value.str (Str.ofString "_law_bracketed") 298, Value.str (Str.ofString "/claim/cut.py") 299, Value.int 65 0, Value.int 1 0, Value.int 0 0, Value.int 0 0, Value.int 3 0, Value.ref 93, Value.bool true, Value.int 181 0, Value.ref 94, Value.none, Value.ref 95, Value.ref 96, Value.ref 97, Value.int 301 0, Value.int 65 0, Value.str (Str.ofString "/claim/cut.py") 302] }),
   (103, { cls := Value.type "code", data := Data.fields #[Value.str (Str.ofString "_law_pair") 304, Value.str (Str.ofString "_law_pair") 305, Value.str (Str.ofString "/claim/cut.py") 306, Value.int 67 0, Value.int 3 0, Value.int 0 0, Value.int 0 0, Value.int 3 0, Value.ref 100, Value.bool true, Value.int 181 0, Value.ref 101, Value.none, Value.none, Value.none, Value.ref 102, Value.int 307 0, Value.int 67 0, Value.str (Str.ofString "/claim/cut.py") 308] }),
   (110, { cls := Value.type "code", data := Data.fields #[Value.str (Str.ofString "_law_cut") 310, Value.str (Str.ofString "_law_cut") 311, Value.str (Str.ofString "/claim/cut.py") 312, Value.int 80 0, Value.int 2 0, Value.int 0 0, Value.int 0 0, Value.int 3 0, Value.ref 105, Value.bool true, Value.int 181 0, Value.ref 106, Value.none, Value.ref 107, Value.ref 108, Value.ref 109, Value.int 319 0, Value.int 80 0, Value.str (Str.ofString "/claim/cut.py") 320] }),
   (115, { cls := Value.type "code", data := Data.fields #[Value.str (Str.ofString "_law_read") 322, Value.str (Str.ofString "_law_read") 323, Value.str (Str.ofString "/claim/cut.py") 324, Value.int 90 0, Value.int 2 0, Value.int 0 0, Value.int 0 0, Value.int 3 0, Value.ref 112, Value.bool true, Value.int 181 0, Value.ref 113, Value.none, Value.none, Value.none, Value.ref 114, Value.int 325 0, Value.int 90 0, Value.str (Str.ofString "/claim/cut.py") 326] }),
   (120, { cls := Value.type "code", data := Data.fields #[Value.str (Str.ofString "law") 328, Value.str (Str.ofString "law") 329, Value.str (Str.ofString "/claim/cut.py") 330, Value.int 117 0, Value.int 1 0, Value.int 0 0, Value.int 0 0, Value.int 3 0, Value.ref 117, Value.bool true, Value.int 181 0, Value.ref 118, Value.none, Value.none, Value.none, Value.ref 119, Value.int 331 0, Value.int 117 0, Value.str (Str.ofString "/claim/cut.py") 332] }),
   (85, fnO 5 "_parse" (.ref 78) "cpy313.gettext" 187 84),
   (92, fnO 7 "_law_apply" (.none) "law_dm0127_12" 286 91),
   (99, fnO 8 "_law_bracketed" (.none) "law_dm0127_12" 286 98),
   (104, fnO 9 "_law_pair" (.none) "law_dm0127_12" 286 103),
   (111, fnO 10 "_law_cut" (.none) "law_dm0127_12" 286 110),
   (116, fnO 11 "_law_read" (.none) "law_dm0127_12" 286 115),
   (121, fnO 12 "law" (.none) "law_dm0127_12" 286 120)]
def hk : Hook := kHook KK [3, 31, 77, 78, 84, 91, 98, 103, 110, 115, 120, 85, 92, 99, 104, 111, 116, 121] (fun P => rfl)
def vq : Program := { PySem.Challenge.pw_dm0127_12 with main := { PySem.Challenge.pw_dm0127_12.main with body := [stmtAt 0, stmtAt 1, stmtAt 6, stmtAt 7, stmtAt 8, stmtAt 9, stmtAt 10, stmtAt 11, stmtAt 12] } }
def lsN : List Str := [Str.ofString "_binary_ops", Str.ofString "_c2py_ops", Str.ofString "_parse"]
def xtN (s : Shared) : Bool := xlAt vq [] s && recOk (RowW.records PySem.Challenge.rw_dm0127_12.row.toRowW) s
def SeenN (w : World) : Prop := (openEnds treeTable PySem.Challenge.pw_dm0127_12 w 3682).map (fun s => (openSeen vq lsN (importedModules PySem.Challenge.pw_dm0127_12.main.body) xtN true s, Hook.obs hk s)) = some (openGood vq lsN, Hook.val hk w)
theorem saidN : PySem.Challenge.rw_dm0127_12.wellSaid = true := by kernel_rfl
set_option maxHeartbeats 8000000 in
theorem seen00 (w : World) : SeenN ((w.withFollow "special-get-raises" false).withFollow "comprehension-iter-twice" false) := by unfold SeenN; kernel_rfl
set_option maxHeartbeats 8000000 in
theorem seen01 (w : World) : SeenN ((w.withFollow "special-get-raises" true).withFollow "comprehension-iter-twice" false) := by unfold SeenN; kernel_rfl
set_option maxHeartbeats 8000000 in
theorem seen10 (w : World) : SeenN ((w.withFollow "special-get-raises" false).withFollow "comprehension-iter-twice" true) := by unfold SeenN; kernel_rfl
set_option maxHeartbeats 8000000 in
theorem seen11 (w : World) : SeenN ((w.withFollow "special-get-raises" true).withFollow "comprehension-iter-twice" true) := by unfold SeenN; kernel_rfl
theorem seenN : ∀ w, SeenN w := byRow2 "comprehension-iter-twice" (byRow2 "special-get-raises" (P := fun w => SeenN (w.withFollow "comprehension-iter-twice" false)) seen00 seen01) (byRow2 "special-get-raises" (P := fun w => SeenN (w.withFollow "comprehension-iter-twice" true)) seen10 seen11)
theorem kk_ok (P : Params) : KOk P (KK P) := by
  refine ⟨by kernel_rfl, by kernel_rfl, by kernel_rfl, by kernel_rfl, by kernel_rfl, by kernel_rfl, by kernel_rfl, by kernel_rfl, by kernel_rfl, by kernel_rfl, by kernel_rfl, by kernel_rfl, by kernel_rfl, by kernel_rfl, by kernel_rfl, by kernel_rfl, by kernel_rfl,
    ⟨by kernel_rfl, by kernel_rfl⟩, ⟨by kernel_rfl, by kernel_rfl⟩, ⟨by kernel_rfl, by kernel_rfl⟩, ⟨by kernel_rfl, by kernel_rfl⟩, ⟨by kernel_rfl, by kernel_rfl⟩, ⟨by kernel_rfl, by kernel_rfl⟩, ⟨by kernel_rfl, by kernel_rfl⟩,
    by kernel_rfl, by kernel_rfl, ?_, by kernel_rfl, by kernel_rfl, ?_, by kernel_rfl⟩
  · exact ⟨⟨_, _, rfl, rfl⟩, ⟨_, _, rfl, rfl⟩, ⟨_, _, rfl, rfl⟩, ⟨_, _, rfl, rfl⟩, ⟨_, _, rfl, rfl⟩, ⟨_, _, rfl, rfl⟩, ⟨_, _, rfl, rfl⟩, ⟨_, _, rfl, rfl⟩, ⟨_, _, rfl, rfl⟩, ⟨_, _, rfl, rfl⟩, ⟨_, _, rfl, rfl⟩, ⟨_, _, rfl, rfl⟩, ⟨_, _, rfl, rfl⟩, trivial⟩
  · exact ⟨⟨_, _, rfl, rfl⟩, ⟨_, _, rfl, rfl⟩, ⟨_, _, rfl, rfl⟩, trivial⟩
end
end Mine
end
set_option maxHeartbeats 8000000 in
theorem PySem.Challenge.cw_dm0127_12_holds : PySem.Challenge.rw_dm0127_12.Holds := by
  refine PySem.W.holds_law Mine.saidN fun said => ?_
  refine PySem.W.holds_open (q := Mine.vq) (loose := Mine.lsN) (Xt := Mine.xtN) (XP := XL Mine.vq []) (Yf := Hook.obs Mine.hk) (Ya := Hook.val Mine.hk) (YP := Hook.says Mine.hk) (N := 3682) Mine.seenN (Hook.of Mine.hk) (Hook.keeps Mine.hk) (fun s e => xl_of s (Bool.and_eq_true_iff.mp e).1) XL.keeps (by rfl) (by rfl) (by rfl) (fun s e => recFacts_of (Bool.and_eq_true_iff.mp e).2) (by rfl) said (by decide +kernel) ⟨rfl, rfl, rfl, rfl, rfl, by decide +kernel⟩ ?hw ?hc
  case hw => w_witness2
  case hc =>
  intro w s₀ s₁ mg mb G Y fa o pm cd doc dV kV ho hd hcd hD hmg hg args vals as hpre hlay hrd hwl hlo
  have KX : (Mine.KK w.params).In s₁.heap := Y
  have T := G.T
  clear ho hd hcd hD G Y
  wrow_args hpre hlay hrd hwl hlo
  rename_i ns _ _ _ _ _ _ _ al vs _ hL _ _ _ hI _ hlen _
  obtain ⟨ol, hol, hc, kk, hdat⟩ := hL
  have R : Mine.Rt s₁.heap mg mb := ⟨T.g, T.b, T.nolimit, T.nodigits⟩
  obtain ⟨J1, J2⟩ := Mine.law_join (prog := PySem.Challenge.rw_dm0127_12.row.prog) (w := w) (I := [(al, ol)]) (as := al) (sv := vs) (ns := ns) (Mine.kk_ok w.params) KX R T.builtins ⟨ol, kk, List.mem_singleton.mpr rfl, hc, hdat⟩ (Mine.ints_of hI) (by omega)
  have e : fa = 121 := Value.ref.inj (Option.some.inj (hmg.symm.trans J1))
  clear KX T hmg J1 R
  subst e
  refine wpAny_mono (J2 callerA s₁ (fun _ _ => False) rfl (by decide) (by decide) (fun _ _ e => e) (fun p hp => by rw [List.mem_singleton.mp hp]; exact hol)) ?_ (fun _ _ q => q.elim)
  rintro v s' ⟨h', tk', J, rfl, hk, _, rfl⟩
  refine GoodW.toG ⟨.inl ⟨.bool true, .bool true, [], rfl, fun _ => rfl, .bool true, ?post, fun _ => ⟨.nil, fun a ha => nomatch ha⟩⟩, hk, rfl, hg⟩
  kernel_rfl

