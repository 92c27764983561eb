import PyProof.Rows.All
import PyProof.GenObj
import Wide.All
import OpenK.AllK
import Wide.FinOn
import PySem.Challenge.RW_fi0013_01
set_option Elab.async false
set_option linter.all false
/-! part Hd -/
section
open PySem PySem.W PyProof.Rows
namespace Mine
set_option maxRecDepth 100000 in
set_option maxHeartbeats 8000000 in
open_top hd for PySem.Challenge.rw_fi0013_01
end Mine
end
/-! part M1 -/
section
open PySem PySem.W PyProof.Rows PySem.Spec PySem.Calls
set_option maxRecDepth 100000
set_option maxHeartbeats 1000000
namespace Mine

abbrev View := Addr → Obj → Prop
def hv (h : Heap) : View := fun a o => h.get? a = some o
def hvx (own : List Addr) (h : Heap) : View := fun a o => a ∉ own ∧ h.get? a = some o
def vle (G G' : View) : Prop := ∀ a o, G a o → G' a o

theorem keeps_refl (s : Shared) : Keeps s s := ⟨s.heap, s.toks, rfl, fun _ _ e => e⟩
theorem keeps_trans {s s' s'' : Shared} : Keeps s s' → Keeps s' s'' → Keeps s s''
  | ⟨_, _, e, k⟩, ⟨_, _, e', k'⟩ => by subst e; subst e'; exact ⟨_, _, rfl, fun b o q => k' b o (k b o q)⟩

section
variable {prog : Program} {w : World} {A : Around} {R : Result → Shared → Prop} {s : Shared}

/-- what a turn of a comprehension leaves: all but its own addresses stands -/
structure TurnEnd (own : List Addr) (Ok : Heap → Prop) (s s' : Shared) : Prop where
  eq : ∃ h' tk, s' = { s with heap := h', toks := tk } ∧ s.toks ≤ tk
  keep : ∀ b o, b ∉ own → s.heap.get? b = some o → s'.heap.get? b = some o
  ok : Ok s'.heap

theorem loop1 {elt target iter : Expr} {ifs : List Expr} {scope : Scope} {pos : Pos} {I D : Addr} {fp wr : List Addr} {G : Array GenState → Array GenState → Prop} {n : Nat} {P : Nat → Value → Prop} {St : Nat → Shared → Prop}
    {cenv : Env} {own : List Addr} {Ok : Heap → Prop} (W : WalksS prog w A I fp wr G n P St)
    (Inv : Nat → List Value → View → Prop)
    (hmono : ∀ j ys G G', vle G G' → Inv j ys G → Inv j ys G') (hlen : ∀ j ys G, Inv j ys G → ys.length ≤ j)
    (hOk : ∀ h h', Ok h → (∀ b ∈ own, ∀ o, h.get? b = some o → h'.get? b = some o) → Ok h')
    (hDo : D ∉ own) (hDf : D ∉ fp) (hof : ∀ b ∈ own, b ∉ fp)
    (hst : St 0 s) (hacc : s.heap.PlainList D #[]) (hn : Ok s.heap) (h0 : Inv 0 [] (hvx (D :: own ++ wr) s.heap))
    (turn : ∀ j v (ys : List Value) s₃, j < n → P j v → St (j + 1) s₃ → Ok s₃.heap → s₃.heap.PlainList D ys.toArray → Moved (D :: own ++ wr) G s s₃ → Inv j ys (hvx (D :: own ++ wr) s₃.heap) →
      wpAny (model prog w) A (assign target cenv v) (fun _ s₄ =>
        wpAny (model prog w) A (forIn ifs true fun c r => if r = true then do let ok ← isTrue c cenv (eval c cenv); pure (ForInStep.yield ok) else pure (ForInStep.yield r)) (fun ok s₅ =>
          if ok = true then wpAny (model prog w) A (eval elt cenv) (fun y s₆ => TurnEnd own Ok s₃ s₆ ∧ Inv (j + 1) (ys ++ [y]) (hvx (D :: own ++ wr) s₆.heap)) (notedBy (model prog w) A cenv fun e s' => R (.error e) s') s₅
          else TurnEnd own Ok s₃ s₅ ∧ Inv (j + 1) ys (hvx (D :: own ++ wr) s₅.heap)) (notedBy (model prog w) A cenv fun e s' => R (.error e) s') s₄) (notedBy (model prog w) A cenv fun e s' => R (.error e) s') s₃)
    (hR : ∀ s' (ys : List Value), Ok s'.heap → s'.heap.PlainList D ys.toArray → Inv n ys (hvx (D :: own ++ wr) s'.heap) → Moved (D :: own ++ wr) G s s' → R (.ok .next) s')
    (ht : ∀ v, letOwnedTupleGo target (.ref I) v = pure () := by intro _; rfl)
    (hsz : n ≤ sizeLine := by size_fits) :
    codeAny (model prog w) A (.compLoop (.ListComp elt [⟨target, iter, ifs, 0⟩] scope pos) 0 (.ref I) (.ref D) cenv) R s := by
  refine codeAny_compLoop_tests
    (fun k s' => ∃ j, ∃ ys : List Value, j ≤ n ∧ k = n + 1 - j ∧ St j s' ∧ s'.heap.PlainList D ys.toArray ∧ Ok s'.heap ∧ Inv j ys (hvx (D :: own ++ wr) s'.heap) ∧ Moved (D :: own ++ wr) G s s') ?_ (n + 1)
    ⟨0, [], Nat.zero_le _, rfl, hst, hacc, hn, h0, Moved.refl W.grefl⟩ ht
  rintro k s' ⟨j, ys, hj, rfl, hst', hacc', hn', hI, hM⟩
  have hDw : D ∉ wr := fun h => hDf (W.sub _ h)
  have how : ∀ b ∈ own, b ∉ wr := fun b hb h => hof b hb (W.sub _ h)
  have hwsub : ∀ b ∈ wr, b ∈ (D :: own ++ wr) := fun b hb => List.mem_append_right _ hb
  by_cases hlt : j < n
  · refine W.item j s' _ _ hlt hst' fun v s₁ hPv hst₁ hM₁ => ?_
    have hM₁' : Moved (D :: own ++ wr) G s s₁ := hM.trans W.gtrans (hM₁.mono hwsub)
    have hn₁ : Ok s₁.heap := hOk _ _ hn' fun b hb o e => hM₁.heap b o (how b hb) e
    have hI₁ : Inv j ys (hvx (D :: own ++ wr) s₁.heap) := hmono _ _ _ _ (fun a o e => ⟨e.1, hM₁.heap a o (fun h => e.1 (hwsub a h)) e.2⟩) hI
    have fin : ∀ s₆ ys', TurnEnd (D :: own) Ok s₁ s₆ → s₆.heap.PlainList D ys'.toArray → Inv (j + 1) ys' (hvx (D :: own ++ wr) s₆.heap) →
        ∃ m, m < n + 1 - j ∧ ∃ j', ∃ ys : List Value, j' ≤ n ∧ m = n + 1 - j' ∧ St j' s₆ ∧ s₆.heap.PlainList D ys.toArray ∧ Ok s₆.heap ∧ Inv j' ys (hvx (D :: own ++ wr) s₆.heap) ∧ Moved (D :: own ++ wr) G s s₆ := by
      intro s₆ ys' te ha hi
      obtain ⟨⟨h', tk, rfl, htk⟩, hk, hok⟩ := te
      refine ⟨n + 1 - (j + 1), by omega, j + 1, ys', hlt, rfl, ?_, ha, hok, hi, ?_⟩
      · exact W.frame _ _ _ _ hst₁ htk fun b hb o e => hk b o (fun h => by rcases List.mem_cons.mp h with rfl | h; exact hDf hb; exact hof b h hb) e
      · exact hM₁'.then_heap htk fun b o hb e => hk b o (fun h => hb (List.mem_append_left _ h)) e
    have hacc₁ : s₁.heap.PlainList D ys.toArray := hacc'.at fun o e => hM₁.heap D o hDw e
    refine wpAny_mono (turn j v ys s₁ hlt hPv hst₁ hn₁ hacc₁ hM₁' hI₁) (fun _ s₄ h₄ => wpAny_mono h₄ (fun ok s₅ h₅ => ?_) fun _ _ e => e) fun _ _ e => e
    cases ok with
    | false =>
      simp only [Bool.false_eq_true, if_false] at h₅ ⊢
      exact fin s₅ ys ⟨h₅.1.eq, fun b o hb => h₅.1.keep b o (fun h => hb (List.mem_cons_of_mem _ h)), h₅.1.ok⟩ (hacc₁.at fun o e => h₅.1.keep D o hDo e) h₅.2
    | true =>
      simp only [if_true] at h₅ ⊢
      refine wpAny_mono h₅ (fun y s₆ h₆ => ?_) fun _ _ e => e
      obtain ⟨te, hi⟩ := h₆
      have hlen' := hlen _ _ _ hI
      refine wpAny_list_append_plain (hsz := by simp; omega) (hacc₁.at fun o e => te.keep D o hDo e) fun h₇ hl₇ hs₇ => ?_
      refine fin { s₆ with heap := h₇ } (ys ++ [y]) ⟨?_, fun b o hb e => ?_, ?_⟩ (by simpa using hl₇) ?_
      · obtain ⟨h', tk, rfl, htk⟩ := te.eq; exact ⟨_, _, rfl, htk⟩
      · exact hs₇.extBut b o (fun h => hb (h ▸ List.mem_cons_self ..)) (te.keep b o (fun h => hb (List.mem_cons_of_mem _ h)) e)
      · exact hOk _ _ te.ok fun b hb o e => hs₇.extBut b o (fun h => hDo (h ▸ hb)) e
      · exact hmono _ _ _ _ (fun a o e => ⟨e.1, hs₇.extBut a o (fun h => e.1 (h ▸ List.mem_cons_self ..)) e.2⟩) hi
  · have hin : j = n := by omega
    subst hin
    refine W.done s' _ _ hst' fun s₁ hM₁ => ?_
    exact hR s₁ ys (hOk _ _ hn' fun b hb o e => hM₁.heap b o (how b hb) e) (hacc'.at fun o e => hM₁.heap D o hDw e)
      (hmono _ _ _ _ (fun a o e => ⟨e.1, hM₁.heap a o (fun h => e.1 (hwsub a h)) e.2⟩) hI) (hM.trans W.gtrans (hM₁.mono hwsub))
end
end Mine
end
/-! part M2 -/
section
open PySem PySem.W PyProof.Rows PySem.Spec PySem.Calls
set_option maxRecDepth 100000
set_option maxHeartbeats 1000000
namespace Mine

section
variable {M : Model} {A : Around} {E : Value → Shared → Prop} {s : Shared} {env : Env}
theorem newEnv_comp {scope : Scope} {g : Addr} {cl : List (Str × Addr)} {qual : Str} {Q : Env → Shared → Prop}
    (h : Q (newEnv scope s.heap.objs.size g (cellsFrom (s.heap.objs.size + 1) scope.names cl) qual none .none (some env) builtinsNs)
      { s with heap := pushCells (s.heap.push { cls := .type "dict", data := .dict #[] }) scope.names }) :
    wpAny M A (newFunctionEnv scope g cl [] qual none .none (some env)) Q E s := by
  simp only [newFunctionEnv, Option.isSome_some, if_true]
  refine wpAny_bind (wpAny_alloc ?_)
  refine wpAny_bind (wpAny_layCells _ (fun name kind cells => by cases hkc : kind == NameKind.cell <;> simp [hkc]) _ _ _ _ ?_)
  rw [show ({ s with heap := s.heap.push { cls := .type "dict", data := .dict #[] } } : Shared).heap.objs.size = s.heap.objs.size + 1 from Heap.size_push ..]
  exact wpAny_bind (wpAny_pure (wpAny_pure h))
end

def compEnvK (scope : Scope) (cl : List (Str × Addr)) (C : Addr) (env : Env) : Env :=
  { scope := relabel scope env, locals := C, globals := env.globals, cells := cl, qual := env.qual, func := none, code := env.code, frame := env.frame, builtins := env.builtins }

theorem ns_of_same {h h' : Heap} {a : Addr} {m : Str → Option Value} (x : h.Ns a m) (hk : ∀ o, h.get? a = some o → h'.get? a = some o) : h'.Ns a m := x.at' hk

section
variable {prog : Program} {w : World} {A : Around} {E : Value → Shared → Prop} {s : Shared} {env : Env}

/-- own addresses of a comprehension without cells: its locals -/
theorem comp1L {elt iter : Expr} {x : Str} {px : Pos} {ifs : List Expr} {scope : Scope} {pos : Pos} {cl : List (Str × Addr)} {Q : Value → Shared → Prop}
    (hclos : closureFor scope env = pure cl) (hpc : ∀ h, pushCells h scope.names = h) (hcf : ∀ n, cellsFrom n scope.names cl = cl)
    (hkind : scope.kind = .function) (hnames : ∀ y ∈ scope.names, y.2 = .local → scope.names.lookup y.1 = some .local) (hx : scope.names.lookup x = some .local)
    (h : wpAny (model prog w) A (eval iter env) (fun xv s₁ => wpAny (model prog w) A (pyIter xv) (fun it s₂ =>
      ∃ I fp wr G n P St, it = .ref I ∧ WalksS prog w A I fp wr G n P St ∧ n ≤ sizeLine ∧ St 0 s₂ ∧ (∀ b ∈ fp, b < s₂.heap.objs.size) ∧ (∀ i s', St i s' → ∀ b ∈ wr, ∃ o, s'.heap.get? b = some o) ∧
      ∃ Inv : Nat → List Value → View → Prop, (∀ j ys G G', vle G G' → Inv j ys G → Inv j ys G') ∧ (∀ j ys G, Inv j ys G → ys.length ≤ j) ∧ Inv 0 [] (hvx wr s₂.heap) ∧
      (∀ C D j v ys s₃ m₃ E', s₂.heap.objs.size ≤ C → s₂.heap.objs.size ≤ D → (∀ b ∈ D :: C :: wr, ∃ o, s₃.heap.get? b = some o) → j < n → P j v → s₃.heap.Ns C m₃ → m₃ x = some v → Moved wr G s₂ s₃ → Inv j ys (hvx (D :: C :: wr) s₃.heap) →
        wpAny (model prog w) A (forIn ifs true fun c r => if r = true then do let ok ← isTrue c (compEnvK scope cl C env) (eval c (compEnvK scope cl C env)); pure (ForInStep.yield ok) else pure (ForInStep.yield r)) (fun ok s₅ =>
          if ok = true then wpAny (model prog w) A (eval elt (compEnvK scope cl C env)) (fun y s₆ => Keeps s₃ s₆ ∧ Inv (j + 1) (ys ++ [y]) (hvx (D :: C :: wr) s₆.heap)) E' s₅
          else Keeps s₃ s₅ ∧ Inv (j + 1) ys (hvx (D :: C :: wr) s₅.heap)) E' s₃) ∧
      (∀ D C s' ys, s₂.heap.objs.size ≤ D → s₂.heap.objs.size ≤ C → D ≠ C → s'.heap.PlainList D ys.toArray → Inv n ys (hvx (D :: C :: wr) s'.heap) → Moved wr G s₂ s' → Q (.ref D) s')) E s₁) E s)
    (hs : ∀ x, foldedSetIterable iter env x = pure x := by intro _; rfl) :
    wpAny (model prog w) A (eval (.ListComp elt [⟨.Name x px, iter, ifs, 0⟩] scope pos) env) Q E s := by
  rw [eval_ListComp]
  refine wpAny_comprehension_free (use := none) rfl hs hclos hkind hnames (wpAny_mono h (fun xv s₁ h₁ => wpAny_mono h₁ (fun it s₂ h₂ => ?_) fun _ _ e => e) fun _ _ e => e)
  obtain ⟨I, fp, wr, G, n, P, St, rfl, W, hsz, hst, hfp, hlive, Inv, hmono, hlen, h0, turn, hfin⟩ := h₂
  refine wpAny_newObj_type ?_
  refine newEnv_comp ?_
  simp only [hpc, hcf, newEnv]
  generalize hH2 : s₂.heap.push { cls := .type "list", dict := none, data := .seq ([] : List Value).toArray } = H2
  have hC : H2.objs.size = s₂.heap.objs.size + 1 := by rw [← hH2, Heap.size_push]
  have hDC : s₂.heap.objs.size ≠ H2.objs.size := by rw [hC]; exact Nat.ne_of_lt (Nat.lt_succ_self _)
  have below : ∀ b, b < s₂.heap.objs.size → b ≠ H2.objs.size ∧ b ≠ s₂.heap.objs.size := fun b hb => ⟨by rw [hC]; exact Nat.ne_of_lt (Nat.lt_succ_of_lt hb), Nat.ne_of_lt hb⟩
  have hDf : s₂.heap.objs.size ∉ fp := fun hm => Nat.lt_irrefl _ (hfp _ hm)
  have hCf : H2.objs.size ∉ fp := fun hm => by have := hfp _ hm; rw [hC] at this; exact Nat.lt_irrefl _ (Nat.lt_of_succ_lt this)
  have old : ∀ b o, s₂.heap.get? b = some o → (H2.push { cls := .type "dict", data := .dict #[] }).get? b = some o := fun b o e => Heap.get?_push_of_some _ (hH2 ▸ Heap.get?_push_of_some _ e)
  have hacc : (H2.push { cls := .type "dict", data := .dict #[] }).PlainList s₂.heap.objs.size (#[] : Array Value) := ⟨_, Heap.get?_push_of_some _ (hH2 ▸ Heap.get?_push_size _ rfl)⟩
  have hwf : ∀ b ∈ wr, b < s₂.heap.objs.size := fun b hb => hfp b (W.sub b hb)
  have hst' : St 0 { s₂ with heap := H2.push { cls := .type "dict", data := .dict #[] } } := W.frame 0 s₂ _ _ hst (Nat.le_refl _) fun b _ o e => old b o e
  have loop : codeAny (model prog w) A (.compLoop (.ListComp elt [⟨.Name x px, iter, ifs, 0⟩] scope pos) 0 (.ref I) (.ref s₂.heap.objs.size) (compEnvK scope cl H2.objs.size env))
      (compPost (model prog w) A E none Q (.ref s₂.heap.objs.size) H2.objs.size) { s₂ with heap := H2.push { cls := .type "dict", data := .dict #[] } } := by
    refine loop1 (own := [H2.objs.size]) (Ok := fun h => ∃ m, h.Ns H2.objs.size m) (cenv := compEnvK scope cl H2.objs.size env) W Inv hmono hlen
      (fun h h' ⟨m, hm⟩ hk => ⟨m, hm.at' fun o e => hk _ (List.mem_cons_self ..) o e⟩) (by simpa using hDC) hDf (by simpa using hCf) hst' hacc ⟨_, Heap.Ns.new ..⟩ ?_ ?_ ?_ (fun _ => rfl) hsz
    · exact hmono _ _ _ _ (fun a o e => ⟨fun hm => by
        rcases List.mem_cons.mp hm with rfl | hm
        · have := Heap.lt_size e.2; exact Nat.lt_irrefl _ this
        · rcases List.mem_append.mp hm with hm | hm
          · obtain rfl := List.mem_singleton.mp hm
            have := Heap.lt_size e.2; rw [hC] at this; exact Nat.lt_irrefl _ (Nat.lt_of_succ_lt this)
          · exact e.1 hm, old a o e.2⟩) h0
    · intro j v ys s₃ hj hPv hSt ⟨m₃, hm₃⟩ ⟨nD, hD⟩ hM hI
      refine wpAny_assign_Name (wpAny_storeName_local (lookup_relabel_local hx) hm₃ (fun h₄ hn₄ hs₄ => ?_) (by simp [compEnvK, relabel, hkind]))
      have hM' : Moved wr G s₂ { s₃ with heap := h₄, toks := s₃.toks + 1 } := by
        refine ⟨fun b o hb e => ?_, hM.gens, hM.drawn, hM.os, Nat.le_trans hM.toks (Nat.le_succ _)⟩
        have hb' := below b (Heap.lt_size e)
        exact hs₄.extBut b o hb'.1 (hM.heap b o (fun hm => by
          rcases List.mem_cons.mp hm with rfl | hm
          · exact hb'.2 rfl
          · rcases List.mem_append.mp hm with hm | hm
            · exact hb'.1 (List.mem_singleton.mp hm)
            · exact hb hm) (old b o e))
      have hI' : Inv j ys (hvx (s₂.heap.objs.size :: H2.objs.size :: wr) h₄) := hmono _ _ _ _ (fun a o e => ⟨e.1, hs₄.extBut a o (fun hh => e.1 (by subst hh; exact List.mem_cons_of_mem _ (List.mem_cons_self ..))) e.2⟩) hI
      have hlv : ∀ b ∈ s₂.heap.objs.size :: H2.objs.size :: wr, ∃ o, h₄.get? b = some o := by
        intro b hb
        rcases List.mem_cons.mp hb with rfl | hb
        · exact ⟨_, hs₄.extBut _ _ hDC hD⟩
        · rcases List.mem_cons.mp hb with rfl | hb
          · obtain ⟨oC, _, _, hoC, _⟩ := hn₄; exact ⟨_, hoC⟩
          · obtain ⟨o, ho⟩ := hlive _ _ hSt b hb
            exact ⟨o, hs₄.extBut b o (fun e => hCf (W.sub _ (by have e' : b = H2.objs.size := e; exact e' ▸ hb))) ho⟩
      have keep : ∀ s₆, Keeps { s₃ with heap := h₄, toks := s₃.toks + 1 } s₆ → s₃.toks + 1 ≤ s₆.toks → TurnEnd [H2.objs.size] (fun h => ∃ m, h.Ns H2.objs.size m) s₃ s₆ := by
        rintro s₆ ⟨h', tk, rfl, hk⟩ ht
        exact ⟨⟨h', tk, rfl, Nat.le_of_succ_le ht⟩, fun b o hb e => hk b o (hs₄.extBut b o (fun hh => hb (by rw [hh]; exact List.mem_cons_self ..)) e), ⟨_, hn₄.at' fun o e => hk _ o e⟩⟩
      refine wpAny_mono (wpAny_toks (turn H2.objs.size s₂.heap.objs.size j v ys { s₃ with heap := h₄, toks := s₃.toks + 1 } _ _ (by rw [hC]; exact Nat.le_succ _) (Nat.le_refl _) hlv hj hPv hn₄ (by simp) hM' hI')) (fun ok s₅ h₅ => ?_) fun _ _ e => e.2
      cases ok with
      | false => simp only [Bool.false_eq_true, if_false] at h₅ ⊢; exact ⟨keep s₅ h₅.2.1 h₅.1, h₅.2.2⟩
      | true =>
        simp only [if_true] at h₅ ⊢
        exact wpAny_mono (wpAny_toks_of h₅.1 h₅.2) (fun y s₆ h₆ => ⟨keep s₆ h₆.2.1 h₆.1, h₆.2.2⟩) fun _ _ e => e.2
    · intro s' ys ⟨m', hm'⟩ hl hI hM
      refine ⟨m', hm', fun h'' hs'' => ?_⟩
      refine hfin s₂.heap.objs.size H2.objs.size { s' with heap := h'' } ys (Nat.le_refl _) (by rw [hC]; exact Nat.le_succ _) hDC (hl.extBut hs''.extBut hDC) ?_ ?_
      · exact hmono _ _ _ _ (fun a o e => ⟨e.1, hs''.extBut a o (fun hh => e.1 (by subst hh; exact List.mem_cons_of_mem _ (List.mem_cons_self ..))) e.2⟩) hI
      · refine ⟨fun b o hb e => ?_, hM.gens, hM.drawn, hM.os, hM.toks⟩
        have hb' := below b (Heap.lt_size e)
        exact hs''.extBut b o hb'.1 (hM.heap b o (fun hm => by
          rcases List.mem_cons.mp hm with rfl | hm
          · exact hb'.2 rfl
          · rcases List.mem_append.mp hm with hm | hm
            · exact hb'.1 (List.mem_singleton.mp hm)
            · exact hb hm) (old b o e))
  exact codeAny_compStart_list loop (W.self 0 _ _ _ hst' loop)
end
end Mine
end
/-! part M3 -/
section
open PySem PySem.W PyProof.Rows PySem.Spec PySem.Calls
set_option maxRecDepth 100000
set_option maxHeartbeats 1000000
namespace Mine

/-! ## plain data -/
inductive Row where
  | tok (ty : Str) (v : Int)
  | tree (nm : Str) (kids : List Row)

mutual
def Row.size : Row → Nat
  | .tok _ _ => 1
  | .tree _ ks => 1 + Row.sizes ks
def Row.sizes : List Row → Nat
  | [] => 0
  | r :: rs => r.size + Row.sizes rs
end
mutual
def Row.hgt : Row → Nat
  | .tok _ _ => 1
  | .tree _ ks => 1 + Row.hgts ks
def Row.hgts : List Row → Nat
  | [] => 0
  | r :: rs => max r.hgt (Row.hgts rs)
end
theorem size_mem {r : Row} : ∀ {ks : List Row}, r ∈ ks → r.size ≤ Row.sizes ks
  | _ :: _, .head _ => Nat.le_add_right _ _
  | _ :: _, .tail _ h => Nat.le_trans (size_mem h) (Nat.le_add_left _ _)
theorem hgt_mem {r : Row} : ∀ {ks : List Row}, r ∈ ks → r.hgt ≤ Row.hgts ks
  | _ :: _, .head _ => Nat.le_max_left _ _
  | _ :: _, .tail _ h => Nat.le_trans (hgt_mem h) (Nat.le_max_right _ _)
theorem hgt_pos (r : Row) : 1 ≤ r.hgt := by cases r <;> simp [Row.hgt]

mutual
def Row.d : Row → PyData
  | .tok ty v => .tuple [.str "token", .str ty, .int v]
  | .tree nm ks => .tuple [.str "tree", .str nm, .tuple (Row.ds ks)]
def Row.ds : List Row → List PyData
  | [] => []
  | r :: rs => r.d :: Row.ds rs
end

/-! ## tuples on a view -/
def TupV (G : View) (a : Addr) (items : Array Value) : Prop := ∃ o, G a o ∧ o.cls = .type "tuple" ∧ ∃ n, o.data = .seq items n
def LstV (G : View) (a : Addr) (items : Array Value) : Prop := ∃ o, G a o ∧ o.cls = .type "list" ∧ ∃ n, o.data = .seq items n
theorem TupV.mono {G G' : View} (h : vle G G') {a items} : TupV G a items → TupV G' a items
  | ⟨o, g, r⟩ => ⟨o, h _ _ g, r⟩
theorem LstV.mono {G G' : View} (h : vle G G') {a items} : LstV G a items → LstV G' a items
  | ⟨o, g, r⟩ => ⟨o, h _ _ g, r⟩
theorem TupV.at {h : Heap} {a items} (x : TupV (hv h) a items) : IsTup h a items := x
theorem LstV.at {h : Heap} {a items} (x : LstV (hv h) a items) : h.IsList a items := x

mutual
inductive RV (G : View) : Value → Row → Prop where
  | tok {a t0 t1 t2 ty v} : TupV G a #[.str "token" t0, .str ty t1, .int v t2] → RV G (.ref a) (.tok ty v)
  | tree {a b t0 t1 nm vs ks} : TupV G a #[.str "tree" t0, .str nm t1, .ref b] → TupV G b vs.toArray → RVs G vs ks → RV G (.ref a) (.tree nm ks)
inductive RVs (G : View) : List Value → List Row → Prop where
  | nil : RVs G [] []
  | cons {v vs r rs} : RV G v r → RVs G vs rs → RVs G (v :: vs) (r :: rs)
end
mutual
theorem RV.mono {G G' : View} (h : vle G G') : ∀ {v r}, RV G v r → RV G' v r
  | _, _, .tok t => .tok (t.mono h)
  | _, _, .tree t u k => .tree (t.mono h) (u.mono h) (RVs.mono h k)
theorem RVs.mono {G G' : View} (h : vle G G') : ∀ {v r}, RVs G v r → RVs G' v r
  | _, _, .nil => .nil
  | _, _, .cons a b => .cons (RV.mono h a) (RVs.mono h b)
end
theorem RVs.length {G : View} : ∀ {vs rs}, RVs G vs rs → vs.length = rs.length
  | _, _, .nil => rfl
  | _, _, .cons _ b => by simp [b.length]
theorem RVs.get {G : View} : ∀ {vs rs} (_ : RVs G vs rs) {i : Nat} {v : Value}, vs[i]? = some v → ∃ r, rs[i]? = some r ∧ RV G v r
  | _, _, .nil, _, _, e => by simp at e
  | _, _, .cons a _, 0, _, e => by simp at e; subst e; exact ⟨_, rfl, a⟩
  | _, _, .cons _ b, i + 1, _, e => by simp at e; obtain ⟨r, h1, h2⟩ := b.get e; exact ⟨r, by simpa using h1, h2⟩
theorem RVs.snoc {G : View} {v r} : ∀ {vs rs}, RVs G vs rs → RV G v r → RVs G (vs ++ [v]) (rs ++ [r])
  | _, _, .nil, h => .cons h .nil
  | _, _, .cons a b, h => .cons a (b.snoc h)
theorem RVs.append {G : View} {vs' rs'} : ∀ {vs rs}, RVs G vs rs → RVs G vs' rs' → RVs G (vs ++ vs') (rs ++ rs')
  | _, _, .nil, h => h
  | _, _, .cons a b, h => .cons a (b.append h)
theorem take_succ_get {α : Type} {l : List α} {i : Nat} {x : α} (h : l[i]? = some x) : l.take (i + 1) = l.take i ++ [x] := by
  rw [List.take_add_one, h]; rfl

mutual
theorem RV.reads {h : Heap} : ∀ {v r}, RV (hv h) v r → Reads h v r.d []
  | _, _, .tok ⟨o, g, c, n, e⟩ => by
    have := Reads.tuple g c e (.cons (.str _ _) (.cons (.str _ _) (.cons (.int _ _) .nil)))
    simpa [Row.d] using this
  | _, _, .tree ⟨o, g, c, n, e⟩ ⟨o', g', c', n', e'⟩ k => by
    have := Reads.tuple g c e (.cons (.str _ _) (.cons (.str _ _) (.cons (Reads.tuple g' c' e' (by simpa using k.reads)) .nil)))
    simpa [Row.d] using this
theorem RVs.reads {h : Heap} : ∀ {v r}, RVs (hv h) v r → ReadsAll h v (Row.ds r) []
  | _, _, .nil => .nil
  | _, _, .cons a b => by have := ReadsAll.cons a.reads b.reads; simpa [Row.ds] using this
end

/-! ## the ground of a call -/
structure Amb (w : World) (p : Program) (loose : List Str) (mean : ExcName → Option Value) (mg mb : Str → Option Value) (A : Around) (base : Heap) (fr : List Env) (h : Heap) : Prop where
  X : (hd.heap_39 w.params).In h
  T : Top p loose mean mg mb h
  B : Below A base fr h
  hh : A.handled = none

theorem below_of {A₀ A : Around} {base h₀ h : Heap} {outer : List Env} {L : Addr} {m : Str → Option Value} {env : Env}
    (B : Below A₀ base outer h₀) (F : Fr h₀ L h m) (hA : A.frames = some (env :: outer)) (hf : env.frame = some L) (hk : env.scope.kind = .function) : Below A base (env :: outer) h := by
  have B' := pushX B F hf hk
  exact ⟨hA, B'.stays, B'.frames⟩

theorem amb_of {w : World} {p : Program} {loose : List Str} {mean : ExcName → Option Value} {mg mb : Str → Option Value} {A₀ A : Around} {base h₀ h : Heap} {outer : List Env} {L : Addr} {m : Str → Option Value} {env : Env}
    (B : Below A₀ base outer h₀) (F : Fr h₀ L h m) (X : (hd.heap_39 w.params).In h₀) (T : Top p loose mean mg mb h₀) (hA : A.frames = some (env :: outer)) (hf : env.frame = some L) (hk : env.scope.kind = .function)
    (hh : A.handled = none) : Amb w p loose mean mg mb A base (env :: outer) h :=
  ⟨X.keeps F.keep, T.keeps F.keep, below_of B F hA hf hk, hh⟩

theorem enterD {w : World} {p : Program} {loose : List Str} {mean : ExcName → Option Value} {mg mb : Str → Option Value} {A : Around} {base : Heap} {fr : List Env} {prog : Program} {s : Shared}
    {R : Result → Shared → Prop} {name qual : Str} {params : Arguments} {body : List Stmt} {scope : Scope} {dV kV doc pm cdv ct oc : Value} {an od : Option Addr} {osl : Array (Option Value)} {f : Addr} {args : Args} {binds : List (Str × Value)}
    (H : Amb w p loose mean mg mb A base fr s.heap)
    (ho : (hd.heap_39 w.params).lookup f = some ⟨oc, od, .func (fnOf name qual params body scope dV kV doc pm an cdv ct), osl⟩) (hcd : codeIn (hd.heap_39 w.params) cdv qual = true) (hroom : A.depth < recursionLimit)
    (hbind : BindsTo s (fnOf name qual params body scope dV kV doc pm an cdv ct) args binds) (hloc : ∀ y ∈ binds, scope.names.lookup y.1 = some .local)
    (h : ∀ L' h₁, Fr s.heap L' h₁ (fun y => binds.reverse.lookup y) → News s.heap L' h₁ [] →
      wpAny (model prog w) (A.deeper (envOf qual scope L' f cdv)) (execs body (envOf qual scope L' f cdv))
        (fun fl s' => R (.ok (.ret (match fl with | .ret v => v | _ => .none))) s')
        (fun e s' => wpAny (model prog w) (A.deeper (envOf qual scope L' f cdv)) (leaving (envOf qual scope L' f cdv) e) (fun _ s'' => R (.error e) s'') (fun e' s'' => R (.error e') s'') s')
        { s with heap := h₁, toks := s.toks + binds.length })
    (hco : scope.isCoroutine = false) (hgen : scope.isGenerator = false) (hk : scope.kind = .function)
    (hcell : ∀ x ∈ scope.names, x.2 ≠ .cell) : codeAny (model prog w) A (.call (.ref f) args) R s :=
  codeAny_call_def (fd := fnOf name qual params body scope dV kV doc pm an cdv ct) (body := body) (binds := binds) hroom (H.X _ _ ho) rfl H.T.nolimit (codeRec_of H.X hcd) rfl hbind hcell hloc
    (fun h₁ hns hk₁ => h _ h₁ ⟨hns, hk₁, Nat.le_refl _⟩ News.nil) hco hgen hk

/-! ## what a call made goes onto the ledger -/
def newsOf (h h' : Heap) : List (Addr × Obj) := (List.range h'.objs.size).filterMap fun a => if (h.get? a).isNone then (h'.get? a).map fun o => (a, o) else none
theorem mem_newsOf {h h' : Heap} {a : Addr} {o : Obj} : (a, o) ∈ newsOf h h' ↔ h.get? a = none ∧ h'.get? a = some o := by
  unfold newsOf
  rw [List.mem_filterMap]
  constructor
  · rintro ⟨b, hb, e⟩
    split at e
    · rename_i hle
      obtain ⟨o', ho', e'⟩ := Option.map_eq_some_iff.mp e
      cases e'; exact ⟨Option.isNone_iff_eq_none.mp hle, ho'⟩
    · cases e
  · rintro ⟨hle, ho⟩
    exact ⟨a, List.mem_range.mpr (Heap.lt_size ho), by rw [if_pos (Option.isNone_iff_eq_none.mpr hle), ho]; rfl⟩

theorem grown {h₀ h h' : Heap} {L : Addr} {m : Str → Option Value} {news : List (Addr × Obj)} (F : Fr h₀ L h m) (N : News h₀ L h news) (hk : ∀ b o, h.get? b = some o → h'.get? b = some o) :
    Fr h₀ L h' m ∧ News h₀ L h' (newsOf h h' ++ news) := by
  refine ⟨F.keeps hk, fun q hq => ?_⟩
  rcases List.mem_append.mp hq with hq | hq
  · obtain ⟨a, o⟩ := q
    obtain ⟨h1, h2⟩ := mem_newsOf.mp hq
    obtain ⟨oL, _, _, hL, _⟩ := F.ns
    refine ⟨h2, fun e => ?_, ?_⟩
    · have e' : a = L := e
      subst e'; rw [h1] at hL; cases hL
    · cases q : h₀.get? a with
      | none => rfl
      | some o' => have := F.keep _ _ q; rw [h1] at this; cases this
  · exact ⟨hk _ _ (N q hq).1, (N q hq).2⟩

abbrev LV (h₀ : Heap) (news : List (Addr × Obj)) : View := fun a o => h₀.get? a = some o ∨ (a, o) ∈ news
theorem lv_hv {h₀ h : Heap} {L : Addr} {m : Str → Option Value} {news : List (Addr × Obj)} (F : Fr h₀ L h m) (N : News h₀ L h news) : vle (LV h₀ news) (hv h) :=
  fun a o e => e.elim (F.keep a o) (fun q => (N _ q).1)
/-- fresh with regard to a heap -/
abbrev FrV (h h' : Heap) : View := fun a o => h.get? a = none ∧ h'.get? a = some o
theorem frv_lv {h₀ h h' : Heap} {news : List (Addr × Obj)} : vle (FrV h h') (LV h₀ (newsOf h h' ++ news)) := fun _ _ e => .inr (List.mem_append_left _ (mem_newsOf.mpr e))
theorem lv_mono {h₀ : Heap} {n n' : List (Addr × Obj)} (h : ∀ p ∈ n, p ∈ n') : vle (LV h₀ n) (LV h₀ n') := fun _ _ e => e.imp id (h _)

end Mine
end
/-! part M4 -/
section
open PySem PySem.W PyProof.Rows PySem.Spec PySem.Calls
set_option maxRecDepth 100000
set_option maxHeartbeats 1000000
namespace Mine

structure Stop (P : Prop) : Prop where
  out : P
theorem stop_here {P : Prop} (h : Stop P) : P := h.out

theorem keeps_of {s : Shared} {h : Heap} {L : Addr} {m : Str → Option Value} {tk : Nat} (F : Fr s.heap L h m) : Keeps s { s with heap := h, toks := tk } := ⟨h, tk, rfl, F.keep⟩
theorem kold {s s' : Shared} : Keeps s s' → ∀ b o, s.heap.get? b = some o → s'.heap.get? b = some o
  | ⟨_, _, e, k⟩ => by subst e; exact k
def SrcAt (prog : Program) (w : World) (A : Around) (s s₁ : Shared) (xv : Value) (n : Nat) (P : Nat → Value → Prop) : Prop :=
  ∀ (Q : Value → Shared → Prop) (E : Value → Shared → Prop), (∀ I s₂ fp St, Keeps s₁ s₂ → s.heap.objs.size ≤ I → WalksS prog w A I fp [I] (fun a b => b = a) n P St → (∀ b ∈ fp, b < s₂.heap.objs.size) → (∀ i s', St i s' → ∃ o, s'.heap.get? I = some o) → St 0 s₂ → Q (.ref I) s₂) →
    wpAny (model prog w) A (pyIter xv) Q E s₁

section
variable {prog : Program} {w : World} {A : Around} {E : Value → Shared → Prop} {s s₁ : Shared} {env : Env}

theorem src_list {l : Addr} {items : Array Value} (hh : A.handled = none) (hs : s.heap.objs.size ≤ s₁.heap.objs.size) (hl : s₁.heap.IsList l items) : SrcAt prog w A s s₁ (.ref l) items.size (fun i v => items[i]? = some v) := by
  intro Q E h
  have hlt : l < s₁.heap.objs.size := let ⟨_, ho, _⟩ := hl; Heap.lt_size ho
  refine wpAny_pyIter_list hl (h _ _ [s₁.heap.objs.size, l] _ ⟨_, s₁.toks, rfl, fun b o e => Heap.get?_push_of_some _ e⟩ hs (Walks.list hh _ l (Nat.ne_of_lt hlt) items).toS ?_ (fun _ _ st => let ⟨o, e, _⟩ := st.1; ⟨o, e⟩) ⟨⟨_, Heap.get?_push_size _ rfl, rfl, rfl⟩, hl.at fun o e => Heap.get?_push_of_some _ e⟩)
  intro b hb
  simp only [List.mem_cons, List.not_mem_nil, or_false] at hb
  show b < (s₁.heap.push _).objs.size
  rw [Heap.size_push]
  rcases hb with rfl | rfl
  · exact Nat.lt_succ_self _
  · exact Nat.lt_succ_of_lt hlt
theorem src_tup {l : Addr} {items : Array Value} (hh : A.handled = none) (hs : s.heap.objs.size ≤ s₁.heap.objs.size) (hl : IsTup s₁.heap l items) : SrcAt prog w A s s₁ (.ref l) items.size (fun i v => items[i]? = some v) := by
  intro Q E h
  have hlt : l < s₁.heap.objs.size := let ⟨_, ho, _⟩ := hl; Heap.lt_size ho
  have hl' : s₁.heap.IsTuple l items := hl
  refine wpAny_pyIter_tuple hl' (h _ _ [s₁.heap.objs.size, l] _ ⟨_, s₁.toks, rfl, fun b o e => Heap.get?_push_of_some _ e⟩ hs (Walks.tuple hh _ l (Nat.ne_of_lt hlt) items).toS ?_ (fun _ _ st => let ⟨o, e, _⟩ := st.1; ⟨o, e⟩) ⟨⟨_, Heap.get?_push_size _ rfl, rfl, rfl⟩, hl'.at fun o e => Heap.get?_push_of_some _ e⟩)
  intro b hb
  simp only [List.mem_cons, List.not_mem_nil, or_false] at hb
  show b < (s₁.heap.push _).objs.size
  rw [Heap.size_push]
  rcases hb with rfl | rfl
  · exact Nat.lt_succ_self _
  · exact Nat.lt_succ_of_lt hlt

/-- what is to be shown of a comprehension when its source is known -/
structure CompIn (prog : Program) (w : World) (A : Around) (s : Shared) (env : Env) (scope : Scope) (cl : List (Str × Addr)) (x : Str) (ifs : List Expr) (elt : Expr) (Q : Value → Shared → Prop) (xv : Value) (s₁ : Shared) : Prop where
  out : Keeps s s₁ ∧ s.heap.objs.size ≤ s₁.heap.objs.size ∧ ∃ n P, SrcAt prog w A s s₁ xv n P ∧ n ≤ sizeLine ∧
      ∃ Inv : Nat → List Value → View → Prop, (∀ j ys G G', vle G G' → Inv j ys G → Inv j ys G') ∧ (∀ j ys G, Inv j ys G → ys.length ≤ j) ∧ Inv 0 [] (hv s.heap) ∧
      (∀ C X j v ys s₃ oC m₃ E', s.heap.objs.size ≤ C → (∀ b ∈ X, ∃ o, s₃.heap.get? b = some o) → (∀ b ∈ X, s.heap.objs.size ≤ b) → j < n → P j v → s₃.heap.get? C = some oC → (∀ h : Heap, h.get? C = some oC → h.Ns C m₃) → m₃ x = some v → Keeps s s₃ → Inv j ys (hvx X s₃.heap) →
        wpAny (model prog w) A (forIn ifs true fun c r => if r = true then do let ok ← isTrue c (compEnvK scope cl C env) (eval c (compEnvK scope cl C env)); pure (ForInStep.yield ok) else pure (ForInStep.yield r)) (fun ok s₅ =>
          if ok = true then wpAny (model prog w) A (eval elt (compEnvK scope cl C env)) (fun y s₆ => Keeps s₃ s₆ ∧ Inv (j + 1) (ys ++ [y]) (hvx X s₆.heap)) E' s₅
          else Keeps s₃ s₅ ∧ Inv (j + 1) ys (hvx X s₅.heap)) E' s₃) ∧
      (∀ D X s' ys, s.heap.objs.size ≤ D → (∀ b ∈ X, s.heap.objs.size ≤ b) → s'.heap.PlainList D ys.toArray → Inv n ys (hvx X s'.heap) → Keeps s s' → Q (.ref D) s')

/-- the same over the items of a list or tuple -/
theorem compIn_seq {scope : Scope} {cl : List (Str × Addr)} {x : Str} {ifs : List Expr} {elt : Expr} {Q : Value → Shared → Prop} {l : Addr} {items : List Value}
    (hk : Keeps s s₁) (hsz : s.heap.objs.size ≤ s₁.heap.objs.size) (hh : A.handled = none) (hl : s₁.heap.IsList l items.toArray ∨ IsTup s₁.heap l items.toArray) (hn : items.length ≤ sizeLine)
    (Inv : Nat → List Value → View → Prop) (hmono : ∀ j ys G G', vle G G' → Inv j ys G → Inv j ys G') (hlen : ∀ j ys G, Inv j ys G → ys.length ≤ j) (h0 : Inv 0 [] (hv s.heap))
    (turn : ∀ C X j v ys s₃ oC m₃ E', s.heap.objs.size ≤ C → (∀ b ∈ X, ∃ o, s₃.heap.get? b = some o) → (∀ b ∈ X, s.heap.objs.size ≤ b) → items[j]? = some v → s₃.heap.get? C = some oC → (∀ h : Heap, h.get? C = some oC → h.Ns C m₃) → m₃ x = some v → Keeps s s₃ → Inv j ys (hvx X s₃.heap) →
        wpAny (model prog w) A (forIn ifs true fun c r => if r = true then do let ok ← isTrue c (compEnvK scope cl C env) (eval c (compEnvK scope cl C env)); pure (ForInStep.yield ok) else pure (ForInStep.yield r)) (fun ok s₅ =>
          if ok = true then wpAny (model prog w) A (eval elt (compEnvK scope cl C env)) (fun y s₆ => Keeps s₃ s₆ ∧ Inv (j + 1) (ys ++ [y]) (hvx X s₆.heap)) E' s₅
          else Keeps s₃ s₅ ∧ Inv (j + 1) ys (hvx X s₅.heap)) E' s₃)
    (fin : ∀ D X s' ys, s.heap.objs.size ≤ D → (∀ b ∈ X, s.heap.objs.size ≤ b) → s'.heap.PlainList D ys.toArray → Inv items.length ys (hvx X s'.heap) → Keeps s s' → Q (.ref D) s') :
    CompIn prog w A s env scope cl x ifs elt Q (.ref l) s₁ := by
  refine ⟨hk, hsz, items.length, fun i v => items[i]? = some v, ?_, hn, Inv, hmono, hlen, h0, fun C X j v ys s₃ oC m₃ E' a1 a2 a3 _ a4 => turn C X j v ys s₃ oC m₃ E' a1 a2 a3 a4, fin⟩
  rcases hl with hl | hl
  · have := src_list (prog := prog) (w := w) hh hsz hl; simpa using this
  · have := src_tup (prog := prog) (w := w) hh hsz hl; simpa using this

theorem comp1K {elt iter : Expr} {x : Str} {px : Pos} {ifs : List Expr} {scope : Scope} {pos : Pos} {cl : List (Str × Addr)} {Q : Value → Shared → Prop}
    (hclos : closureFor scope env = pure cl) (hpc : ∀ h, pushCells h scope.names = h) (hcf : ∀ n, cellsFrom n scope.names cl = cl)
    (hkind : scope.kind = .function) (hnames : ∀ y ∈ scope.names, y.2 = .local → scope.names.lookup y.1 = some .local) (hx : scope.names.lookup x = some .local)
    (h : wpAny (model prog w) A (eval iter env) (CompIn prog w A s env scope cl x ifs elt Q) E s)
    (hs : ∀ x, foldedSetIterable iter env x = pure x := by intro _; rfl) :
    wpAny (model prog w) A (eval (.ListComp elt [⟨.Name x px, iter, ifs, 0⟩] scope pos) env) Q E s := by
  refine comp1L hclos hpc hcf hkind hnames hx (wpAny_mono h (fun xv s₁ h₁ => ?_) fun _ _ e => e) hs
  obtain ⟨hk₁, hsz₁, n, P, src, hn, Inv, hmono, hlen, h0, turn, hfin⟩ := h₁.out
  refine src _ _ fun I s₂ fp St hk₂ hI W hfp hlive hst => ?_
  have hk := keeps_trans hk₁ hk₂
  have hIlt : ∀ b ∈ [I], b < s₂.heap.objs.size := fun b hb => hfp b (W.sub b hb)
  have old2 : ∀ b, b < s.heap.objs.size → b ∉ [I] := fun b hb h => by obtain rfl := List.mem_singleton.mp h; exact absurd hb (Nat.not_lt.mpr hI)
  have hs2 : s.heap.objs.size ≤ s₂.heap.objs.size := Nat.le_trans hI (Nat.le_of_lt (hIlt I (List.mem_singleton.mpr rfl)))
  have mkK : ∀ s₃, Moved [I] (fun a b => b = a) s₂ s₃ → Keeps s s₃ := by
    intro s₃ hM
    obtain ⟨h', tk, rfl, kk⟩ := hk
    refine ⟨s₃.heap, s₃.toks, ?_, fun b o e => hM.heap b o (old2 b (Heap.lt_size e)) (kk b o e)⟩
    obtain ⟨a1, a2, a3, a4, a5⟩ := s₃
    have e1 := hM.gens; have e2 := hM.drawn; have e3 := hM.os
    dsimp only at e1 e2 e3
    subst e1; subst e2; subst e3; rfl
  refine ⟨I, fp, [I], _, n, P, St, rfl, W, hn, hst, hfp, (fun i s' st b hb => by obtain rfl := List.mem_singleton.mp hb; exact hlive i s' st), Inv, hmono, hlen, hmono _ _ _ _ (fun a o e => ⟨old2 a (Heap.lt_size e), kold hk a o e⟩) h0, ?_, ?_⟩
  · intro C D j v ys s₃ m₃ E' hC hD2 hDlt hj hPv hns hm hM hI'
    obtain ⟨oC, es, ep, hoC, r⟩ := id hns
    have hD1 : s.heap.objs.size ≤ D := Nat.le_trans hs2 hD2
    refine turn C (D :: C :: [I]) j v ys s₃ oC m₃ E' (Nat.le_trans hs2 hC) hDlt ?_ hj hPv hoC (fun h e => ⟨oC, es, ep, e, r⟩) hm (mkK s₃ hM) hI'
    · intro b hb
      simp only [List.mem_cons, List.not_mem_nil, or_false] at hb
      rcases hb with rfl | rfl | rfl
      · exact hD1
      · exact Nat.le_trans hs2 hC
      · exact hI
  · intro D C s' ys hD hC _ hl hi hM
    refine hfin D (D :: C :: [I]) s' ys (Nat.le_trans hs2 hD) ?_ hl hi (mkK s' hM)
    intro b hb
    simp only [List.mem_cons, List.not_mem_nil, or_false] at hb
    rcases hb with rfl | rfl | rfl
    · exact Nat.le_trans hs2 hD
    · exact Nat.le_trans hs2 hC
    · exact hI
end
end Mine
end
/-! part M5 -/
section
open PySem PySem.W PyProof.Rows PySem.Spec PySem.Calls
set_option maxRecDepth 100000
set_option maxHeartbeats 1000000
namespace Mine
section
variable {prog : Program} {w : World} {A : Around} {E : Value → Shared → Prop} {s : Shared} {env : Env} {scope : Scope} {cl : List (Str × Addr)} {C : Addr} {x : Str} {pos : Pos} {v : Value} {Q : Value → Shared → Prop}
  {h₀ : Heap} {L : Addr} {m mg mb : Str → Option Value} {news : List (Addr × Obj)} {oC : Obj} {m₃ : Str → Option Value} {p : Program} {loose : List Str} {K : Frag} {c : Addr} {o : Obj}

theorem nmC (N : News h₀ L s.heap news) (hmem : (C, oC) ∈ news) (hns : ∀ h : Heap, h.get? C = some oC → h.Ns C m₃) (hm : m₃ x = some v) (h : Q v s)
    (hk : scope.kind = .function) (hx : scope.names.lookup x = some .local) (hd : (x == ("__debug__" : Str)) = false) :
    wpAny (model prog w) A (eval (.Name x pos) (compEnvK scope cl C env)) Q E s :=
  wpAny_Name (wpAny_loadName_local (env := compEnvK scope cl C env) (m := m₃) hk (lookup_relabel_local hx) (hns _ (N.get hmem)) hm h) hd
theorem nmG (F : Fr h₀ L s.heap m) (X : K.In h₀) (T : TopRead p loose mg mb h₀) (e : nsIn K mainGlobals x = some (some v)) (h : Q v s)
    (hg : env.globals = mainGlobals) (hk : scope.kind = .function) (hx : (compEnvK scope cl C env).kindOf x = some .globalImplicit) (hd : (x == ("__debug__" : Str)) = false) :
    wpAny (model prog w) A (eval (.Name x pos) (compEnvK scope cl C env)) Q E s := nameG_K F X T e h hg hk hx hd
theorem nmB (F : Fr h₀ L s.heap m) (X : K.In h₀) (T : TopRead p loose mg mb h₀) (e : nsIn K mainGlobals x = some none) (hv : bootBuiltins x = some v) (hn : x ≠ "__name__") (h : Q v s)
    (hg : env.globals = mainGlobals) (hb : env.builtins = builtinsNs) (hk : scope.kind = .function) (hx : (compEnvK scope cl C env).kindOf x = some .globalImplicit) (hd : (x == ("__debug__" : Str)) = false) :
    wpAny (model prog w) A (eval (.Name x pos) (compEnvK scope cl C env)) Q E s :=
  Name_function_global hk hx (loadGlobal_builtin (env := compEnvK scope cl C env) (by show s.heap.Ns env.globals mg; rw [hg]; exact T.g.keeps F.keep) (mg_none_of X T.g e) (by show s.heap.Ns env.builtins mb; rw [hb]; exact T.b.keeps F.keep) ((T.builtins x hn).trans hv) h) hd
/-- a name of the frame around, held by a cell -/
theorem nmF (N : News h₀ L s.heap news) (hc : cl.lookup x = some c) (hmem : (c, o) ∈ news) (hd : o.data = .cell (some v)) (h : Q v s)
    (hk : scope.kind = .function) (hx : (compEnvK scope cl C env).kindOf x = some .free ∨ (compEnvK scope cl C env).kindOf x = some .cell) (hb : (x == ("__debug__" : Str)) = false) (hn : (x == ("__classdict__" : Str)) = false) :
    wpAny (model prog w) A (eval (.Name x pos) (compEnvK scope cl C env)) Q E s :=
  hx.elim (fun hx => wpAny_Name (wpAny_loadName_free (env := compEnvK scope cl C env) hk hx hc ⟨o, N.get hmem, hd⟩ h hn) hb)
    fun hx => wpAny_Name (wpAny_loadName_cell (env := compEnvK scope cl C env) hk hx hc ⟨o, N.get hmem, hd⟩ h) hb
end

theorem news_add {h₀ h : Heap} {L a : Addr} {o : Obj} {m : Str → Option Value} {news : List (Addr × Obj)} (F : Fr h₀ L h m) (N : News h₀ L h news) (ho : h.get? a = some o) (ha : h₀.objs.size ≤ a) (hL : a ≠ L) : News h₀ L h ((a, o) :: news) := by
  intro q hq
  rcases List.mem_cons.mp hq with rfl | hq
  · refine ⟨ho, hL, ?_⟩
    cases q : h₀.get? a with
    | none => rfl
    | some o' => exact absurd (Heap.lt_size q) (Nat.not_lt.mpr ha)
  · exact N q hq
/-- an own address that came behind the frame -/
theorem news_add' {h₀ h h' : Heap} {L a : Addr} {o : Obj} {m : Str → Option Value} {news : List (Addr × Obj)} (F : Fr h₀ L h m) (N : News h₀ L h' news) (ho : h'.get? a = some o) (ha : h.objs.size ≤ a) : News h₀ L h' ((a, o) :: news) := by
  obtain ⟨oL, _, _, hL, _⟩ := F.ns
  intro q hq
  rcases List.mem_cons.mp hq with rfl | hq
  · refine ⟨ho, fun e => ?_, ?_⟩
    · have e' : a = L := e
      subst e'; exact absurd (Heap.lt_size hL) (Nat.not_lt.mpr ha)
    · cases q : h₀.get? a with
      | none => rfl
      | some o' => exact absurd (Heap.lt_size (F.keep _ _ q)) (Nat.not_lt.mpr ha)
  · exact N q hq
end Mine
end
/-! part M6 -/
section
open PySem PySem.W PyProof.Rows PySem.Spec PySem.Calls
set_option maxRecDepth 100000
set_option maxHeartbeats 1000000
namespace Mine

theorem turn_in (elt t1 i1 t2 i2 : Expr) (ifs1 : List Expr) (scope : Scope) (pos : Pos) (it acc : Value) (env : Env) :
    compTurn (.ListComp elt [⟨t1, i1, ifs1, 0⟩, ⟨t2, i2, [], 0⟩] scope pos) 1 it acc env = (standAt i2.pos >>= fun _ => pyNext it >>= fun r => match r with
      | none => pure (.done .next)
      | some v => letOwnedTupleGo t2 it v >>= fun _ => assign t2 env v >>= fun _ =>
        (eval elt env >>= fun x => call (.builtin "list.append") [acc, x] >>= fun _ => pure ()) >>= fun _ =>
          again (.compLoop (.ListComp elt [⟨t1, i1, ifs1, 0⟩, ⟨t2, i2, [], 0⟩] scope pos) 1 it acc env)) := by rfl

theorem turn_out (elt t1 i1 t2 i2 : Expr) (ifs1 : List Expr) (scope : Scope) (pos : Pos) (it acc : Value) (env : Env) :
    compTurn (.ListComp elt [⟨t1, i1, ifs1, 0⟩, ⟨t2, i2, [], 0⟩] scope pos) 0 it acc env = (do
      standAt i1.pos
      match ← pyNext it with
      | none => pure (.done .next)
      | some v =>
        letOwnedTupleGo t1 it v
        assign t1 env v
        let mut ok := true
        for c in ifs1 do
          if ok then ok ← isTrue c env (eval c env)
        if ok then
          let x ← eval i2 env
          standAt i2.pos
          let x ← foldedSetIterable i2 env x
          let it2 ← holding [x] (pyIter x)
          let _ ← runOwn (.compStart (.ListComp elt [⟨t1, i1, ifs1, 0⟩, ⟨t2, i2, [], 0⟩] scope pos) 1 it2 acc env) env
          again (.compLoop (.ListComp elt [⟨t1, i1, ifs1, 0⟩, ⟨t2, i2, [], 0⟩] scope pos) 0 it acc env)
        else again (.compLoop (.ListComp elt [⟨t1, i1, ifs1, 0⟩, ⟨t2, i2, [], 0⟩] scope pos) 0 it acc env)) := by
  unfold compTurn
  simp (config := {zeta := true}) only [List.getElem?_cons_zero, bne_self_eq_false, if_false, Bool.false_eq_true, List.getElem?_cons_succ, Nat.zero_add]
  rfl
section
variable {prog : Program} {w : World} {A : Around} {E : Value → Shared → Prop} {R : Result → Shared → Prop} {s : Shared}

theorem inner_all {t1 i1 i2 : Expr} {y : Str} {py py' : Pos} {ifs1 : List Expr} {scope : Scope} {pos : Pos} {I D l : Addr} {cenv : Env} {m : Str → Option Value} {zs ys : List Value}
    (hh : A.handled = none) (hlocal : cenv.kindOf y = some .local) (hkind : cenv.scope.kind = .function) (hyd : (y == ("__debug__" : Str)) = false)
    (hDC : D ≠ cenv.locals) (hID : I ≠ D) (hIC : I ≠ cenv.locals) (hlD : l ≠ D) (hlC : l ≠ cenv.locals) (hlI : l ≠ I)
    (hit : s.heap.IsListIter I l 0) (hl : s.heap.IsList l zs.toArray) (hacc : s.heap.PlainList D ys.toArray) (hn : s.heap.Ns cenv.locals m) (hsz : ys.length + zs.length ≤ sizeLine)
    (hR : ∀ h' tk m', h'.Ns cenv.locals m' → h'.PlainList D (ys ++ zs).toArray → (∀ b o, b ≠ cenv.locals → b ≠ D → b ≠ I → s.heap.get? b = some o → h'.get? b = some o) → s.toks ≤ tk → R (.ok .next) { s with heap := h', toks := tk }) :
    codeAny (model prog w) A (.compLoop (.ListComp (.Name y py') [⟨t1, i1, ifs1, 0⟩, ⟨.Name y py, i2, [], 0⟩] scope pos) 1 (.ref I) (.ref D) cenv) R s := by
  refine codeAny_loop rfl (fun k s' => ∃ h' tk m' i, s' = { s with heap := h', toks := tk } ∧ i ≤ zs.length ∧ k = zs.length + 1 - i ∧ h'.IsListIter I l i ∧ h'.IsList l zs.toArray ∧ h'.PlainList D (ys ++ zs.take i).toArray ∧ h'.Ns cenv.locals m' ∧
      (∀ b o, b ≠ cenv.locals → b ≠ D → b ≠ I → s.heap.get? b = some o → h'.get? b = some o) ∧ s.toks ≤ tk) ?_ (zs.length + 1)
    ⟨s.heap, s.toks, m, 0, rfl, Nat.zero_le _, rfl, hit, hl, by simpa using hacc, hn, fun _ _ _ _ _ e => e, Nat.le_refl _⟩
  rintro k s' ⟨H, tk, m', i, rfl, hi, rfl, hit', hl', hacc', hn', hk, htk⟩
  show wpAny _ A ((compTurn (.ListComp (.Name y py') [⟨t1, i1, ifs1, 0⟩, ⟨.Name y py, i2, [], 0⟩] scope pos) 1 (.ref I) (.ref D) cenv).onRaise (fun x => do noteFrame x cenv; theTreesLotGoes x)) _ _ _
  refine wpAny_noted ?_
  rw [turn_in]
  by_cases hlt : i < zs.length
  · refine wpAny_bind (wpAny_standAt (wpAny_bind (wpAny_pyNext_list_item hit' hl' (x := zs[i]) (by simp [hlt]) fun h₁ hit₁ hs₁ => ?_)))
    refine wpAny_bind (wpAny_pure (wpAny_bind (wpAny_assign_Name (wpAny_storeName_local hlocal (hn'.sameBut hs₁ (Ne.symm hIC)) (fun h₂ hn₂ hs₂ => ?_) (by simp [hkind])))))
    refine wpAny_bind (wpAny_bind (wpAny_Name (wpAny_loadName_local hkind hlocal hn₂ (v := zs[i]) (by simp) (wpAny_bind (wpAny_list_append_plain (hsz := ?_)
      ((hacc'.extBut hs₁.extBut (Ne.symm hID)).extBut hs₂.extBut hDC) fun h₃ hl₃ hs₃ => wpAny_pure (wpAny_pure ⟨rfl, ?_⟩)))) hyd))
    rotate_left
    · simp only [List.size_toArray, List.length_append, List.length_take]; omega
    · refine ⟨zs.length + 1 - (i + 1), by omega, h₃, _, _, i + 1, rfl, hlt, rfl, ?_, ?_, ?_, hn₂.sameBut hs₃ (Ne.symm hDC), fun b o hbC hbD hbI e => hs₃.extBut b o hbD (hs₂.extBut b o hbC (hs₁.extBut b o hbI (hk b o hbC hbD hbI e))), by show s.toks ≤ tk + 1; omega⟩
      · have h1 : h₂.IsListIter I l (i + 1) := hit₁.at fun o e => hs₂.extBut I o hIC e
        exact h1.at fun o e => hs₃.extBut I o hID e
      · exact ((hl'.extBut hs₁.extBut hlI).extBut hs₂.extBut hlC).extBut hs₃.extBut hlD
      · rw [take_succ_get (x := zs[i]) (by simp [hlt]), ← List.append_assoc]; simpa using hl₃
  · have hin : i = zs.length := by omega
    subst hin
    refine wpAny_bind (wpAny_standAt (wpAny_bind (wpAny_pyNext_list_end hh hit' hl' (by simp) fun h₁ hk₁ => ?_)))
    refine wpAny_pure ?_
    refine hR h₁ tk m' ?_ ?_ (fun b o hbC hbD hbI e => hk₁ b o hbI (hk b o hbC hbD hbI e)) htk
    · exact hn'.at' fun o e => hk₁ _ o (Ne.symm hIC) e
    · have := hacc'.at fun o e => hk₁ D o (Ne.symm hID) e
      simpa using this

theorem loop2 {t1 i1 i2 : Expr} {y : Str} {py py' : Pos} {ifs1 : List Expr} {scope : Scope} {pos : Pos} {I D C : Addr} {fp wr : List Addr} {n : Nat} {P : Nat → Value → Prop} {St : Nat → Shared → Prop}
    {cenv : Env} (W : WalksS prog w A I fp wr (fun a b => b = a) n P St) (hh : A.handled = none)
    (hCe : cenv.locals = C) (hlocal : cenv.kindOf y = some .local) (hkind : cenv.scope.kind = .function) (hyd : (y == ("__debug__" : Str)) = false)
    (Inv : Nat → List Value → View → Prop)
    (hmono : ∀ j ys G G', vle G G' → Inv j ys G → Inv j ys G') (hlen : ∀ j ys G, Inv j ys G → ys.length ≤ 1000000)
    (hDC : D ≠ C) (hDf : D ∉ fp) (hof : C ∉ fp)
    (hst : St 0 s) (hacc : s.heap.PlainList D #[]) (hn : ∃ m, s.heap.Ns C m) (h0 : Inv 0 [] (hvx (D :: C :: wr) s.heap))
    (hs : ∀ x, foldedSetIterable i2 cenv x = pure x)
    (turn : ∀ j v (ys : List Value) s₃ m₃, j < n → P j v → St (j + 1) s₃ → s₃.heap.Ns C m₃ → s₃.heap.PlainList D ys.toArray → Moved (D :: C :: wr) (fun a b => b = a) s s₃ → Inv j ys (hvx (D :: C :: wr) s₃.heap) →
      wpAny (model prog w) A (assign t1 cenv v) (fun _ s₄ =>
        wpAny (model prog w) A (forIn ifs1 true fun c r => if r = true then do let ok ← isTrue c cenv (eval c cenv); pure (ForInStep.yield ok) else pure (ForInStep.yield r)) (fun ok s₅ =>
          if ok = true then wpAny (model prog w) A (eval i2 cenv) (fun xv s₆ => ∃ l zs, xv = .ref l ∧ TurnEnd [C] (fun h => ∃ m, h.Ns C m) s₃ s₆ ∧ l ≠ C ∧ l ≠ D ∧ s₆.heap.IsList l (List.toArray zs) ∧ Inv (j + 1) (ys ++ zs) (hvx (D :: C :: wr) s₆.heap)) (notedBy (model prog w) A cenv fun e s' => R (.error e) s') s₅
          else TurnEnd [C] (fun h => ∃ m, h.Ns C m) s₃ s₅ ∧ Inv (j + 1) ys (hvx (D :: C :: wr) s₅.heap)) (notedBy (model prog w) A cenv fun e s' => R (.error e) s') s₄) (notedBy (model prog w) A cenv fun e s' => R (.error e) s') s₃)
    (hR : ∀ s' (ys : List Value) m', s'.heap.Ns C m' → s'.heap.PlainList D ys.toArray → Inv n ys (hvx (D :: C :: wr) s'.heap) → Moved (D :: C :: wr) (fun a b => b = a) s s' → R (.ok .next) s')
    (ht : ∀ v, letOwnedTupleGo t1 (.ref I) v = pure () := by intro _; rfl) :
    codeAny (model prog w) A (.compLoop (.ListComp (.Name y py') [⟨t1, i1, ifs1, 0⟩, ⟨.Name y py, i2, [], 0⟩] scope pos) 0 (.ref I) (.ref D) cenv) R s := by
  subst hCe
  refine codeAny_loop rfl (fun k s' => ∃ j, ∃ ys : List Value, j ≤ n ∧ k = n + 1 - j ∧ St j s' ∧ s'.heap.PlainList D ys.toArray ∧ (∃ m, s'.heap.Ns cenv.locals m) ∧ Inv j ys (hvx (D :: cenv.locals :: wr) s'.heap) ∧ Moved (D :: cenv.locals :: wr) (fun a b => b = a) s s') ?_ (n + 1)
    ⟨0, [], Nat.zero_le _, rfl, hst, hacc, hn, h0, Moved.refl W.grefl⟩
  rintro k s' ⟨j, ys, hj, rfl, hst', hacc', ⟨m', hn'⟩, hI, hM⟩
  show wpAny _ A ((compTurn (.ListComp (.Name y py') [⟨t1, i1, ifs1, 0⟩, ⟨.Name y py, i2, [], 0⟩] scope pos) 0 (.ref I) (.ref D) cenv).onRaise (fun x => do noteFrame x cenv; theTreesLotGoes x)) _ _ s'
  refine wpAny_noted ?_
  rw [turn_out]
  have hDw : D ∉ wr := fun h => hDf (W.sub _ h)
  have hCw : cenv.locals ∉ wr := fun h => hof (W.sub _ h)
  have hwsub : ∀ b ∈ wr, b ∈ (D :: cenv.locals :: wr) := fun b hb => List.mem_cons_of_mem _ (List.mem_cons_of_mem _ hb)
  by_cases hlt : j < n
  · refine wpAny_bind (wpAny_standAt (wpAny_bind (W.item j s' _ _ hlt hst' fun v s₁ hPv hst₁ hM₁ => ?_)))
    have hM₁' : Moved (D :: cenv.locals :: wr) (fun a b => b = a) s s₁ := hM.trans W.gtrans (hM₁.mono hwsub)
    have hn₁ := hn'.at' fun o e => hM₁.heap _ o hCw e
    have hI₁ : Inv j ys (hvx (D :: cenv.locals :: wr) s₁.heap) := hmono _ _ _ _ (fun a o e => ⟨e.1, hM₁.heap a o (fun h => e.1 (hwsub a h)) e.2⟩) hI
    have hacc₁ : s₁.heap.PlainList D ys.toArray := hacc'.at fun o e => hM₁.heap D o hDw e
    have fin : ∀ s₆ ys', (∃ h' tk, s₆ = { s₁ with heap := h', toks := tk } ∧ s₁.toks ≤ tk) → (∀ b o, b ∉ [D, cenv.locals] → s₁.heap.get? b = some o → s₆.heap.get? b = some o) → (∃ m, s₆.heap.Ns cenv.locals m) → s₆.heap.PlainList D ys'.toArray → Inv (j + 1) ys' (hvx (D :: cenv.locals :: wr) s₆.heap) →
        ∃ m, m < n + 1 - j ∧ ∃ j', ∃ ys : List Value, j' ≤ n ∧ m = n + 1 - j' ∧ St j' s₆ ∧ s₆.heap.PlainList D ys.toArray ∧ (∃ m, s₆.heap.Ns cenv.locals m) ∧ Inv j' ys (hvx (D :: cenv.locals :: wr) s₆.heap) ∧ Moved (D :: cenv.locals :: wr) (fun a b => b = a) s s₆ := by
      rintro s₆ ys' ⟨h', tk, rfl, htk⟩ hk hok ha hi
      refine ⟨n + 1 - (j + 1), by omega, j + 1, ys', hlt, rfl, ?_, ha, hok, hi, ?_⟩
      · exact W.frame _ _ _ _ hst₁ htk fun b hb o e => hk b o (fun h => by
          simp only [List.mem_cons, List.not_mem_nil, or_false] at h
          rcases h with rfl | rfl
          · exact hDf hb
          · exact hof hb) e
      · exact hM₁'.then_heap htk fun b o hb e => hk b o (fun h => hb (by
          simp only [List.mem_cons, List.not_mem_nil, or_false] at h
          rcases h with rfl | rfl
          · exact List.mem_cons_self ..
          · exact List.mem_cons_of_mem _ (List.mem_cons_self ..))) e
    refine wpAny_bind (wpAny_of_eq (ht v) (wpAny_bind (wpAny_mono (turn j v ys s₁ m' hlt hPv hst₁ hn₁ hacc₁ hM₁' hI₁) (fun _ s₄ h₄ => wpAny_bind (wpAny_mono h₄ (fun ok s₅ h₅ => ?_) fun _ _ e => e)) fun _ _ e => e)))
    cases ok with
    | false =>
      simp only [Bool.false_eq_true, if_false] at h₅ ⊢
      obtain ⟨te, hi⟩ := h₅
      exact wpAny_pure ⟨rfl, fin s₅ ys te.eq (fun b o hb => te.keep b o (fun h => hb (by simp only [List.mem_singleton] at h; subst h; simp))) te.ok (hacc₁.at fun o e => te.keep D o (by simpa using hDC) e) hi⟩
    | true =>
      simp only [if_true] at h₅ ⊢
      refine wpAny_bind (wpAny_mono h₅ (fun xv s₆ h₆ => ?_) fun _ _ e => e)
      obtain ⟨l, zs, rfl, te, hlC, hlD, hl, hi⟩ := h₆
      refine wpAny_bind (wpAny_standAt (wpAny_bind (wpAny_of_eq (hs _) (wpAny_bind (wpAny_holding (wpAny_pyIter_list hl ?_))))))
      have hacc₆ : s₆.heap.PlainList D ys.toArray := hacc₁.at fun o e => te.keep D o (by simpa using hDC) e
      obtain ⟨m₆, hn₆⟩ := te.ok
      have hDlt : D < s₁.heap.objs.size := by obtain ⟨_, e⟩ := hacc₁; exact Heap.lt_size e
      have hClt : cenv.locals < s₁.heap.objs.size := hn₁.lt
      have hDlt6 : D < s₆.heap.objs.size := by obtain ⟨_, e⟩ := hacc₆; exact Heap.lt_size e
      have hllt : l < s₆.heap.objs.size := by obtain ⟨_, e, _⟩ := hl; exact Heap.lt_size e
      have hlen1 := hlen _ _ _ hi
      rw [List.length_append] at hlen1
      have inn : ∀ s₇ : Shared, s₇ = { s₆ with heap := s₆.heap.push { cls := .type "list_iterator", data := .fields #[.ref l, .int 0 0] } } →
          codeAny (model prog w) A (.compLoop (.ListComp (.Name y py') [⟨t1, i1, ifs1, 0⟩, ⟨.Name y py, i2, [], 0⟩] scope pos) 1 (.ref s₆.heap.objs.size) (.ref D) cenv)
            (fun r s' => match r with
              | .ok _ => wpAny (model prog w) A (again (.compLoop (.ListComp (.Name y py') [⟨t1, i1, ifs1, 0⟩, ⟨.Name y py, i2, [], 0⟩] scope pos) 0 (.ref I) (.ref D) cenv)) (fun fin s'' => match fin with
                  | .done f => R (.ok f) s''
                  | .again c' => c' = (.compLoop (.ListComp (.Name y py') [⟨t1, i1, ifs1, 0⟩, ⟨.Name y py, i2, [], 0⟩] scope pos) 0 (.ref I) (.ref D) cenv) ∧ ∃ m, m < n + 1 - j ∧ ∃ j', ∃ ys : List Value, j' ≤ n ∧ m = n + 1 - j' ∧ St j' s'' ∧ s''.heap.PlainList D ys.toArray ∧ (∃ m, s''.heap.Ns cenv.locals m) ∧ Inv j' ys (hvx (D :: cenv.locals :: wr) s''.heap) ∧ Moved (D :: cenv.locals :: wr) (fun a b => b = a) s s'') (notedBy (model prog w) A cenv fun e s' => R (.error e) s') s'
              | .error e => cameBackBy (model prog w) A cenv (notedBy (model prog w) A cenv fun e s' => R (.error e) s') e s') s₇ := by
        rintro s₇ rfl
        have push : ∀ b o, s₆.heap.get? b = some o → (s₆.heap.push { cls := .type "list_iterator", data := .fields #[.ref l, .int 0 0] }).get? b = some o := fun b o e => Heap.get?_push_of_some _ e
        refine inner_all hh hlocal hkind hyd hDC (Nat.ne_of_gt hDlt6) (Nat.ne_of_gt hn₆.lt) hlD hlC (Nat.ne_of_lt hllt) ⟨_, Heap.get?_push_size _ rfl, rfl, rfl⟩ (hl.at fun o e => push l o e) (hacc₆.at fun o e => push D o e) (hn₆.at' fun o e => push _ o e) ?_ (fun h' tk m'' hn'' hl'' hk'' htk'' => ?_)
        · rw [sizeLine_eq]; omega
        · refine wpAny_pure ⟨rfl, fin { s₆ with heap := h', toks := tk } (ys ++ zs) ?_ (fun b o hb e => ?_) ⟨_, hn''⟩ hl'' ?_⟩
          · obtain ⟨h6, tk6, rfl, htk6⟩ := te.eq
            exact ⟨_, _, rfl, Nat.le_trans htk6 htk''⟩
          · simp only [List.mem_cons, List.not_mem_nil, or_false, not_or] at hb
            have e6 := te.keep b o (by simpa using hb.2) e
            exact hk'' b o hb.2 hb.1 (Nat.ne_of_lt (Heap.lt_size e6)) (push b o e6)
          · refine hmono _ _ _ _ (fun a o e => ⟨e.1, ?_⟩) hi
            have h1 := e.1
            simp only [List.mem_cons, not_or] at h1
            exact hk'' a o h1.2.1 h1.1 (Nat.ne_of_lt (Heap.lt_size e.2)) (push a o e.2)
      refine wpAny_bind (wpAny_runOwn (codeAny_of_tree ?_))
      show wpAny _ _ ((compStart (.ListComp (.Name y py') [⟨t1, i1, ifs1, 0⟩, ⟨.Name y py, i2, [], 0⟩] scope pos) 1 (.ref s₆.heap.objs.size) (.ref D) cenv).onRaise (fun x => do noteFrame x cenv; standAt theWindowsPlace)) _ _ _
      refine wpAny_notedAt ?_
      unfold compStart
      show wpAny _ _ (ask >>= _) _ _ _
      refine wpAny_bind (wpAny_askSetting (wpAny_ite ?_))
      split
      · exact wpAny_bind (wpAny_pure (wpAny_pure (And.intro rfl (inn _ rfl))))
      · refine wpAny_bind (wpAny_rule ?_)
        show wpAny _ _ (standAt i2.pos >>= _) _ _ _
        refine wpAny_bind (wpAny_standAt (wpAny_bind (wpAny_pyIter_listiter (it := s₆.heap.objs.size) (l := l) (i := 0) ⟨_, Heap.get?_push_size _ rfl, rfl, rfl⟩ (wpAny_pure (And.intro rfl (inn _ rfl))))))
  · have hin : j = n := by omega
    subst hin
    refine wpAny_bind (wpAny_standAt (wpAny_bind (W.done s' _ _ hst' fun s₁ hM₁ => wpAny_pure ?_)))
    exact hR s₁ ys m' (hn'.at' fun o e => hM₁.heap _ o hCw e) (hacc'.at fun o e => hM₁.heap D o hDw e)
      (hmono _ _ _ _ (fun a o e => ⟨e.1, hM₁.heap a o (fun h => e.1 (hwsub a h)) e.2⟩) hI) (hM.trans W.gtrans (hM₁.mono hwsub))
end
end Mine
end
/-! part M7 -/
section
open PySem PySem.W PyProof.Rows PySem.Spec PySem.Calls
set_option maxRecDepth 100000
set_option maxHeartbeats 1000000
namespace Mine
section
variable {prog : Program} {w : World} {A : Around} {E : Value → Shared → Prop} {s s₁ : Shared} {env : Env}

structure CompIn2 (prog : Program) (w : World) (A : Around) (s : Shared) (env : Env) (scope : Scope) (cl : List (Str × Addr)) (x : Str) (ifs : List Expr) (i2 : Expr) (Q : Value → Shared → Prop) (xv : Value) (s₁ : Shared) : Prop where
  out : Keeps s s₁ ∧ s.heap.objs.size ≤ s₁.heap.objs.size ∧ ∃ n P, SrcAt prog w A s s₁ xv n P ∧ n ≤ sizeLine ∧
      ∃ Inv : Nat → List Value → View → Prop, (∀ j ys G G', vle G G' → Inv j ys G → Inv j ys G') ∧ (∀ j ys G, Inv j ys G → ys.length ≤ 1000000) ∧ Inv 0 [] (hv s.heap) ∧
      (∀ C X j v ys s₃ oC m₃ E', s.heap.objs.size ≤ C → (∀ b ∈ X, ∃ o, s₃.heap.get? b = some o) → (∀ b ∈ X, s.heap.objs.size ≤ b) → j < n → P j v → s₃.heap.get? C = some oC → (∀ h : Heap, h.get? C = some oC → h.Ns C m₃) → m₃ x = some v → Keeps s s₃ → Inv j ys (hvx X s₃.heap) →
        wpAny (model prog w) A (forIn ifs true fun c r => if r = true then do let ok ← isTrue c (compEnvK scope cl C env) (eval c (compEnvK scope cl C env)); pure (ForInStep.yield ok) else pure (ForInStep.yield r)) (fun ok s₅ =>
          if ok = true then wpAny (model prog w) A (eval i2 (compEnvK scope cl C env)) (fun xv s₆ => Stop (∃ l zs, xv = .ref l ∧ Keeps s₃ s₆ ∧ s₃.heap.get? l = none ∧ s₆.heap.IsList l (List.toArray zs) ∧ Inv (j + 1) (ys ++ zs) (hvx X s₆.heap))) E' s₅
          else Keeps s₃ s₅ ∧ Inv (j + 1) ys (hvx X s₅.heap)) E' s₃) ∧
      (∀ D X s' ys, s.heap.objs.size ≤ D → (∀ b ∈ X, s.heap.objs.size ≤ b) → s'.heap.PlainList D ys.toArray → Inv n ys (hvx X s'.heap) → Keeps s s' → Q (.ref D) s')

theorem compIn2_seq {scope : Scope} {cl : List (Str × Addr)} {x : Str} {ifs : List Expr} {i2 : Expr} {Q : Value → Shared → Prop} {l : Addr} {items : List Value}
    (hk : Keeps s s₁) (hsz : s.heap.objs.size ≤ s₁.heap.objs.size) (hh : A.handled = none) (hl : s₁.heap.IsList l items.toArray ∨ IsTup s₁.heap l items.toArray) (hn : items.length ≤ sizeLine)
    (Inv : Nat → List Value → View → Prop) (hmono : ∀ j ys G G', vle G G' → Inv j ys G → Inv j ys G') (hlen : ∀ j ys G, Inv j ys G → ys.length ≤ 1000000) (h0 : Inv 0 [] (hv s.heap))
    (turn : ∀ C X j v ys s₃ oC m₃ E', s.heap.objs.size ≤ C → (∀ b ∈ X, ∃ o, s₃.heap.get? b = some o) → (∀ b ∈ X, s.heap.objs.size ≤ b) → items[j]? = some v → s₃.heap.get? C = some oC → (∀ h : Heap, h.get? C = some oC → h.Ns C m₃) → m₃ x = some v → Keeps s s₃ → Inv j ys (hvx X s₃.heap) →
        wpAny (model prog w) A (forIn ifs true fun c r => if r = true then do let ok ← isTrue c (compEnvK scope cl C env) (eval c (compEnvK scope cl C env)); pure (ForInStep.yield ok) else pure (ForInStep.yield r)) (fun ok s₅ =>
          if ok = true then wpAny (model prog w) A (eval i2 (compEnvK scope cl C env)) (fun xv s₆ => Stop (∃ l zs, xv = .ref l ∧ Keeps s₃ s₆ ∧ s₃.heap.get? l = none ∧ s₆.heap.IsList l (List.toArray zs) ∧ Inv (j + 1) (ys ++ zs) (hvx X s₆.heap))) E' s₅
          else Keeps s₃ s₅ ∧ Inv (j + 1) ys (hvx X s₅.heap)) E' s₃)
    (fin : ∀ D X s' ys, s.heap.objs.size ≤ D → (∀ b ∈ X, s.heap.objs.size ≤ b) → s'.heap.PlainList D ys.toArray → Inv items.length ys (hvx X s'.heap) → Keeps s s' → Q (.ref D) s') :
    CompIn2 prog w A s env scope cl x ifs i2 Q (.ref l) s₁ := by
  refine ⟨hk, hsz, items.length, fun i v => items[i]? = some v, ?_, hn, Inv, hmono, hlen, h0, fun C X j v ys s₃ oC m₃ E' a1 a2 a3 _ a4 => turn C X j v ys s₃ oC m₃ E' a1 a2 a3 a4, fin⟩
  rcases hl with hl | hl
  · have := src_list (prog := prog) (w := w) hh hsz hl; simpa using this
  · have := src_tup (prog := prog) (w := w) hh hsz hl; simpa using this

theorem comp2K {i1 i2 : Expr} {x y : Str} {px py py' : Pos} {ifs : List Expr} {scope : Scope} {pos : Pos} {cl : List (Str × Addr)} {Q : Value → Shared → Prop}
    (hclos : closureFor scope env = pure cl) (hpc : ∀ h, pushCells h scope.names = h) (hcf : ∀ n, cellsFrom n scope.names cl = cl)
    (hkind : scope.kind = .function) (hnames : ∀ y ∈ scope.names, y.2 = .local → scope.names.lookup y.1 = some .local) (hx : scope.names.lookup x = some .local) (hy : scope.names.lookup y = some .local)
    (hyd : (y == ("__debug__" : Str)) = false) (hh : A.handled = none)
    (h : wpAny (model prog w) A (eval i1 env) (CompIn2 prog w A s env scope cl x ifs i2 Q) E s)
    (hs : ∀ x, foldedSetIterable i1 env x = pure x) (hs2 : ∀ C x, foldedSetIterable i2 (compEnvK scope cl C env) x = pure x) :
    wpAny (model prog w) A (eval (.ListComp (.Name y py') [⟨.Name x px, i1, ifs, 0⟩, ⟨.Name y py, i2, [], 0⟩] scope pos) env) Q E s := by
  rw [eval_ListComp]
  refine wpAny_comprehension_free (use := none) rfl hs hclos hkind hnames (wpAny_mono h (fun xv s₁ h₁ => ?_) fun _ _ e => e)
  obtain ⟨hk₁, hsz₁, n, P, src, hn, Inv, hmono, hlen, h0, turn, hfin⟩ := h₁.out
  refine src _ _ fun I s₂ fp St hk₂ hI W hfp hlive hst => ?_
  have hk := keeps_trans hk₁ hk₂
  have hIlt : I < s₂.heap.objs.size := hfp I (W.sub I (List.mem_singleton.mpr rfl))
  have hs2' : s.heap.objs.size ≤ s₂.heap.objs.size := Nat.le_trans hI (Nat.le_of_lt hIlt)
  refine wpAny_newObj_type ?_
  refine newEnv_comp ?_
  simp only [hpc, hcf, newEnv]
  generalize hH2 : s₂.heap.push { cls := .type "list", dict := none, data := .seq ([] : List Value).toArray } = H2
  have hC : H2.objs.size = s₂.heap.objs.size + 1 := by rw [← hH2, Heap.size_push]
  have hDC : s₂.heap.objs.size ≠ H2.objs.size := by rw [hC]; exact Nat.ne_of_lt (Nat.lt_succ_self _)
  have below : ∀ b, b < s.heap.objs.size → b ≠ H2.objs.size ∧ b ≠ s₂.heap.objs.size ∧ b ≠ I := fun b hb => ⟨by rw [hC]; exact Nat.ne_of_lt (Nat.lt_succ_of_lt (Nat.lt_of_lt_of_le hb hs2')), Nat.ne_of_lt (Nat.lt_of_lt_of_le hb hs2'), Nat.ne_of_lt (Nat.lt_of_lt_of_le hb hI)⟩
  have hDf : s₂.heap.objs.size ∉ fp := fun hm => Nat.lt_irrefl _ (hfp _ hm)
  have hCf : H2.objs.size ∉ fp := fun hm => by have := hfp _ hm; rw [hC] at this; exact Nat.lt_irrefl _ (Nat.lt_of_succ_lt this)
  have old : ∀ b o, s₂.heap.get? b = some o → (H2.push { cls := .type "dict", data := .dict #[] }).get? b = some o := fun b o e => Heap.get?_push_of_some _ (hH2 ▸ Heap.get?_push_of_some _ e)
  have hacc : (H2.push { cls := .type "dict", data := .dict #[] }).PlainList s₂.heap.objs.size (#[] : Array Value) := ⟨_, Heap.get?_push_of_some _ (hH2 ▸ Heap.get?_push_size _ rfl)⟩
  have hst' : St 0 { s₂ with heap := H2.push { cls := .type "dict", data := .dict #[] } } := W.frame 0 s₂ _ _ hst (Nat.le_refl _) fun b _ o e => old b o e
  have hex : ∀ b ∈ (s₂.heap.objs.size :: H2.objs.size :: [I]), s.heap.objs.size ≤ b := by
    intro b hb
    simp only [List.mem_cons, List.not_mem_nil, or_false] at hb
    rcases hb with rfl | rfl | rfl
    · exact hs2'
    · rw [hC]; exact Nat.le_succ_of_le hs2'
    · exact hI
  have mkK : ∀ s₃ : Shared, Moved (s₂.heap.objs.size :: H2.objs.size :: [I]) (fun a b => b = a) { s₂ with heap := H2.push { cls := .type "dict", data := .dict #[] } } s₃ → Keeps s s₃ := by
    intro s₃ hM
    obtain ⟨h', tk, rfl, kk⟩ := hk
    refine ⟨s₃.heap, s₃.toks, ?_, fun b o e => hM.heap b o ?_ (old b o (kk b o e))⟩
    · obtain ⟨a1, a2, a3, a4, a5⟩ := s₃
      have e1 := hM.gens; have e2 := hM.drawn; have e3 := hM.os
      dsimp only at e1 e2 e3
      subst e1; subst e2; subst e3; rfl
    · intro hm
      exact absurd (hex b hm) (Nat.not_le.mpr (Heap.lt_size e))
  have loop : codeAny (model prog w) A (.compLoop (.ListComp (.Name y py') [⟨.Name x px, i1, ifs, 0⟩, ⟨.Name y py, i2, [], 0⟩] scope pos) 0 (.ref I) (.ref s₂.heap.objs.size) (compEnvK scope cl H2.objs.size env))
      (compPost (model prog w) A E none Q (.ref s₂.heap.objs.size) H2.objs.size) { s₂ with heap := H2.push { cls := .type "dict", data := .dict #[] } } := by
    refine loop2 (C := H2.objs.size) (cenv := compEnvK scope cl H2.objs.size env) W hh rfl (lookup_relabel_local hy) hkind hyd Inv hmono hlen hDC hDf hCf hst' hacc ⟨_, Heap.Ns.new ..⟩ ?_ (hs2 _) ?_ ?_ (fun _ => rfl)
    · exact hmono _ _ _ _ (fun a o e => ⟨fun hm => absurd (hex a hm) (Nat.not_le.mpr (Heap.lt_size e)), old a o (kold hk a o e)⟩) h0
    · intro j v ys s₃ m₃ hj hPv hSt hm₃ ⟨nD, hD⟩ hM hI'
      refine wpAny_assign_Name (wpAny_storeName_local (lookup_relabel_local hx) hm₃ (fun h₄ hn₄ hs₄ => ?_) (by simp [compEnvK, relabel, hkind]))
      have hDlt3 : s₂.heap.objs.size < s₃.heap.objs.size := Heap.lt_size hD
      have hk₃ := mkK s₃ hM
      have hk₄ : Keeps s { s₃ with heap := h₄, toks := s₃.toks + 1 } := by
        obtain ⟨h', tk, rfl, kk⟩ := hk₃
        exact ⟨h₄, _, rfl, fun b o e => hs₄.extBut b o (below b (Heap.lt_size e)).1 (kk b o e)⟩
      have hI'' : Inv j ys (hvx (s₂.heap.objs.size :: H2.objs.size :: [I]) h₄) := hmono _ _ _ _ (fun a o e => ⟨e.1, hs₄.extBut a o (fun hh => e.1 (by subst hh; exact List.mem_cons_of_mem _ (List.mem_cons_self ..))) e.2⟩) hI'
      obtain ⟨oC, es, ep, hoC, r⟩ := id hn₄
      refine wpAny_mono (wpAny_toks (turn H2.objs.size (s₂.heap.objs.size :: H2.objs.size :: [I]) j v ys { s₃ with heap := h₄, toks := s₃.toks + 1 } oC _ _ (by rw [hC]; exact Nat.le_succ_of_le hs2') ?_ hex hj hPv hoC (fun h e => ⟨oC, es, ep, e, r⟩) (by simp) hk₄ hI'')) (fun ok s₅ h₅ => ?_) fun _ _ e => e.2
      · intro b hb
        simp only [List.mem_cons, List.not_mem_nil, or_false] at hb
        rcases hb with rfl | rfl | rfl
        · exact ⟨_, hs₄.extBut _ _ hDC hD⟩
        · exact ⟨_, hoC⟩
        · obtain ⟨o, ho⟩ := hlive _ _ hSt
          exact ⟨o, hs₄.extBut _ o (fun e => hCf (W.sub _ (List.mem_singleton.mpr e.symm))) ho⟩
      · have keep : ∀ s₆, Keeps { s₃ with heap := h₄, toks := s₃.toks + 1 } s₆ → s₃.toks + 1 ≤ s₆.toks → TurnEnd [H2.objs.size] (fun h => ∃ m, h.Ns H2.objs.size m) s₃ s₆ := by
          rintro s₆ ⟨h', tk, rfl, hk⟩ ht
          exact ⟨⟨h', tk, rfl, Nat.le_of_succ_le ht⟩, fun b o hb e => hk b o (hs₄.extBut b o (fun hh => hb (by rw [hh]; exact List.mem_cons_self ..)) e), ⟨_, hn₄.at' fun o e => hk _ o e⟩⟩
        cases ok with
        | false => simp only [Bool.false_eq_true, if_false] at h₅ ⊢; exact ⟨keep s₅ h₅.2.1 h₅.1, h₅.2.2⟩
        | true =>
          simp only [if_true] at h₅ ⊢
          refine wpAny_mono (wpAny_toks_of h₅.1 h₅.2) (fun xv s₆ h₆ => ?_) fun _ _ e => e.2
          obtain ⟨ht₆, ⟨l, zs, rfl, hk₆, hl1, hl2, hi⟩⟩ := h₆
          exact ⟨l, zs, rfl, keep s₆ hk₆ ht₆, (fun e => by subst e; exact nomatch (hl1.symm.trans hoC : (none : Option Obj) = some oC)), (fun e => by subst e; exact nomatch (hl1.symm.trans (hs₄.extBut _ _ hDC hD) : (none : Option Obj) = some _)), hl2, hi⟩
    · intro s' ys m' hm' hl hI' hM
      refine ⟨m', hm', fun h'' hs'' => ?_⟩
      refine hfin s₂.heap.objs.size (s₂.heap.objs.size :: H2.objs.size :: [I]) { s' with heap := h'' } ys hs2' hex (hl.extBut hs''.extBut hDC) ?_ ?_
      · exact hmono _ _ _ _ (fun a o e => ⟨e.1, hs''.extBut a o (fun hh => e.1 (by subst hh; exact List.mem_cons_of_mem _ (List.mem_cons_self ..))) e.2⟩) hI'
      · obtain ⟨h', tk, rfl, kk⟩ := mkK s' hM
        exact ⟨h'', _, rfl, fun b o e => hs''.extBut b o (below b (Heap.lt_size e)).1 (kk b o e)⟩
  exact codeAny_compStart_list loop (W.self 0 _ _ _ hst' loop)
end
end Mine
end
/-! part M8 -/
section
open PySem PySem.W PyProof.Rows PySem.Spec PySem.Calls
set_option maxRecDepth 100000
set_option maxHeartbeats 1000000
namespace Mine

/-! ## trees as objects -/
inductive N where
  | tok (a da : Addr) (ty : Str) (v : Int)
  | tree (a da l : Addr) (nm : Str) (kids : List N)
def N.addr : N → Addr
  | .tok a _ _ _ => a
  | .tree a _ _ _ _ => a
abbrev N.val (n : N) : Value := .ref n.addr
mutual
def N.row : N → Row
  | .tok _ _ ty v => .tok ty v
  | .tree _ _ _ nm ks => .tree nm (N.rows ks)
def N.rows : List N → List Row
  | [] => []
  | n :: ns => n.row :: N.rows ns
end
theorem rows_eq : ∀ ks : List N, N.rows ks = ks.map N.row
  | [] => rfl
  | k :: ks => by simp [N.rows, rows_eq ks]
mutual
inductive TV (G : View) : N → Prop where
  | tok {a da ty v h1 h2 k1 k2 t1 t2} : G a (instObj 52 da) → G da (dictOf [⟨h1, .str "type" k1, .str ty t1⟩, ⟨h2, .str "value" k2, .int v t2⟩] 2) → TV G (.tok a da ty v)
  | tree {a da l nm kids h1 h2 h3 k1 k2 k3 t1 its ep} : G a (instObj 149 da) → G da (dictOf [⟨h1, .str "data" k1, .str nm t1⟩, ⟨h2, .str "children" k2, .ref l⟩, ⟨h3, .str "_meta" k3, .none⟩] 3) →
      G l (listOf its ep) → its.toList = kids.map N.val → TVs G kids → TV G (.tree a da l nm kids)
inductive TVs (G : View) : List N → Prop where
  | nil : TVs G []
  | cons {n ns} : TV G n → TVs G ns → TVs G (n :: ns)
end
mutual
theorem TV.mono {G G' : View} (h : vle G G') : ∀ {n}, TV G n → TV G' n
  | _, .tok a b => .tok (h _ _ a) (h _ _ b)
  | _, .tree a b c d e => .tree (h _ _ a) (h _ _ b) (h _ _ c) d (TVs.mono h e)
theorem TVs.mono {G G' : View} (h : vle G G') : ∀ {n}, TVs G n → TVs G' n
  | _, .nil => .nil
  | _, .cons a b => .cons (TV.mono h a) (TVs.mono h b)
end
theorem TVs.get {G : View} : ∀ {ns : List N} (_ : TVs G ns) {n : N}, n ∈ ns → TV G n
  | _, .cons a _, _, .head _ => a
  | _, .cons _ b, _, .tail _ m => b.get m

theorem instF {h₀ h : Heap} {L : Addr} {m : Str → Option Value} {x C : Addr} {ox : Obj} {od : Option Obj} (I : InstAt h₀ x ox C od) (F : Fr h₀ L h m) : InstAt h x ox C od := by
  obtain ⟨a, b, c, d⟩ := I
  refine ⟨F.keep _ _ a, b, c, ?_⟩
  revert d
  cases od <;> cases ox.dict <;> (first | exact id | exact fun d => F.keep _ _ d | (intro d; exact d))

theorem tupFr {h₀ h : Heap} {L a : Addr} {news : List (Addr × Obj)} {items : Array Value} {n : Nat} (N : News h₀ L h news) (hm : (a, ({ cls := .type "tuple", data := .seq items n } : Obj)) ∈ news) : TupV (FrV h₀ h) a items :=
  ⟨_, ⟨(N _ hm).2.2, N.get hm⟩, rfl, n, rfl⟩
theorem tupFr' {h₀ h : Heap} {L a : Addr} {news : List (Addr × Obj)} {items its : Array Value} {n : Nat} (N : News h₀ L h news) (hm : (a, ({ cls := .type "tuple", data := .seq its n } : Obj)) ∈ news) (e : its = items) : TupV (FrV h₀ h) a items := by
  subst e; exact tupFr N hm
theorem vle_fr {h₀ h : Heap} {L : Addr} {news Z : List (Addr × Obj)} (N : News h₀ L h news) (hs : ∀ q ∈ Z, q ∈ news) : vle (fun a o => (a, o) ∈ Z) (FrV h₀ h) := fun _ _ e => ⟨(N _ (hs _ e)).2.2, (N _ (hs _ e)).1⟩
theorem vle_news {h h' : Heap} {Z : List Addr} : vle (fun a o => h.get? a = none ∧ hvx Z h' a o) (fun a o => (a, o) ∈ newsOf h h') := fun _ _ e => mem_newsOf.mpr ⟨e.1, e.2.2⟩
theorem get_none {h h' : Heap} (hk : ∀ b o, h.get? b = some o → h'.get? b = some o) {a : Addr} (e : h'.get? a = none) : h.get? a = none := by
  cases q : h.get? a with
  | none => rfl
  | some o => have := hk _ _ q; rw [e] at this; cases this
/-- what a call within a turn made is seen behind the turn -/
theorem vle_turn {h h₃ h₆ : Heap} {Z : List Addr} (hk : ∀ b o, h.get? b = some o → h₃.get? b = some o) (hZ : ∀ b ∈ Z, ∃ o, h₃.get? b = some o) : vle (FrV h₃ h₆) (fun a o => h.get? a = none ∧ hvx Z h₆ a o) :=
  fun a _ e => ⟨get_none hk e.1, (fun hm => by obtain ⟨o', ho'⟩ := hZ a hm; rw [e.1] at ho'; cases ho'), e.2⟩
theorem vle_grow {h h₃ h₆ : Heap} {Z : List Addr} (hk : ∀ b o, h₃.get? b = some o → h₆.get? b = some o) : vle (fun a o => h.get? a = none ∧ hvx Z h₃ a o) (fun a o => h.get? a = none ∧ hvx Z h₆ a o) :=
  fun a o e => ⟨e.1, e.2.1, hk a o e.2.2⟩
theorem comp_fin {h₀ h h' : Heap} {L D : Addr} {m : Str → Option Value} {news : List (Addr × Obj)} {o : Obj} (F : Fr h₀ L h m) (N : News h₀ L h news) (hk : ∀ b o, h.get? b = some o → h'.get? b = some o) (hl : h'.get? D = some o) (hD : h.objs.size ≤ D) :
    Fr h₀ L h' m ∧ News h₀ L h' ((D, o) :: (newsOf h h' ++ news)) := by
  obtain ⟨F', N'⟩ := grown F N hk
  exact ⟨F', news_add' F N' hl hD⟩
theorem keeps_of' {s s' : Shared} {h : Heap} {L : Addr} {m : Str → Option Value} {tk : Nat} (k : Keeps s s') (F : Fr s.heap L h m) : Keeps s { s' with heap := h, toks := tk } := by
  obtain ⟨h', tk', rfl, _⟩ := k; exact ⟨h, tk, rfl, F.keep⟩
theorem keeps_heap {s s' : Shared} {h : Heap} {L : Addr} {m : Str → Option Value} {h₁ : Heap} {t : Nat} (k : Keeps { s with heap := h₁, toks := t } s') (F : Fr s.heap L s'.heap m) : Keeps s s' := by
  obtain ⟨h', tk', rfl, _⟩ := k; exact ⟨h', tk', rfl, F.keep⟩
theorem rows_get {ks : List N} {i : Nat} {k : N} (h : ks[i]? = some k) : (N.rows ks)[i]? = some k.row := by rw [rows_eq, List.getElem?_map, h]; rfl
theorem vals_get {ks : List N} {i : Nat} {v : Value} (h : (ks.map N.val)[i]? = some v) : ∃ k, ks[i]? = some k ∧ v = k.val := by
  rw [List.getElem?_map] at h
  obtain ⟨k, h1, h2⟩ := Option.map_eq_some_iff.mp h
  exact ⟨k, h1, h2.symm⟩

end Mine
end
/-! part N1 -/
section
open PySem PySem.W PyProof.Rows PySem.Spec PySem.Calls
set_option maxRecDepth 100000
set_option maxHeartbeats 1000000
namespace Mine
/-! ## names: the tests on the scope in one equation, so that the kernel shows it -/
section
variable {M : Model} {A : Around} {E : Value → Shared → Prop} {s : Shared} {K : Frag} {h₀ : Heap} {L a : Addr} {m mg mb : Str → Option Value} {cn : Str} {cs : Scope} {ccd : Value} {cl : List (Str × Addr)} {p : Program} {loose : List Str}
  {x : Str} {pos : Pos} {v : Value} {Q : Value → Shared → Prop} {news : List (Addr × Obj)} {c : Addr} {o : Obj}
theorem nmxL (F : Fr h₀ L s.heap m) (k : (cs.kind, cs.names.lookup x, x == ("__debug__" : Str)) = (.function, some .local, false)) (hv : m x = some v) (h : Q v s) :
    wpAny M A (eval (.Name x pos) (envX cn cs L a ccd cl)) Q E s := nameX_L F hv h (congrArg (·.1) k) (congrArg (·.2.1) k) (congrArg (·.2.2) k)
theorem nmxC (N : News h₀ L s.heap news) (k : (cs.kind, cs.names.lookup x, x == ("__debug__" : Str)) = (.function, some .cell, false)) (hc : cl.lookup x = some c) (hm : (c, o) ∈ news) (hd : o.data = .cell (some v)) (h : Q v s) :
    wpAny M A (eval (.Name x pos) (envX cn cs L a ccd cl)) Q E s := nameX_C N hc hm hd h (congrArg (·.1) k) (congrArg (·.2.1) k) (congrArg (·.2.2) k)
theorem nmxK (F : Fr h₀ L s.heap m) (X : K.In h₀) (T : TopRead p loose mg mb h₀) (k : (cs.kind, cs.names.lookup x, x == ("__debug__" : Str)) = (.function, some .globalImplicit, false)) (e : nsIn K mainGlobals x = some (some v)) (h : Q v s) :
    wpAny M A (eval (.Name x pos) (envX cn cs L a ccd cl)) Q E s := nameX_K F X T e h (congrArg (·.1) k) (congrArg (·.2.1) k) (congrArg (·.2.2) k)
theorem nmxB (F : Fr h₀ L s.heap m) (X : K.In h₀) (T : TopRead p loose mg mb h₀) (k : (cs.kind, cs.names.lookup x, x == ("__debug__" : Str)) = (.function, some .globalImplicit, false)) (e : nsIn K mainGlobals x = some none) (hv : bootBuiltins x = some v)
    (hn : x ≠ "__name__") (h : Q v s) : wpAny M A (eval (.Name x pos) (envX cn cs L a ccd cl)) Q E s := nameX_B F X T e hv hn h (congrArg (·.1) k) (congrArg (·.2.1) k) (congrArg (·.2.2) k)
end
end Mine
end
section
open PySem PySem.W PyProof.Rows PySem.Spec PySem.Calls Mine
local macro_rules | `(tactic| k_room) => `(tactic| ((try simp only [depth_mark, depth_under_make, depth_under_kw, depth_in1, depth_deeper, depth_caller]); (try dsimp only); omega))
local macro_rules | `(tactic| walk_at "eval ListComp") => `(tactic| refine stop_here ?_)
local macro_rules | `(tactic| walk_at "Keeps") => `(tactic| first | exact keeps_of (by assumption) | exact keeps_of' (by assumption) (by assumption) | exact ⟨_, _, rfl, fun _ _ e => e⟩)
local macro_rules | `(tactic| walk_at "eval Name") => `(tactic| ((with_reducible show wpAny _ _ (eval (Expr.Name _ _) (compEnvK _ _ _ _)) _ _ _); k_dflt (first
  | (refine' nmC ?k1 ?k2 ?k3 ?k4 ?_ ?k5 ?k6 ?k7; (case k1 => k_asm); (case k2 => k_mem); (case k3 => assumption); (case k6 => exact rfl); (case k4 => assumption); (case k5 => exact rfl); (case k7 => decide); k_whole)
  | (refine' nmF ?k1 ?k2 ?k3 ?k4 ?_ ?k5 ?k6 ?k7 ?k8; (case k6 => first | exact .inl rfl | exact .inr rfl); (case k2 => exact rfl); (case k1 => k_asm); (case k3 => k_mem); (case k4 => first | assumption | exact rfl); (case k5 => exact rfl); (case k7 => decide); (case k8 => decide); k_whole)
  | (refine' nmG ?k1 ?k2 ?k3 ?k4 ?_ ?k5 ?k6 ?k7 ?k8; (case k1 => k_asm); (case k2 => k_asm); (case k3 => k_asm); (case k4 => k_is); (case k5 => exact rfl); (case k6 => exact rfl); (case k7 => exact rfl); (case k8 => decide); k_whole)
  | (refine' nmB ?k1 ?k2 ?k3 ?k4 ?k4b ?k4c ?_ ?k5 ?k5b ?k6 ?k7 ?k8; (case k1 => k_asm); (case k2 => k_asm); (case k3 => k_asm); (case k4 => k_is); (case k4b => boot_by_name); (case k4c => decide); (case k5 => exact rfl); (case k5b => exact rfl); (case k6 => exact rfl); (case k7 => exact rfl); (case k8 => decide); k_whole))))
local macro_rules | `(tactic| tm_at "my enter") => `(tactic| (k_dflt (refine' (enterD ?k0 ?k1 ?k2 ?k3 ?k4 ?k5 ?_ ?c2 ?c3 ?c4 ?c5); (case k0 => assumption); (case k1 => k_is); (case k2 => k_is); (case k3 => ((try dsimp only); omega)); (case k4 => exact BindsTo.of_eq rfl); (case k5 => exact locs rfl); (case c2 => exact rfl); (case c3 => exact rfl); (case c4 => exact rfl); (case c5 => decide); k_whole)))
local macro_rules | `(tactic| tm_at "my comp") => `(tactic| (refine ⟨?_⟩; k_dflt (refine' comp1K (cl := []) ?hclos ?hpc ?hcf ?hkind ?hnames ?hx ?_ ?hs; (case hclos => exact closureFor_none (by decide)); (case hpc => exact fun _ => rfl); (case hcf => exact fun _ => rfl); (case hkind => exact rfl); (case hnames => decide); (case hx => exact rfl); (case hs => exact fun _ => rfl); k_whole)))
local macro_rules | `(tactic| k_inst) => `(tactic| exact instF (by assumption) (by k_asm))
local macro_rules | `(tactic| tm_at "my comp2") => `(tactic| (refine ⟨?_⟩; k_dflt (refine' comp2K (cl := []) ?hclos ?hpc ?hcf ?hkind ?hnames ?hx ?hy ?hyd ?hh ?_ ?hs ?hs2; (case hclos => exact closureFor_none (by decide)); (case hpc => exact fun _ => rfl); (case hcf => exact fun _ => rfl); (case hkind => exact rfl); (case hnames => decide); (case hx => exact rfl); (case hy => exact rfl); (case hyd => decide); (case hh => assumption); (case hs => exact fun _ => rfl); (case hs2 => exact fun _ _ => rfl); k_whole)))
local macro_rules | `(tactic| k_all) => `(tactic| assumption)
local macro_rules | `(tactic| walk_at "GrowPost") => `(tactic| fail "stop")
local macro_rules | `(tactic| tm_at "my size") => `(tactic| first | omega | (refine Nat.le_trans (slicePick_size_le _ _ _ _) ?_; omega) | (rw [sizeLine_eq]; omega) | (rw [sizeLine_eq]; refine Nat.le_trans (slicePick_size_le _ _ _ _) ?_; omega))
local macro_rules | `(tactic| walk_at "callWith ref") => `(tactic| ((with_reducible show wpAny _ _ (callWith _ (Value.ref _) _ (backTo _ (starEach (_ :: _) _)) []) _ _ _); k_dflt (refine' callWith_K ?k1 ?k2 ?_; (case k1 => k_asm); (case k2 => k_is); k_whole)))
local macro_rules | `(tactic| walk_at "callWith") => `(tactic| ((with_reducible show wpAny _ _ (callWith _ (Value.builtin _) (_ :: _) (backTo _ (starEach (_ :: _) _)) []) _ _ _); refine callWith_method1 ?_))
local macro_rules | `(tactic| walk_at "eval Name") => `(tactic| ((first | (with_reducible show wpAny _ _ (eval (Expr.Name _ _) (envOfC _ _ _ _ _)) _ _ _) | (with_reducible show wpAny _ _ (eval (Expr.Name _ _) (envOf _ _ _ _ _)) _ _ _)); k_dflt (first
  | (refine' nmxL ?F ?k ?v ?_; (case k => kernel_rfl!); (case F => k_asm); (case v => exact rfl); k_whole)
  | (refine' nmxC ?N ?k ?c ?m ?d ?_; (case k => kernel_rfl!); (case N => k_asm); (case c => exact rfl); (case m => k_mem); (case d => k_asm); k_whole)
  | (refine' nmxK ?F ?X ?T ?k ?e ?_; (case k => kernel_rfl!); (case F => k_asm); (case X => k_asm); (case T => k_asm); (case e => k_is); k_whole)
  | (refine' nmxB ?F ?X ?T ?k ?e ?v ?n ?_; (case k => kernel_rfl!); (case F => k_asm); (case X => k_asm); (case T => k_asm); (case e => k_is); (case v => boot_fast); (case n => decide); k_whole))))
local macro_rules | `(tactic| walk_at "subscriptTail") => `(tactic| ((with_reducible show wpAny _ _ (subscriptTail _ _ (Value.ref _) (Value.int _ _)) _ _ _); k_dflt (first
  | (refine' item_tupleL ?t ?a ?b ?c ?d ?_; (case t => first | (with_reducible assumption) | exact Fr.tup (by assumption) (by assumption)); (case a => decide); (case b => decide); (case c => exact rfl); (case d => exact rfl))
  | (refine' item_tupleT ?t ?a ?b ?c ?d ?_; (case t => exact News.isTup (by k_asm) (by k_mem)); (case a => decide); (case b => decide); (case c => exact rfl); (case d => exact rfl); k_whole))))
local macro_rules | `(tactic| walk_at "ite") => `(tactic| first | (with_reducible refine ite_pos (c := true = true) rfl ?_) | (with_reducible refine ite_neg (c := false = true) Bool.false_ne_true ?_) | (k_closed; (with_reducible refine' ite_pos ?hc ?_); (case hc => k_dflt decide)) | (k_closed; (with_reducible refine' ite_neg ?hc ?_); (case hc => k_dflt decide)))
local macro_rules | `(tactic| walk_at "subscriptTail Name Constant ref int") => `(tactic| ((with_reducible show wpAny _ _ (subscriptTail _ _ (Value.ref _) (Value.int _ _)) _ _ _); k_dflt (first
  | (refine' item_tupleL ?t ?a ?b ?c ?d ?_; (case t => first | (with_reducible assumption) | exact Fr.tup (by assumption) (by assumption)); (case a => decide); (case b => decide); (case c => exact rfl); (case d => exact rfl))
  | (refine' item_tupleT ?t ?a ?b ?c ?d ?_; (case t => exact News.isTup (by k_asm) (by k_mem)); (case a => decide); (case b => decide); (case c => exact rfl); (case d => exact rfl); k_whole))))
local macro_rules | `(tactic| walk_at "call builtin:isinstance") => `(tactic| ((with_reducible show wpAny _ _ (call _ [Value.ref _, Value.ref _]) _ _ _); k_dflt (first
  | (refine' isi_call ?k1 ?k2 ?k3 ?k4 ?_; (case k1 => k_in); (case k2 => (intro M; exact InstAt.type (by k_inst))); (case k3 => k_is); (case k4 => intro e; cases e); k_whole)
  | (refine' kin_callC ?k1 ?k2 ?k3 ?k4 ?k5 ?k6 ?k7 ?k8 ?k9 ?_; (case k1 => k_in); (case k2 => k_inst); (case k3 => kin_no); (case k4 => k_is); (case k5 => k_is); (case k6 => k_is); (case k7 => k_is); (case k8 => k_is); (case k9 => k_is); k_whole))))
local macro_rules | `(tactic| walk_at "spliced") => `(tactic| k_dflt (first | (refine args_cons ?_) | (refine args_nil ⟨Fr.keep (by assumption) _ _ (by assumption), ?_⟩) | (refine args_nil ?_; try simp only [List.cons_append, List.nil_append])))
local macro_rules | `(tactic| walk_at "eval Call") => `(tactic| k_dflt (refine Call_ ?_))
local macro_rules | `(tactic| walk_at "eval BinOp") => `(tactic| refine wpAny_BinOp ?_)
local macro_rules | `(tactic| walk_at "eval List") => `(tactic| refine List_ ?_)
local macro_rules | `(tactic| walk_at "isTrue Compare") => `(tactic| refine wpAny_isTrue_Compare1 ?_)
local macro_rules | `(tactic| walk_at "exec Assign") => `(tactic| ((with_reducible show wpAny _ _ (exec (Stmt.Assign [Expr.Name _ _] _ _) _) _ _ _); k_dflt (refine wpAny_Assign_Name ?_)))
local macro_rules | `(tactic| walk_at "call ref") => `(tactic| tm_at "w call ref")
local macro_rules | `(tactic| walk_at "call builtin:len") => `(tactic| tm_at "w call builtin:len")
local macro_rules | `(tactic| walk_at "subscriptTail Name Slice ref ref") => `(tactic| tm_at "w subscriptTail Name Slice ref ref")
local macro_rules | `(tactic| walk_at "binaryOp Add ref ref") => `(tactic| tm_at "w binaryOp Add ref ref")
local macro_rules | `(tactic| walk_at "call type:tuple") => `(tactic| tm_at "w call type:tuple")
local macro_rules | `(tactic| walk_at "subscriptTail") => `(tactic| tm_at "w subscriptTail")
local macro_rules | `(tactic| walk_at "call builtin:min") => `(tactic| tm_at "w call builtin:min")
local macro_rules | `(tactic| walk_at "subscriptTail List") => `(tactic| tm_at "w subscriptTail List")
local macro_rules | `(tactic| walk_at "pyIter ref") => `(tactic| tm_at "w pyIter ref")
local macro_rules | `(tactic| walk_at "compareOp Eq ref ref") => `(tactic| tm_at "w compareOp Eq ref ref")
local macro_rules | `(tactic| walk_at "compareOp Is ref ref") => `(tactic| tm_at "w compareOp Is ref ref")
local macro_rules | `(tactic| walk_at "truthy ref") => `(tactic| tm_at "w truthy ref")
local macro_rules | `(tactic| walk_at "Opq") => `(tactic| tm_at "w Opq")
local macro_rules | `(tactic| walk_at "call type:reversed") => `(tactic| tm_at "w call type:reversed")
local macro_rules | `(tactic| walk_at "call builtin:list.append") => `(tactic| tm_at "w call builtin:list.append")
local macro_rules | `(tactic| walk_at "exec For Name Name cons nil") => `(tactic| tm_at "w exec For Name Name cons nil")
local macro_rules | `(tactic| walk_at "eval ListComp") => `(tactic| tm_at "w eval ListComp")
local macro_rules | `(tactic| walk_at "compareOp In str ref") => `(tactic| tm_at "w compareOp In str ref")
local macro_rules | `(tactic| walk_at "callWith ref") => `(tactic| tm_at "w callWith ref")
local macro_rules | `(tactic| walk_at "assign Tuple") => `(tactic| tm_at "w assign Tuple")
local macro_rules | `(tactic| walk_at "unpackItems ref") => `(tactic| tm_at "w unpackItems ref")
local macro_rules | `(tactic| walk_at "compareOp NotEq ref ref") => `(tactic| tm_at "w compareOp NotEq ref ref")
local macro_rules | `(tactic| walk_at "newTuple") => `(tactic| tm_at "w newTuple")
local macro_rules | `(tactic| walk_at "compareOp NotEq") => `(tactic| tm_at "w compareOp NotEq")
local macro_rules | `(tactic| walk_at "newList") => `(tactic| tm_at "w newList")
local macro_rules | `(tactic| walk_at "subscriptTail Name Name ref int") => `(tactic| tm_at "w subscriptTail Name Name ref int")
local macro_rules | `(tactic| walk_at "call builtin:sorted") => `(tactic| tm_at "w call builtin:sorted")
local macro_rules | `(tactic| walk_at "eval IfExp") => `(tactic| tm_at "w eval IfExp")
local macro_rules | `(tactic| walk_at "call type:list") => `(tactic| tm_at "w call type:list")
local macro_rules | `(tactic| walk_at "compareOp In") => `(tactic| tm_at "w compareOp In")
local macro_rules | `(tactic| walk_at "exec For") => `(tactic| tm_at "w exec For")
namespace Mine
theorem off_top : True ∧ True := by
  w_top off
  first
    | (walk1; fail "again")
    | exact ⟨trivial, trivial⟩
end Mine
/-! part F1 -/
section
open PySem PySem.W PyProof.Rows PySem.Spec PySem.Calls
set_option maxRecDepth 100000
set_option maxHeartbeats 4000000
namespace Mine
theorem size_pos (r : Row) : 1 ≤ r.size := by cases r <;> simp [Row.size]
theorem len_sizes : ∀ ks : List Row, ks.length ≤ Row.sizes ks
  | [] => Nat.le_refl _
  | r :: rs => by have := len_sizes rs; have := size_pos r; simp only [Row.sizes, List.length_cons]; omega

/-! ## _law_count -/
mutual
def Row.count : Row → Nat
  | .tok _ _ => 0
  | .tree _ ks => 1 + Row.counts ks
def Row.counts : List Row → Nat
  | [] => 0
  | r :: rs => r.count + Row.counts rs
end
theorem counts_sum : ∀ ks : List Row, (ks.map fun r : Row => (r.count : Int)).sum = (Row.counts ks : Int)
  | [] => rfl
  | r :: rs => by simp only [List.map_cons, List.sum_cons, Row.counts, counts_sum rs]; omega
def IsIntV (x : Value) (i : Int) : Prop := ∃ t, x = .int i t

section
local macro_rules | `(tactic| tm_at "w call ref") => `(tactic| ((with_reducible show wpAny _ _ (call (Value.ref 177) _ _) _ _ _); refine stop_here ?_))
theorem count_spec {w : World} {p : Program} {loose : List Str} {mean : ExcName → Option Value} {mg mb : Str → Option Value} : ∀ (n : Nat) (r : Row), r.size < n → ∀ (A : Around) (base : Heap) (fr : List Env) (s : Shared) (v : Value) (E : Value → Shared → Prop),
    Amb w p loose mean mg mb A base fr s.heap → RV (hv s.heap) v r → r.size ≤ 10000 → A.depth + 2 * r.hgt < recursionLimit → A.units + 40 * r.hgt < cLine →
    wpAny (model PySem.Challenge.rw_fi0013_01.row.prog w) A (call (.ref 177) [v]) (fun x s' => Keeps s s' ∧ IsIntV x (r.count : Int)) E s := by
  intro n
  induction n with
  | zero => intro r h; exact absurd h (Nat.not_lt_zero _)
  | succ n ih =>
    intro r hr A base fr s v E H hv' hz hd' hu'
    obtain ⟨X, T, B, hh⟩ := id H
    revert X; k_fill; intro X
    have hpos := hgt_pos r
    cases hv' with
    | tok ht =>
      have ht' : IsTup s.heap _ _ := ht
      refine wpAny_call ?_
      tm_at "my enter"
      intro L' h₁ F' N'
      (try dsimp only); (try k_fold)
      k_steps
      exact ⟨_, rfl⟩
    | @tree a b t0 t1 nm vs ks ht hk hks =>
      have ht' : IsTup s.heap _ _ := ht
      have hk' : IsTup s.heap _ _ := hk
      refine wpAny_call ?_
      tm_at "my enter"
      intro L' h₁ F' N'
      (try dsimp only); (try k_fold)
      k_steps
      tm_at "my comp"
      k_steps
      refine' compIn_seq (items := vs) ?_ (Nat.le_refl _) hh (.inr ?_) ?_ (fun (j : Nat) (ys : List Value) (_ : View) => IntsAre ys ((ks.take j).map fun r : Row => (r.count : Int))) (fun _ _ _ _ _ h => h) ?_ ?_ ?_ ?_
      · exact ⟨_, _, rfl, fun _ _ e => e⟩
      · exact hk'.keeps F'.keep
      · have := hks.length; have := len_sizes ks; simp only [Row.size] at hz; rw [sizeLine_eq]; omega
      · intro j ys G h; have := h.length; rw [List.length_map, List.length_take] at this; omega
      · exact .nil
      · intro C Z j v ys s₃ oC m₃ E' hC hZ1 hZ2 hj hoC hns hm hk₃ hI
        have F₃ := F'.keeps (kold hk₃)
        have N₃ := news_add' F' (N'.grown (kold hk₃)) hoC hC
        obtain ⟨r', hr', hv₃⟩ := hks.get hj
        rw [List.forIn_nil]
        refine wpAny_pure ?_
        rw [if_pos rfl]
        k_steps
        refine ⟨wpAny_mono (ih r' ?_ _ _ _ s₃ v E' (amb_of B F₃ X T (Around.frames_deeper B.stack) rfl rfl hh) (hv₃.mono (fun a o e => F₃.keep a o e)) ?_ ?_ ?_) (fun y s₆ h₆ => ?_) fun _ _ e => e⟩
        · have := size_mem (List.mem_of_getElem? hr'); simp only [Row.size] at hr; omega
        · have := size_mem (List.mem_of_getElem? hr'); simp only [Row.size] at hz; omega
        · have := hgt_mem (List.mem_of_getElem? hr'); simp only [Row.hgt] at hd'; simp only [depth_deeper]; omega
        · have := hgt_mem (List.mem_of_getElem? hr'); simp only [Row.hgt] at hu'; simp only [units_deeper]; omega
        · obtain ⟨hk₆, t', rfl⟩ := h₆
          refine ⟨hk₆, ?_⟩
          rw [take_succ_get hr', List.map_append]
          exact ksk_snoc hI
      · intro D Z s' ys hD hZ ⟨e4, hl⟩ hI hk₄
        obtain ⟨h4, tk4, rfl, hk₄'⟩ := hk₄
        have F₄ := F'.keeps hk₄'
        have N₄ := news_add' F' (N'.grown hk₄') hl hD
        rw [List.take_of_length_le (by have := hks.length; omega)] at hI
        dsimp only
        k_steps
        k_dflt refine' PyProof.Rows.LSm.sum_ints F₄ N₄ hh (N₄.isList (.head _)) (by simpa using hI) ?_
        intro h5 tk5 t5 F5 N5
        (try dsimp only)
        k_steps
        exact ⟨_, by rw [counts_sum]; simp only [Row.count]; push_cast; rfl⟩
end

/-! ## _law_row -/
section
local macro_rules | `(tactic| tm_at "w call ref") => `(tactic| ((with_reducible show wpAny _ _ (call (Value.ref 172) _ _) _ _ _); refine stop_here ?_))
theorem row_spec {w : World} {p : Program} {loose : List Str} {mean : ExcName → Option Value} {mg mb : Str → Option Value} : ∀ (n : Nat) (t : N), t.row.size < n → ∀ (A : Around) (base : Heap) (fr : List Env) (s : Shared) (E : Value → Shared → Prop),
    Amb w p loose mean mg mb A base fr s.heap → TV (hv s.heap) t → t.row.size ≤ 10000 → A.depth + 2 * t.row.hgt < recursionLimit → A.units + 40 * t.row.hgt < cLine →
    wpAny (model PySem.Challenge.rw_fi0013_01.row.prog w) A (call (.ref 172) [t.val]) (fun x s' => Keeps s s' ∧ RV (FrV s.heap s'.heap) x t.row) E s := by
  intro n
  induction n with
  | zero => intro r h; exact absurd h (Nat.not_lt_zero _)
  | succ n ih =>
    intro t hr A base fr s E H hv' hz hd' hu'
    obtain ⟨X, T, B, hh⟩ := id H
    revert X; k_fill; intro X
    have hpos := hgt_pos t.row
    cases hv' with
    | @tok a da ty v h1 h2 k1 k2 t1 t2 ho hod =>
      have I : InstAt s.heap a (instObj 52 da) 52 (some _) := ⟨ho, rfl, rfl, hod⟩
      refine wpAny_call ?_
      tm_at "my enter"
      intro L' h₁ F' N'
      (try dsimp only); (try k_fold)
      k_steps
      rename News _ _ _ _ => N9
      exact .tok (tupFr N9 (.head _))
    | @tree a da l nm kids h1 h2 h3 k1 k2 k3 t1 its ep ho hod hl hits hks =>
      have I : InstAt s.heap a (instObj 149 da) 149 (some _) := ⟨ho, rfl, rfl, hod⟩
      refine wpAny_call ?_
      tm_at "my enter"
      intro L' h₁ F' N'
      (try dsimp only); (try k_fold)
      k_steps
      tm_at "my comp"
      k_steps
      refine' compIn_seq (items := kids.map N.val) ?_ (Nat.le_refl _) hh (.inl ?_) ?_ (fun (j : Nat) (ys : List Value) (G : View) => RVs (fun a o => h₁.get? a = none ∧ G a o) ys ((N.rows kids).take j)) ?_ ?_ ?_ ?_ ?_
      · exact ⟨_, _, rfl, fun _ _ e => e⟩
      · exact ⟨_, F'.keep _ _ hl, rfl, ep, by rw [← hits]⟩
      · have := len_sizes (N.rows kids); simp only [N.row, Row.size] at hz; rw [rows_eq, List.length_map, ← rows_eq] at this; rw [sizeLine_eq, List.length_map]; omega
      · exact fun j ys G G' hg h => h.mono fun a o e => ⟨e.1, hg _ _ e.2⟩
      · intro j ys G h; have := h.length; rw [List.length_take] at this; omega
      · exact .nil
      · intro C Z j v ys s₃ oC m₃ E' hC hZ1 hZ2 hj hoC hns hm hk₃ hI
        have F₃ := F'.keeps (kold hk₃)
        have N₃ := news_add' F' (N'.grown (kold hk₃)) hoC hC
        obtain ⟨k, hkj, rfl⟩ := vals_get hj
        have hr' := rows_get hkj
        rw [List.forIn_nil]
        refine wpAny_pure ?_
        rw [if_pos rfl]
        k_steps
        (first | walk_at "call ref" | skip)
        have hmem := List.mem_of_getElem? hr'
        refine ⟨wpAny_mono (ih k ?_ _ _ _ s₃ E' (amb_of B F₃ X T (Around.frames_deeper B.stack) rfl rfl hh) ((hks.get (List.mem_of_getElem? hkj)).mono (fun a o e => F₃.keep a o e)) ?_ ?_ ?_) (fun y s₆ h₆ => ?_) fun _ _ e => e⟩
        · have := size_mem hmem; simp only [N.row, Row.size] at hr; omega
        · have := size_mem hmem; simp only [N.row, Row.size] at hz; omega
        · have := hgt_mem hmem; simp only [N.row, Row.hgt] at hd'; simp only [depth_deeper]; omega
        · have := hgt_mem hmem; simp only [N.row, Row.hgt] at hu'; simp only [units_deeper]; omega
        · obtain ⟨hk₆, hv₆⟩ := h₆
          refine ⟨hk₆, ?_⟩
          rw [take_succ_get hr']
          exact (hI.mono (vle_grow (kold hk₆))).snoc (hv₆.mono (vle_turn (kold hk₃) hZ1))
      · intro D Z s' ys hD hZ ⟨e4, hl4⟩ hI hk₄
        obtain ⟨h4, tk4, rfl, hk₄'⟩ := hk₄
        obtain ⟨F₄, N₄⟩ := comp_fin F' N' hk₄' hl4 hD
        rw [List.length_map, List.take_of_length_le (by rw [rows_eq, List.length_map]; exact Nat.le_refl _)] at hI
        have hI' := hI.mono vle_news
        dsimp only at hI' N₄ F₄ ⊢
        generalize newsOf h₁ h4 = Zl at hI' N₄
        k_steps
        k_dflt refine' kde_tupleOf (zs := ys) F₄ N₄ (N₄.isList (.head _)) ?_ ?_ ?_
        · have := hI.length; have h9 := len_sizes (N.rows kids); simp only [N.row, Row.size] at hz; simp only [List.size_toArray]; omega
        · simp
        intro D5 h5 F5 N5 l5
        clear F₄ N₄
        (try dsimp only)
        k_steps
        rename News _ _ _ _ => N9
        exact .tree (tupFr N9 (.head _)) (tupFr N9 (.tail _ (.head _))) (hI'.mono (vle_fr N9 fun q hq => .tail _ (.tail _ (.tail _ (List.mem_append_left _ hq)))))
end
end Mine
end
/-! part F2 -/
section
open PySem PySem.W PyProof.Rows PySem.Spec PySem.Calls
set_option maxRecDepth 100000
set_option maxHeartbeats 4000000
namespace Mine
mutual
def Row.subs : Row → List Row
  | .tok _ _ => []
  | .tree nm ks => .tree nm ks :: Row.subss ks
def Row.subss : List Row → List Row
  | [] => []
  | r :: rs => r.subs ++ Row.subss rs
end
theorem subss_append : ∀ a b : List Row, Row.subss (a ++ b) = Row.subss a ++ Row.subss b
  | [], b => rfl
  | r :: rs, b => by simp only [List.cons_append, Row.subss, subss_append rs b, List.append_assoc]
theorem subss_succ {ks : List Row} {j : Nat} {r : Row} (h : ks[j]? = some r) : Row.subss (ks.take (j + 1)) = Row.subss (ks.take j) ++ r.subs := by
  rw [take_succ_get h, subss_append]; simp [Row.subss]
mutual
theorem subs_len : ∀ r : Row, r.subs.length ≤ r.size
  | .tok _ _ => Nat.zero_le _
  | .tree _ ks => by have := subss_len ks; simp only [Row.subs, Row.size, List.length_cons]; omega
theorem subss_len : ∀ r : List Row, (Row.subss r).length ≤ Row.sizes r
  | [] => Nat.zero_le _
  | r :: rs => by have := subs_len r; have := subss_len rs; simp only [Row.subss, Row.sizes, List.length_append]; omega
end
theorem sizes_take : ∀ (ks : List Row) (j : Nat), Row.sizes (ks.take j) ≤ Row.sizes ks
  | [], j => by simp [Row.sizes]
  | r :: rs, 0 => by simp [Row.sizes]
  | r :: rs, j + 1 => by have := sizes_take rs j; simp only [List.take_succ_cons, Row.sizes]; omega

/-- a list that a call made -/
def FrL (h h' : Heap) (x : Value) (vs : List Value) : Prop := ∃ D n, x = .ref D ∧ h.get? D = none ∧ h'.get? D = some (listOf vs.toArray n)
def RowsAre (G : View) (h h' : Heap) (x : Value) (rs : List Row) : Prop := ∃ vs, FrL h h' x vs ∧ RVs G vs rs

section
local macro_rules | `(tactic| tm_at "w call ref") => `(tactic| ((with_reducible show wpAny _ _ (call (Value.ref 182) _ _) _ _ _); refine stop_here ?_))
theorem rows_spec {w : World} {p : Program} {loose : List Str} {mean : ExcName → Option Value} {mg mb : Str → Option Value} : ∀ (n : Nat) (r : Row), r.size < n → ∀ (A : Around) (base : Heap) (fr : List Env) (s : Shared) (v : Value) (G : View) (E : Value → Shared → Prop),
    Amb w p loose mean mg mb A base fr s.heap → vle G (hv s.heap) → RV G v r → r.size ≤ 10000 → A.depth + 2 * r.hgt < recursionLimit → A.units + 40 * r.hgt < cLine →
    wpAny (model PySem.Challenge.rw_fi0013_01.row.prog w) A (call (.ref 182) [v]) (fun x s' => Keeps s s' ∧ RowsAre G s.heap s'.heap x r.subs) E s := by
  intro n
  induction n with
  | zero => intro r h; exact absurd h (Nat.not_lt_zero _)
  | succ n ih =>
    intro r hr A base fr s v G E H hG hv' hz hd' hu'
    obtain ⟨X, T, B, hh⟩ := id H
    revert X; k_fill; intro X
    have hpos := hgt_pos r
    cases hv' with
    | tok ht =>
      have ht' : IsTup s.heap _ _ := ht.mono hG
      refine wpAny_call ?_
      tm_at "my enter"
      intro L' h₁ F' N'
      (try dsimp only); (try k_fold)
      k_steps
      rename News _ _ _ _ => N9
      exact ⟨[], ⟨_, _, rfl, (N9 _ (.head _)).2.2, N9.get (.head _)⟩, .nil⟩
    | @tree a b t0 t1 nm vs ks ht hk hks =>
      have ht' : IsTup s.heap _ _ := ht.mono hG
      have hk' : IsTup s.heap _ _ := hk.mono hG
      refine wpAny_call ?_
      tm_at "my enter"
      intro L' h₁ F' N'
      (try dsimp only); (try k_fold)
      k_steps
      rename Fr _ _ _ _ => F'
      rename News _ _ _ _ => N'
      tm_at "my comp2"
      k_steps
      refine' compIn2_seq (items := vs) ?_ (Nat.le_refl _) hh (.inr ?_) ?_ (fun (j : Nat) (ys : List Value) (_ : View) => RVs G ys (Row.subss (ks.take j))) (fun _ _ _ _ _ h => h) ?_ ?_ ?_ ?_
      · exact ⟨_, _, rfl, fun _ _ e => e⟩
      · exact hk'.keeps F'.keep
      · have := hks.length; have := len_sizes ks; simp only [Row.size] at hz; rw [sizeLine_eq]; omega
      · intro j ys G h; have := h.length; have := subss_len (ks.take j); have := sizes_take ks j; simp only [Row.size] at hz; omega
      · exact .nil
      · intro C Z j v ys s₃ oC m₃ E' hC hZ1 hZ2 hj hoC hns hm hk₃ hI
        have F₃ := F'.keeps (kold hk₃)
        have N₃ := news_add' F' (N'.grown (kold hk₃)) hoC hC
        obtain ⟨r', hr', hv₃⟩ := hks.get hj
        rw [List.forIn_nil]
        refine wpAny_pure ?_
        rw [if_pos rfl]
        k_steps
        (first | walk_at "call ref" | skip)
        have hmem := List.mem_of_getElem? hr'
        refine ⟨wpAny_mono (ih r' ?_ _ _ _ s₃ v G E' (amb_of B F₃ X T (Around.frames_deeper B.stack) rfl rfl hh) (fun a o e => F₃.keep a o (hG a o e)) hv₃ ?_ ?_ ?_) (fun y s₆ h₆ => ?_) fun _ _ e => e⟩
        · have := size_mem hmem; simp only [Row.size] at hr; omega
        · have := size_mem hmem; simp only [Row.size] at hz; omega
        · have := hgt_mem hmem; simp only [Row.hgt] at hd'; simp only [depth_deeper]; omega
        · have := hgt_mem hmem; simp only [Row.hgt] at hu'; simp only [units_deeper]; omega
        · obtain ⟨hk₆, vs6, ⟨D6, n6, rfl, hD6, hl6⟩, hvs6⟩ := h₆
          refine ⟨⟨D6, vs6, rfl, hk₆, hD6, ⟨_, hl6, rfl, n6, rfl⟩, ?_⟩⟩
          rw [subss_succ hr']
          exact hI.append hvs6
      · intro D Z s' ys hD hZ ⟨e4, hl4⟩ hI hk₄
        obtain ⟨h4, tk4, rfl, hk₄'⟩ := hk₄
        obtain ⟨F₄, N₄⟩ := comp_fin F' N' hk₄' hl4 hD
        rw [List.take_of_length_le (by have := hks.length; omega)] at hI
        dsimp only at N₄ F₄ ⊢
        k_dflt refine' kmk_add_lit (zs := .ref a :: ys) F₄ N₄ (N₄.isList (.tail _ (List.mem_append_right _ (.head _)))) (N₄.isList (.head _)) rfl ?_ ?_
        rotate_left
        · have := hI.length; have := subss_len ks; simp only [Row.size] at hz; rw [sizeLine_eq]; simp; omega
        intro D5 h5 F5 N5 l5
        clear F₄ N₄
        (try dsimp only)
        k_steps
        exact ⟨_, ⟨_, _, rfl, (N5 _ (.head _)).2.2, N5.get (.head _)⟩, .cons (.tree ht hk hks) hI⟩
end
/-! ## _law_tokens -/
mutual
def Row.toks : Row → List (Str × Int)
  | .tok ty v => [(ty, v)]
  | .tree _ ks => Row.tokss ks
def Row.tokss : List Row → List (Str × Int)
  | [] => []
  | r :: rs => r.toks ++ Row.tokss rs
end
theorem tokss_append : ∀ a b : List Row, Row.tokss (a ++ b) = Row.tokss a ++ Row.tokss b
  | [], b => rfl
  | r :: rs, b => by simp only [List.cons_append, Row.tokss, tokss_append rs b, List.append_assoc]
theorem tokss_succ {ks : List Row} {j : Nat} {r : Row} (h : ks[j]? = some r) : Row.tokss (ks.take (j + 1)) = Row.tokss (ks.take j) ++ r.toks := by
  rw [take_succ_get h, tokss_append]; simp [Row.tokss]
mutual
theorem toks_len : ∀ r : Row, r.toks.length ≤ r.size
  | .tok _ _ => Nat.le_refl _
  | .tree _ ks => by have := tokss_len ks; simp only [Row.toks, Row.size]; omega
theorem tokss_len : ∀ r : List Row, (Row.tokss r).length ≤ Row.sizes r
  | [] => Nat.zero_le _
  | r :: rs => by have := toks_len r; have := tokss_len rs; simp only [Row.tokss, Row.sizes, List.length_append]; omega
end
/-- pairs of a str and an int, as tuples -/
def PV (G : View) (v : Value) (q : Str × Int) : Prop := ∃ a t u, v = .ref a ∧ TupV G a #[.str q.1 t, .int q.2 u]
theorem PV.mono {G G' : View} (h : vle G G') {v q} : PV G v q → PV G' v q
  | ⟨a, t, u, e, x⟩ => ⟨a, t, u, e, x.mono h⟩
inductive PVs (G : View) : List Value → List (Str × Int) → Prop where
  | nil : PVs G [] []
  | cons {v vs r rs} : PV G v r → PVs G vs rs → PVs G (v :: vs) (r :: rs)
theorem PVs.mono {G G' : View} (h : vle G G') : ∀ {v r}, PVs G v r → PVs G' v r
  | _, _, .nil => .nil
  | _, _, .cons a b => .cons (a.mono h) (b.mono h)
theorem PVs.length {G : View} : ∀ {vs rs}, PVs G vs rs → vs.length = rs.length
  | _, _, .nil => rfl
  | _, _, .cons _ b => by simp [b.length]
theorem PVs.append {G : View} {vs' rs'} : ∀ {vs rs}, PVs G vs rs → PVs G vs' rs' → PVs G (vs ++ vs') (rs ++ rs')
  | _, _, .nil, h => h
  | _, _, .cons a b, h => .cons a (b.append h)
def ToksAre (h h' : Heap) (x : Value) (rs : List (Str × Int)) : Prop := ∃ vs, FrL h h' x vs ∧ PVs (FrV h h') vs rs

section
local macro_rules | `(tactic| tm_at "w call ref") => `(tactic| ((with_reducible show wpAny _ _ (call (Value.ref 192) _ _) _ _ _); refine stop_here ?_))
theorem toks_spec {w : World} {p : Program} {loose : List Str} {mean : ExcName → Option Value} {mg mb : Str → Option Value} : ∀ (n : Nat) (r : Row), r.size < n → ∀ (A : Around) (base : Heap) (fr : List Env) (s : Shared) (v : Value) (E : Value → Shared → Prop),
    Amb w p loose mean mg mb A base fr s.heap → RV (hv s.heap) v r → r.size ≤ 10000 → A.depth + 2 * r.hgt < recursionLimit → A.units + 40 * r.hgt < cLine →
    wpAny (model PySem.Challenge.rw_fi0013_01.row.prog w) A (call (.ref 192) [v]) (fun x s' => Keeps s s' ∧ ToksAre s.heap s'.heap x r.toks) E s := by
  intro n
  induction n with
  | zero => intro r h; exact absurd h (Nat.not_lt_zero _)
  | succ n ih =>
    intro r hr A base fr s v E H hv' hz hd' hu'
    obtain ⟨X, T, B, hh⟩ := id H
    revert X; k_fill; intro X
    have hpos := hgt_pos r
    cases hv' with
    | tok ht =>
      have ht' : IsTup s.heap _ _ := ht
      refine wpAny_call ?_
      tm_at "my enter"
      intro L' h₁ F' N'
      (try dsimp only); (try k_fold)
      k_steps
      rename News _ _ _ _ => N9
      exact ⟨_, ⟨_, _, rfl, (N9 _ (.head _)).2.2, N9.get (.head _)⟩, .cons ⟨_, _, _, rfl, tupFr N9 (.tail _ (.head _))⟩ .nil⟩
    | @tree a b t0 t1 nm vs ks ht hk hks =>
      have ht' : IsTup s.heap _ _ := ht
      have hk' : IsTup s.heap _ _ := hk
      refine wpAny_call ?_
      tm_at "my enter"
      intro L' h₁ F' N'
      (try dsimp only); (try k_fold)
      k_steps
      rename Fr _ _ _ _ => F'
      rename News _ _ _ _ => N'
      tm_at "my comp2"
      k_steps
      refine' compIn2_seq (items := vs) ?_ (Nat.le_refl _) hh (.inr ?_) ?_ (fun (j : Nat) (ys : List Value) (G : View) => PVs (fun a o => h₁.get? a = none ∧ G a o) ys (Row.tokss (ks.take j))) ?_ ?_ ?_ ?_ ?_
      · exact ⟨_, _, rfl, fun _ _ e => e⟩
      · exact hk'.keeps F'.keep
      · have := hks.length; have := len_sizes ks; simp only [Row.size] at hz; rw [sizeLine_eq]; omega
      · exact fun j ys G G' hg h => h.mono fun a o e => ⟨e.1, hg _ _ e.2⟩
      · intro j ys G h; have := h.length; have := tokss_len (ks.take j); have := sizes_take ks j; simp only [Row.size] at hz; omega
      · exact .nil
      · intro C Z j v ys s₃ oC m₃ E' hC hZ1 hZ2 hj hoC hns hm hk₃ hI
        have F₃ := F'.keeps (kold hk₃)
        have N₃ := news_add' F' (N'.grown (kold hk₃)) hoC hC
        obtain ⟨r', hr', hv₃⟩ := hks.get hj
        rw [List.forIn_nil]
        refine wpAny_pure ?_
        rw [if_pos rfl]
        k_steps
        (first | walk_at "call ref" | skip)
        have hmem := List.mem_of_getElem? hr'
        refine ⟨wpAny_mono (ih r' ?_ _ _ _ s₃ v E' (amb_of B F₃ X T (Around.frames_deeper B.stack) rfl rfl hh) (hv₃.mono fun a o e => F₃.keep a o e) ?_ ?_ ?_) (fun y s₆ h₆ => ?_) fun _ _ e => e⟩
        · have := size_mem hmem; simp only [Row.size] at hr; omega
        · have := size_mem hmem; simp only [Row.size] at hz; omega
        · have := hgt_mem hmem; simp only [Row.hgt] at hd'; simp only [depth_deeper]; omega
        · have := hgt_mem hmem; simp only [Row.hgt] at hu'; simp only [units_deeper]; omega
        · obtain ⟨hk₆, vs6, ⟨D6, n6, rfl, hD6, hl6⟩, hvs6⟩ := h₆
          refine ⟨⟨D6, vs6, rfl, hk₆, hD6, ⟨_, hl6, rfl, n6, rfl⟩, ?_⟩⟩
          rw [tokss_succ hr']
          exact (hI.mono (vle_grow (kold hk₆))).append (hvs6.mono (vle_turn (kold hk₃) hZ1))
      · intro D Z s' ys hD hZ ⟨e4, hl4⟩ hI hk₄
        obtain ⟨h4, tk4, rfl, hk₄'⟩ := hk₄
        obtain ⟨F₄, N₄⟩ := comp_fin F' N' hk₄' hl4 hD
        rw [List.take_of_length_le (by have := hks.length; omega)] at hI
        have hI' := hI.mono vle_news
        dsimp only at hI' N₄ F₄ ⊢
        generalize newsOf h₁ h4 = Zl at hI' N₄
        k_steps
        exact ⟨ys, ⟨D, e4, rfl, (N₄ _ (.head _)).2.2, N₄.get (.head _)⟩, hI'.mono (vle_fr N₄ fun q hq => .tail _ (List.mem_append_left _ hq))⟩
end
end Mine
end
/-! part F3 -/
section
open PySem PySem.W PyProof.Rows PySem.Spec PySem.Calls
set_option maxRecDepth 100000
set_option maxHeartbeats 4000000
namespace Mine
/-! ## _law_objects -/
mutual
def N.objs : N → List N
  | .tok _ _ _ _ => []
  | .tree a da l nm ks => .tree a da l nm ks :: N.objss ks
def N.objss : List N → List N
  | [] => []
  | r :: rs => r.objs ++ N.objss rs
end
theorem objss_append : ∀ a b : List N, N.objss (a ++ b) = N.objss a ++ N.objss b
  | [], b => rfl
  | r :: rs, b => by simp only [List.cons_append, N.objss, objss_append rs b, List.append_assoc]
theorem objss_succ {ks : List N} {j : Nat} {r : N} (h : ks[j]? = some r) : N.objss (ks.take (j + 1)) = N.objss (ks.take j) ++ r.objs := by
  rw [take_succ_get h, objss_append]; simp [N.objss]
mutual
theorem objs_len : ∀ r : N, r.objs.length ≤ r.row.size
  | .tok _ _ _ _ => Nat.zero_le _
  | .tree _ _ _ _ ks => by have := objss_len ks; simp only [N.objs, N.row, Row.size, List.length_cons]; omega
theorem objss_len : ∀ r : List N, (N.objss r).length ≤ Row.sizes (N.rows r)
  | [] => Nat.zero_le _
  | r :: rs => by have := objs_len r; have := objss_len rs; simp only [N.objss, N.rows, Row.sizes, List.length_append]; omega
end
theorem rows_take (ks : List N) (j : Nat) : N.rows (ks.take j) = (N.rows ks).take j := by rw [rows_eq, rows_eq, List.map_take]
theorem rows_length (ks : List N) : (N.rows ks).length = ks.length := by rw [rows_eq, List.length_map]
/-- the class of what stands there -/
def N.isTree : N → Bool
  | .tok _ _ _ _ => false
  | .tree _ _ _ _ _ => true
def N.cls (n : N) : Addr := if n.isTree then 149 else 52
theorem TV.inst {h : Heap} : ∀ {n : N}, TV (hv h) n → ∃ da od, InstAt h n.addr (instObj n.cls da) n.cls (some od)
  | _, .tok a b => ⟨_, _, ⟨a, rfl, rfl, b⟩⟩
  | _, .tree a b _ _ _ => ⟨_, _, ⟨a, rfl, rfl, b⟩⟩

section
local macro_rules | `(tactic| tm_at "w call ref") => `(tactic| ((with_reducible show wpAny _ _ (call (Value.ref 187) _ _) _ _ _); refine stop_here ?_))
theorem objs_spec {w : World} {p : Program} {loose : List Str} {mean : ExcName → Option Value} {mg mb : Str → Option Value} : ∀ (n : Nat) (t : N), t.row.size < n → t.isTree = true → ∀ (A : Around) (base : Heap) (fr : List Env) (s : Shared) (E : Value → Shared → Prop),
    Amb w p loose mean mg mb A base fr s.heap → TV (hv s.heap) t → t.row.size ≤ 10000 → A.depth + 2 * t.row.hgt < recursionLimit → A.units + 40 * t.row.hgt < cLine →
    wpAny (model PySem.Challenge.rw_fi0013_01.row.prog w) A (call (.ref 187) [t.val]) (fun x s' => Keeps s s' ∧ FrL s.heap s'.heap x (t.objs.map N.val)) E s := by
  intro n
  induction n with
  | zero => intro r h; exact absurd h (Nat.not_lt_zero _)
  | succ n ih =>
    intro t hr ht A base fr s E H hv' hz hd' hu'
    obtain ⟨X, T, B, hh⟩ := id H
    revert X; k_fill; intro X
    have hpos := hgt_pos t.row
    cases hv' with
    | tok => cases ht
    | @tree a da l nm kids h1 h2 h3 k1 k2 k3 t1 its ep ho hod hl hits hks =>
      have I : InstAt s.heap a (instObj 149 da) 149 (some _) := ⟨ho, rfl, rfl, hod⟩
      refine wpAny_call ?_
      tm_at "my enter"
      intro L' h₁ F' N'
      (try dsimp only); (try k_fold)
      k_steps
      rename Fr _ _ _ _ => F'
      rename News _ _ _ _ => N'
      tm_at "my comp2"
      k_steps
      refine' compIn2_seq (items := kids.map N.val) ?_ (Nat.le_refl _) hh (.inl ?_) ?_ (fun (j : Nat) (ys : List Value) (_ : View) => ys = (N.objss (kids.take j)).map N.val) (fun _ _ _ _ _ h => h) ?_ ?_ ?_ ?_
      · exact ⟨_, _, rfl, fun _ _ e => e⟩
      · exact ⟨_, F'.keep _ _ hl, rfl, ep, by rw [← hits]⟩
      · have := len_sizes (N.rows kids); rw [rows_length] at this; simp only [N.row, Row.size] at hz; rw [sizeLine_eq, List.length_map]; omega
      · intro j ys G h; subst h; have := objss_len (kids.take j); have h2 := sizes_take (N.rows kids) j; rw [← rows_take] at h2; simp only [N.row, Row.size] at hz; rw [List.length_map]; omega
      · rfl
      · intro C Z j v ys s₃ oC m₃ E' hC hZ1 hZ2 hj hoC hns hm hk₃ hI
        have F₃ := F'.keeps (kold hk₃)
        have N₃ := news_add' F' (N'.grown (kold hk₃)) hoC hC
        obtain ⟨k, hkj, rfl⟩ := vals_get hj
        have hr' := rows_get hkj
        have hmem := List.mem_of_getElem? hr'
        have hkv := hks.get (List.mem_of_getElem? hkj)
        refine wpAny_tests_one ?_
        cases hkt : k.isTree with
        | false =>
          obtain ⟨da', od', I'⟩ := hkv.inst
          rw [show k.cls = 52 by simp [N.cls, hkt]] at I'
          k_steps
          rw [hI, objss_succ hkj, show k.objs = [] by cases k with | tok => rfl | tree => simp [N.isTree] at hkt, List.append_nil]
        | true =>
          obtain ⟨da', od', I'⟩ := hkv.inst
          rw [show k.cls = 149 by simp [N.cls, hkt]] at I'
          k_steps
          (first | walk_at "call ref" | skip)
          rename Fr _ _ _ _ => F₃
          refine ⟨wpAny_mono (ih k ?_ hkt _ _ _ _ E' (amb_of B F₃ X T (Around.frames_deeper B.stack) rfl rfl hh) (hkv.mono fun a o e => F₃.keep a o e) ?_ ?_ ?_) (fun y s₆ h₆ => ?_) fun _ _ e => e⟩
          · have := size_mem hmem; simp only [N.row, Row.size] at hr; omega
          · have := size_mem hmem; simp only [N.row, Row.size] at hz; omega
          · have := hgt_mem hmem; simp only [N.row, Row.hgt] at hd'; simp only [depth_deeper]; omega
          · have := hgt_mem hmem; simp only [N.row, Row.hgt] at hu'; simp only [units_deeper]; omega
          · obtain ⟨hk₆, ⟨D6, n6, rfl, hD6, hl6⟩⟩ := h₆
            refine ⟨⟨D6, _, rfl, keeps_trans ⟨_, _, rfl, fun _ _ e => e⟩ hk₆, hD6, ⟨_, hl6, rfl, n6, rfl⟩, ?_⟩⟩
            rw [hI, objss_succ hkj, List.map_append]
      · intro D Z s' ys hD hZ ⟨e4, hl4⟩ hI hk₄
        obtain ⟨h4, tk4, rfl, hk₄'⟩ := hk₄
        obtain ⟨F₄, N₄⟩ := comp_fin F' N' hk₄' hl4 hD
        rw [List.take_of_length_le (by simp)] at hI
        subst hI
        dsimp only at N₄ F₄ ⊢
        k_dflt refine' kmk_add_lit (zs := .ref a :: (N.objss kids).map N.val) F₄ N₄ (N₄.isList (.tail _ (List.mem_append_right _ (.head _)))) (N₄.isList (.head _)) rfl ?_ ?_
        rotate_left
        · have := objss_len kids; simp only [N.row, Row.size] at hz; rw [sizeLine_eq]; simp; omega
        intro D5 h5 F5 N5 l5
        clear F₄ N₄
        (try dsimp only)
        k_steps
        exact ⟨_, _, rfl, (N5 _ (.head _)).2.2, N5.get (.head _)⟩
end
end Mine
end
/-! part M9 -/
section
open PySem PySem.W PyProof.Rows PySem.Spec PySem.Calls
set_option maxRecDepth 100000
set_option maxHeartbeats 1000000
namespace Mine
section
variable {prog : Program} {w : World} {A : Around} {E : Value → Shared → Prop} {s : Shared} {env : Env} {h₀ : Heap} {x : Str} {body : List Stmt} {Q : Flow → Shared → Prop}

def GrowEnd (h₀ : Heap) (L : Addr) (J : (Str → Option Value) → List (Addr × Obj) → Prop) (own : List (Addr × Obj)) (s₁ s₂ : Shared) : Prop :=
  ∃ h' tk m' nx, s₂ = { s₁ with heap := h', toks := tk } ∧ Fr h₀ L h' m' ∧ News h₀ L h' nx ∧ News h₀ L h' own ∧ J m' nx
def GrowPost (h₀ : Heap) (L : Addr) (J : (Str → Option Value) → List (Addr × Obj) → Prop) (own : List (Addr × Obj)) (s₁ : Shared) (Q : Flow → Shared → Prop) (f : Flow) (s₂ : Shared) : Prop :=
  match f with
  | .ret v => Q (.ret v) s₂
  | .brk => Q .next s₂
  | _ => GrowEnd h₀ L J own s₁ s₂
theorem GrowEnd.intro {L : Addr} {J : (Str → Option Value) → List (Addr × Obj) → Prop} {own nx news : List (Addr × Obj)} {s₁ : Shared} {h' : Heap} {tk : Nat} {m' : Str → Option Value}
    (F : Fr h₀ L h' m') (N : News h₀ L h' news) (hn : ∀ q ∈ nx, q ∈ news) (ho : ∀ q ∈ own, q ∈ news) (hj : J m' nx) : GrowPost h₀ L J own s₁ Q .next { s₁ with heap := h', toks := tk } :=
  ⟨h', tk, m', nx, rfl, F, fun q hq => N q (hn q hq), fun q hq => N q (ho q hq), hj⟩

theorem for_growW {I : Addr} {fp : List Addr} {n : Nat} {P : Nat → Value → Prop} {St : Nat → Heap → Prop} {m₀ : Str → Option Value} {news : List (Addr × Obj)} {cn : String} (J : Nat → (Str → Option Value) → List (Addr × Obj) → Prop)
    (W : Walks prog w A I fp [I] n P St) (hst : St 0 s.heap) (hlive : ∀ i h, St i h → ∃ o, h.get? I = some o ∧ o.cls = .type cn) (hLf : env.locals ∉ fp) (hI : h₀.get? I = none) (hnI : ∀ q ∈ news, q.1 ≠ I)
    (hc : ∀ i m n, J i m n → ∀ q ∈ n, q.2.cls ≠ .type cn)
    (F : Fr h₀ env.locals s.heap m₀) (N : News h₀ env.locals s.heap news) (hj : J 0 m₀ news)
    (turn : ∀ i v m₁ news₁ h tk own, i < n → P i v → J i m₁ news₁ → (∀ q ∈ own, (q.1 = I ∧ q.2.cls = .type cn) ∨ (q.1 ≠ I ∧ q.1 ∈ fp)) → Fr h₀ env.locals h (fun y => if y = x then some v else m₁ y) → News h₀ env.locals h (own ++ news₁) →
      wpAny (model prog w) A (execs body env) (GrowPost h₀ env.locals (J (i + 1)) own { s with heap := h, toks := tk } Q) E { s with heap := h, toks := tk })
    (done : ∀ m₁ news₁ h tk, J n m₁ news₁ → Fr h₀ env.locals h m₁ → News h₀ env.locals h news₁ → Q .next { s with heap := h, toks := tk }) :
    LoopAtV prog w A h₀ env x body Q E (.ref I) s := by
  refine ⟨I, fp, [I], n, P, St, m₀, news, J, rfl, W, hLf, (fun b hb => by rw [List.mem_singleton.mp hb]; exact hI), (fun q hq hm => hnI q hq (List.mem_singleton.mp hm)), hst, F, N, hj, ?_, ?_⟩
  · rintro i v m₁ news₁ s₁ own ⟨hh', tk', rfl⟩ hin hP hJ hnw hofp hoget hofp' hSt F₁ N₁
    obtain ⟨oI, hoI, hcI⟩ := hlive _ _ hSt
    have hmI : (I, oI) ∈ own := hofp' I (W.sub I (List.mem_singleton.mpr rfl)) hI oI hoI
    refine wpAny_mono (turn i v m₁ news₁ hh' tk' own hin hP hJ (fun q hq => by
      by_cases e : q.1 = I
      · have e1 := hoget q hq
        rw [e] at e1
        exact .inl ⟨e, by rw [show q.2 = oI from Option.some.inj (e1.symm.trans hoI)]; exact hcI⟩
      · exact .inr ⟨e, hofp q hq⟩) F₁ N₁) (fun f s₂ q => ?_) fun _ _ e => e
    have fin : GrowEnd h₀ env.locals (J (i + 1)) own { s with heap := hh', toks := tk' } s₂ → LoopStepU h₀ env.locals [I] own (J (i + 1)) { s with heap := hh', toks := tk' } .next s₂ := by
      rintro ⟨h', tk, m', nx, e, F', N', No, hm⟩
      refine ⟨rfl, h', tk, m', nx, e, F', fun q hq => (List.mem_append.mp hq).elim (No q) (N' q), fun q hq hI' => ?_, hm⟩
      have e1 := (N' q hq).1
      have e2 := (No _ hmI).1
      rw [List.mem_singleton.mp hI'] at e1
      exact hc _ _ _ hm q hq (by rw [show q.2 = oI from Option.some.inj (e1.symm.trans e2)]; exact hcI)
    cases f with
    | ret v => exact .ret q
    | brk => exact .brk q
    | next => exact .next (fin q)
    | cont => exact .cont (fin q)
  · rintro h' tk m' news' F' N' _ hJ
    exact done m' news' h' tk hJ F' N'

theorem ns_ne_seq {h : Heap} {L l : Addr} {m : Str → Option Value} {o : Obj} {its : Array Value} {n : Nat} (hn : h.Ns L m) (ho : h.get? l = some o) (hd : o.data = .seq its n) : L ≠ l := by
  rintro rfl
  obtain ⟨o', es, ep, ho', hd', _⟩ := hn
  rw [ho] at ho'; cases ho'
  rw [hd] at hd'; cases hd'

/-- a for over the items of a list or a tuple: the ledger may grow and turn -/
theorem for_seq {l : Addr} {vs : List Value} {m₀ : Str → Option Value} {news : List (Addr × Obj)} (J : Nat → (Str → Option Value) → List (Addr × Obj) → Prop)
    (hh : A.handled = none) (hl : s.heap.IsList l vs.toArray ∨ IsTup s.heap l vs.toArray)
    (hc : ∀ i m n, J i m n → ∀ q ∈ n, q.2.cls ≠ .type "list_iterator" ∧ q.2.cls ≠ .type "tuple_iterator")
    (F : Fr h₀ env.locals s.heap m₀) (N : News h₀ env.locals s.heap news) (hj : J 0 m₀ news)
    (turn : ∀ i v m₁ news₁ h tk own, vs[i]? = some v → J i m₁ news₁ → (∀ q ∈ own, q.1 = l ∨ q.2.cls = .type "list_iterator" ∨ q.2.cls = .type "tuple_iterator") → Fr h₀ env.locals h (fun y => if y = x then some v else m₁ y) → News h₀ env.locals h (own ++ news₁) →
      wpAny (model prog w) A (execs body env) (GrowPost h₀ env.locals (J (i + 1)) own { s with heap := h, toks := tk } Q) E { s with heap := h, toks := tk })
    (done : ∀ m₁ news₁ h tk, J vs.length m₁ news₁ → Fr h₀ env.locals h m₁ → News h₀ env.locals h news₁ → Q .next { s with heap := h, toks := tk }) :
    wpAny (model prog w) A (pyIter (.ref l)) (fun it s₂ => LoopAtV prog w A h₀ env x body Q E it s₂) E s := by
  have hLl : env.locals ≠ l := by
    rcases hl with ⟨o, ho, _, n, hd⟩ | ⟨o, ho, _, n, hd⟩ <;> exact ns_ne_seq F.ns ho hd
  have hlt : l < s.heap.objs.size := by
    rcases hl with ⟨o, ho, _⟩ | ⟨o, ho, _⟩ <;> exact Heap.lt_size ho
  have hne : l ≠ s.heap.objs.size := Nat.ne_of_lt hlt
  have hLf : env.locals ∉ [s.heap.objs.size, l] := by
    intro hm
    rcases List.mem_cons.mp hm with e | hm
    · exact absurd F.ns.lt (e ▸ Nat.lt_irrefl _)
    · exact hLl (List.mem_singleton.mp hm)
  have hnI : ∀ q ∈ news, q.1 ≠ s.heap.objs.size := fun q hq e => absurd (Heap.lt_size (N q hq).1) (by rw [e]; exact Nat.lt_irrefl _)
  rcases hl with hl | hl
  · refine wpAny_pyIter_list hl (for_growW (n := vs.toArray.size) (cn := "list_iterator") J (Walks.list hh s.heap.objs.size l hne vs.toArray) ⟨⟨_, Heap.get?_push_size _ rfl, rfl, rfl⟩, hl.at fun o e => Heap.get?_push_of_some _ e⟩
      (fun i h st => let ⟨o, e, c, _⟩ := st.1; ⟨o, e, c⟩) hLf (next_is_new F) hnI (fun i m n hJ q hq => (hc i m n hJ q hq).1) (F.push _) (fun q hq => ⟨Heap.get?_push_of_some _ (N q hq).1, (N q hq).2⟩) hj ?_ ?_)
    · intro i v m₁ news₁ h tk own hi hP hJ ho; exact turn i v m₁ news₁ h tk own (by simpa using hP) hJ fun q hq => (ho q hq).elim (fun e => .inr (.inl e.2)) fun e => .inl (by simpa [e.1] using e.2)
    · intro m₁ news₁ h tk hJ; exact done m₁ news₁ h tk (by simpa using hJ)
  · have hl' : s.heap.IsTuple l vs.toArray := hl
    refine wpAny_pyIter_tuple hl' (for_growW (n := vs.toArray.size) (cn := "tuple_iterator") J (Walks.tuple hh s.heap.objs.size l hne vs.toArray) ⟨⟨_, Heap.get?_push_size _ rfl, rfl, rfl⟩, hl'.at fun o e => Heap.get?_push_of_some _ e⟩
      (fun i h st => let ⟨o, e, c, _⟩ := st.1; ⟨o, e, c⟩) hLf (next_is_new F) hnI (fun i m n hJ q hq => (hc i m n hJ q hq).2) (F.push _) (fun q hq => ⟨Heap.get?_push_of_some _ (N q hq).1, (N q hq).2⟩) hj ?_ ?_)
    · intro i v m₁ news₁ h tk own hi hP hJ ho; exact turn i v m₁ news₁ h tk own (by simpa using hP) hJ fun q hq => (ho q hq).elim (fun e => .inr (.inr e.2)) fun e => .inl (by simpa [e.1] using e.2)
    · intro m₁ news₁ h tk hJ; exact done m₁ news₁ h tk (by simpa using hJ)
end
theorem upd_self {m : Str → Option Value} {x : Str} {v : Value} (h : m x = some v) : m = fun y => if y = x then some v else m y := by
  funext y; split <;> simp_all
theorem news_ne {h₀ h : Heap} {L : Addr} {n1 n2 : List (Addr × Obj)} {q q' : Addr × Obj} (N1 : News h₀ L h n1) (N2 : News h₀ L h n2) (h1 : q ∈ n1) (h2 : q' ∈ n2) (hne : q.2.cls ≠ q'.2.cls) : q.1 ≠ q'.1 := by
  intro e
  have e1 := (N1 q h1).1
  have e2 := (N2 q' h2).1
  rw [e] at e1
  exact hne (by rw [Option.some.inj (e1.symm.trans e2)])

section
variable {prog : Program} {w : World} {A : Around} {E : Value → Shared → Prop} {s : Shared} {h₀ : Heap} {L l : Addr} {m : Str → Option Value} {news : List (Addr × Obj)} {value slice : PySem.Expr}
/-- an item of a written list of two strs, at an open place -/
theorem menu2 {k : Int} {u : Tok} {a b : Str} {ta tb : Tok} {n : Nat} {Q : Value → Shared → Prop} (N : News h₀ L s.heap news) (hm : (l, listOf #[.str a ta, .str b tb] n) ∈ news) (h0 : 0 ≤ k) (h1 : k < 2)
    (h : ∀ tt, Q (.str (if k = 0 then a else b) tt) s)
    (hs : subscripted slice false (.ref l) (.int k u) = operate [.ref l, .int k u] (getItem (.ref l) (.int k u))) (hg : ∀ r, letTemporaryGo value (.ref l) r = pure ()) :
    wpAny (model prog w) A (subscriptTail value slice (.ref l) (.int k u)) Q E s := by
  by_cases hk : k = 0
  · subst hk
    exact item_list (N.isList hm) (by omega) (by omega) (x := .str a ta) rfl (by simpa using h ta) hs hg
  · have hk1 : k = 1 := by omega
    subst hk1
    exact item_list (N.isList hm) (by omega) (by omega) (x := .str b tb) rfl (by simpa using h tb) hs hg
end

theorem min2_N {prog : Program} {w : World} {A : Around} {E : Value → Shared → Prop} {s : Shared} {h₀ : Heap} {L : Addr} {m : Str → Option Value} {news : List (Addr × Obj)} {a b : Int} {t u : Tok} {Q : Value → Shared → Prop}
    (hh : A.handled = none) (F : Fr h₀ L s.heap m) (N : News h₀ L s.heap news)
    (h : ∀ h' tk t', Fr h₀ L h' m → News h₀ L h' news → Q (.int (if b < a then b else a) t') { s with heap := h', toks := tk }) : wpAny (model prog w) A (call (.builtin "min") [.int a t, .int b u]) Q E s :=
  min_two_ints hh fun h' tk hk => by
    by_cases hc : b < a
    · have := h h' tk u (F.keeps hk) (N.grown hk); rw [if_pos hc] at this ⊢; exact this
    · have := h h' tk t (F.keeps hk) (N.grown hk); rw [if_neg hc] at this ⊢; exact this

theorem allLt_to {d : Addr} {l : List (Addr × Obj)} (h : AllLt d l) : ∀ q ∈ l, q.1 < d := fun q hq => tb_ltOf h q hq

end Mine
end
/-! part F4 -/
section
open PySem PySem.W PyProof.Rows PySem.Spec PySem.Calls
set_option maxRecDepth 100000
set_option maxHeartbeats 4000000
namespace Mine
/-! ## _law_planned -/
def kindS (n : Int) : Str := if (n.fdiv 3).fmod 2 = 0 then Str.ofString "X" else Str.ofString "Y"
def nameS (n : Int) : Str := if n.fmod 3 - 1 = 0 then Str.ofString "p" else Str.ofString "pq"
def cnt (n : Int) (len : Nat) : Nat := min ((n.fdiv 3).fmod 6).toNat len
def pstep (st : List Row) (n : Int) : List Row :=
  if n.fmod 3 = 0 then st ++ [.tok (kindS n) ((n.fdiv 6).fmod 2)]
  else st.take (st.length - cnt n st.length) ++ [.tree (nameS n) (st.drop (st.length - cnt n st.length))]
theorem RVs.take {G : View} : ∀ {vs rs} (_ : RVs G vs rs) (k : Nat), RVs G (vs.take k) (rs.take k)
  | _, _, .nil, k => by simp; exact .nil
  | _, _, .cons _ _, 0 => .nil
  | _, _, .cons a b, k + 1 => .cons a (b.take k)
theorem RVs.drop {G : View} : ∀ {vs rs} (_ : RVs G vs rs) (k : Nat), RVs G (vs.drop k) (rs.drop k)
  | _, _, .nil, k => by simp; exact .nil
  | _, _, .cons a b, 0 => .cons a b
  | _, _, .cons _ b, k + 1 => b.drop k
theorem cnt_int (n : Int) (len : Nat) (h : 0 ≤ (n.fdiv 3).fmod 6) : ((len : Int) - if (len : Int) < (n.fdiv 3).fmod 6 then (len : Int) else (n.fdiv 3).fmod 6) = ((len - cnt n len : Nat) : Int) := by
  unfold cnt; split <;> omega
theorem pick_upto (n : Int) (its : Array Value) (h : 0 ≤ (n.fdiv 3).fmod 6) : (slicePick its none (some ((its.size : Int) - if (its.size : Int) < (n.fdiv 3).fmod 6 then (its.size : Int) else (n.fdiv 3).fmod 6)) none).toList = its.toList.take (its.size - cnt n its.size) := by
  rw [cnt_int n _ h, slicePick_upto _ _ (by omega)]
theorem pick_from (n : Int) (its : Array Value) (h : 0 ≤ (n.fdiv 3).fmod 6) : (slicePick its (some ((its.size : Int) - if (its.size : Int) < (n.fdiv 3).fmod 6 then (its.size : Int) else (n.fdiv 3).fmod 6)) none none).toList = its.toList.drop (its.size - cnt n its.size) := by
  rw [cnt_int n _ h, slicePick_from _ _ (by omega)]
theorem cnt_le (n : Int) (len : Nat) : cnt n len ≤ len := Nat.min_le_right _ _
def planned (ns : List Int) : Row := .tree (Str.ofString "top") (ns.foldl pstep [])

abbrev tupO (its : Array Value) : Obj := { cls := .type "tuple", data := .seq its }
def StackIs (ns : List Int) (i : Nat) (m : Str → Option Value) (n : List (Addr × Obj)) : Prop :=
  ∃ d its ep Z, m (Str.ofString "stack") = some (.ref d) ∧ n = (d, listOf its ep) :: Z ∧ RVs (fun a o => (a, o) ∈ Z) its.toList ((ns.take i).foldl pstep []) ∧ its.size ≤ i ∧ (∀ q ∈ Z, q.1 ≠ d) ∧ (∀ q ∈ Z, q.2.cls ≠ .type "list_iterator" ∧ q.2.cls ≠ .type "tuple_iterator")

theorem planned_tok {h₀ h : Heap} {L D d : Addr} {m : Str → Option Value} {t0 t1 t2 : Tok} {its : Array Value} {ep : Nat} {ZZ Z own : List (Addr × Obj)} {x1 : Addr × Obj} {ns : List Int} {i : Nat} {n : Int} {Q : Flow → Shared → Prop} {s₁ : Shared} {tk : Nat}
    (F : Fr h₀ L h m) (N : News h₀ L h ((D, tupO #[.str "token" t0, .str (kindS n) t1, .int ((n.fdiv 6).fmod 2) t2]) :: x1 :: (d, listOf (its.push (.ref D)) ep) :: ZZ))
    (hm : m (Str.ofString "stack") = some (.ref d)) (hn : ns[i]? = some n) (h3 : n.fmod 3 = 0) (hR : RVs (fun a o => (a, o) ∈ Z) its.toList ((ns.take i).foldl pstep [])) (hsz : its.size ≤ i) (hZd : ∀ q ∈ Z, q.1 ≠ d)
    (hZc : ∀ q ∈ Z, q.2.cls ≠ .type "list_iterator" ∧ q.2.cls ≠ .type "tuple_iterator") (hZs : ∀ q ∈ Z, q ∈ ZZ) (hos : ∀ q ∈ own, q ∈ ZZ) :
    GrowPost h₀ L (StackIs ns (i + 1)) own s₁ Q .next { s₁ with heap := h, toks := tk } := by
  refine GrowEnd.intro (nx := (d, listOf (its.push (.ref D)) ep) :: (D, _) :: Z) F N (List.forall_mem_cons.mpr ⟨.tail _ (.tail _ (.head _)), List.forall_mem_cons.mpr ⟨.head _, fun q hq => .tail _ (.tail _ (.tail _ (hZs q hq)))⟩⟩)
    (fun q hq => .tail _ (.tail _ (.tail _ (hos q hq)))) ⟨d, _, _, _, hm, rfl, ?_, ?_, ?_, ?_⟩
  · rw [take_succ_get hn, List.foldl_append, Array.toList_push]
    simp only [List.foldl_cons, List.foldl_nil, pstep, if_pos h3]
    exact (hR.mono fun _ _ e => .tail _ e).snoc (.tok ⟨_, .head _, rfl, _, rfl⟩)
  · rw [Array.size_push]; omega
  · exact List.forall_mem_cons.mpr ⟨news_ne N N (.head _) (.tail _ (.tail _ (.head _))) (by simp), hZd⟩
  · exact List.forall_mem_cons.mpr ⟨by simp, hZc⟩

theorem planned_tree {h₀ h : Heap} {L D D1 D2 : Addr} {m : Str → Option Value} {t0 t1 : Tok} {its : Array Value} {nw kd : List Value} {ep : Nat} {ZZ Z own : List (Addr × Obj)} {x1 x2 x3 x4 x5 : Addr × Obj} {ns : List Int} {i : Nat} {n : Int} {Q : Flow → Shared → Prop} {s₁ : Shared} {tk : Nat}
    (F : Fr h₀ L h m) (N : News h₀ L h ((D, listOf (List.toArray nw) ep) :: x1 :: (D1, tupO #[.str "tree" t0, .str (nameS n) t1, .ref D2]) :: (D2, tupO (List.toArray kd)) :: x2 :: x3 :: x4 :: x5 :: ZZ))
    (hlt : ∀ q ∈ ZZ, q.1 < D)
    (hm : m (Str.ofString "stack") = some (.ref D)) (hn : ns[i]? = some n) (h3 : n.fmod 3 ≠ 0) (hR : RVs (fun a o => (a, o) ∈ Z) its.toList ((ns.take i).foldl pstep [])) (hsz : its.size ≤ i)
    (hnw : nw = its.toList.take (its.size - cnt n its.size) ++ [.ref D1]) (hkd : kd = its.toList.drop (its.size - cnt n its.size))
    (hZc : ∀ q ∈ Z, q.2.cls ≠ .type "list_iterator" ∧ q.2.cls ≠ .type "tuple_iterator") (hZs : ∀ q ∈ Z, q ∈ ZZ) (hos : ∀ q ∈ own, q ∈ ZZ) :
    GrowPost h₀ L (StackIs ns (i + 1)) own s₁ Q .next { s₁ with heap := h, toks := tk } := by
  have hlen : its.size = ((ns.take i).foldl pstep []).length := by rw [← hR.length, Array.length_toList]
  refine GrowEnd.intro (nx := (D, _) :: (D1, _) :: (D2, _) :: Z) F N (List.forall_mem_cons.mpr ⟨.head _, List.forall_mem_cons.mpr ⟨.tail _ (.tail _ (.head _)), List.forall_mem_cons.mpr ⟨.tail _ (.tail _ (.tail _ (.head _))), fun q hq => .tail _ (.tail _ (.tail _ (.tail _ (.tail _ (.tail _ (.tail _ (.tail _ (hZs q hq))))))))⟩⟩⟩)
    (fun q hq => .tail _ (.tail _ (.tail _ (.tail _ (.tail _ (.tail _ (.tail _ (.tail _ (hos q hq))))))))) ⟨D, _, _, _, hm, rfl, ?_, ?_, ?_, ?_⟩
  · rw [take_succ_get hn, List.foldl_append]
    simp only [List.foldl_cons, List.foldl_nil, pstep, if_neg h3]
    rw [hnw, ← hlen]
    refine ((hR.mono fun _ _ e => .tail _ (.tail _ e)).take _).append (.cons (.tree ⟨_, .head _, rfl, _, rfl⟩ ⟨_, .tail _ (.head _), rfl, _, rfl⟩ ?_) .nil)
    rw [hkd]
    exact (hR.mono fun _ _ e => .tail _ (.tail _ e)).drop _
  · rw [hnw]; simp; omega
  · exact List.forall_mem_cons.mpr ⟨news_ne N N (.tail _ (.tail _ (.head _))) (.head _) (by simp), List.forall_mem_cons.mpr ⟨news_ne N N (.tail _ (.tail _ (.tail _ (.head _)))) (.head _) (by simp), fun q hq => Nat.ne_of_lt (hlt q (hZs q hq))⟩⟩
  · exact List.forall_mem_cons.mpr ⟨by simp, List.forall_mem_cons.mpr ⟨by simp, hZc⟩⟩

section
local macro_rules | `(tactic| tm_at "w call builtin:len") => `(tactic| ((with_reducible show wpAny _ _ (call _ [Value.ref _]) _ _ _); k_dflt (refine' len_list ?hl ?hfit ?_; (case hl => exact News.isList (by k_asm) (by k_mem)); (case hfit => omega); k_whole)))
local macro_rules | `(tactic| tm_at "w subscriptTail Name Slice ref ref") => `(tactic| ((with_reducible show wpAny _ _ (subscriptTail _ (PySem.Expr.Slice _ _ none _) (Value.ref _) (Value.ref _)) _ _ _); k_dflt (refine' kmk_slice ?F ?N ?l ?p ?q ?_ ?s ?t ?z; (case F => k_asm); (case N => k_asm); (case l => exact News.isList (by k_asm) (by k_mem)); (case p => kmk_part); (case q => kmk_part); (case s => with_unfolding_all rfl); (case t => kmk_pure); (case z => tm_at "my size")); intro D' h' F' N' l1; (try k_lt l1); (try k_sweep)))
local macro_rules | `(tactic| tm_at "w binaryOp Add ref ref") => `(tactic| ((with_reducible show wpAny _ _ (binaryOp _ (Value.ref _) (Value.ref _)) _ _ _); k_dflt (refine' kmk_add_lit ?F ?N ?a ?b ?e ?_ ?z; (case F => k_asm); (case N => k_asm); (case a => exact News.isList (by k_asm) (by k_mem)); (case b => exact News.isList (by k_asm) (by k_mem)); (case e => exact rfl); (case z => (simp only [Array.length_toList, List.length_cons, List.length_nil]; rw [sizeLine_eq]; first | omega | (refine Nat.le_trans (Nat.add_le_add_right (slicePick_size_le _ _ _ _) _) ?_; omega)))); intro D' h' F' N' l1; (try k_lt l1); (try k_sweep)))
local macro_rules | `(tactic| tm_at "w call type:tuple") => `(tactic| ((with_reducible show wpAny _ _ (call (Value.type _) [Value.ref _]) _ _ _); k_dflt (refine' kde_tupleOf ?k1 ?k2 ?k3 ?k4 ?k5 ?_; (case k1 => k_asm); (case k2 => k_asm); (case k3 => exact News.isList (by k_asm) (by k_mem)); (case k4 => tm_at "my size"); (case k5 => exact rfl); k_whole); intro D' h' F' N' l1; (try k_lt l1); (try k_sweep)))
local macro_rules | `(tactic| tm_at "w subscriptTail") => `(tactic| ((with_reducible show wpAny _ _ (subscriptTail _ _ (Value.ref _) (Value.int _ _)) _ _ _); (try dsimp only); k_dflt (refine' menu2 ?k1 ?k2 ?k3 ?k4 ?_ ?k5 ?k6; (case k1 => k_asm); (case k2 => k_mem); (case k3 => omega); (case k4 => omega); (case k5 => with_unfolding_all rfl); (case k6 => kmk_pure); k_whole); intro tt))
local macro_rules | `(tactic| tm_at "w call builtin:min") => `(tactic| ((with_reducible show wpAny _ _ (call _ [Value.int _ _, Value.int _ _]) _ _ _); (rename Fr _ _ _ _ => kF); (rename News _ _ _ _ => kN); k_dflt (refine' min2_N ?hh kF kN ?_; (case hh => first | assumption | exact rfl); k_whole); intro h' t' k' F' N'; clear kN kF))
local macro_rules | `(tactic| tm_at "w subscriptTail List") => `(tactic| k_dflt (refine kba_turn (value' := PySem.Expr.Name (PySem.Str.ofString "_") ⟨0, 0, 0, 0⟩) (fun _ => rfl) ?_))
local macro_rules | `(tactic| tm_at "w pyIter ref") => `(tactic| refine stop_here ?_)
theorem planned_spec {w : World} {p : Program} {loose : List Str} {mean : ExcName → Option Value} {mg mb : Str → Option Value} (A : Around) (base : Heap) (fr : List Env) (s : Shared) (l : Addr) (vs : List Value) (ns : List Int) (E : Value → Shared → Prop)
    (H : Amb w p loose mean mg mb A base fr s.heap) (hl : s.heap.IsList l vs.toArray) (hi : IntsAre vs ns) (hz : ns.length ≤ 100) (hd' : A.depth + 20 < recursionLimit) (hu' : A.units + 400 < cLine) :
    wpAny (model PySem.Challenge.rw_fi0013_01.row.prog w) A (call (.ref 167) [.ref l]) (fun x s' => Keeps s s' ∧ RV (FrV s.heap s'.heap) x (planned ns)) E s := by
  obtain ⟨X, T, B, hh⟩ := id H
  have hvn : ∀ (i : Nat) (v : Value), vs[i]? = some v → ∃ n t, ns[i]? = some n ∧ v = Value.int n t := fun i v hv => by
    have : i < ns.length := by rw [← hi.length]; exact (List.getElem?_eq_some_iff.mp hv).1
    have hn : ns[i]? = some ns[i] := by simp [this]
    obtain ⟨t, ht⟩ := hi.get i _ hn
    rw [hv] at ht; cases ht
    exact ⟨_, _, hn, rfl⟩
  have hvl := hi.length
  revert X; k_fill; intro X
  refine wpAny_call ?_
  tm_at "my enter"
  intro L' h₁ F' N'
  (try dsimp only); (try k_fold)
  k_steps
  rename Fr _ _ _ _ => F₁
  rename News _ _ _ _ => N₁
  refine ⟨?_⟩
  k_dflt refine' for_seq (vs := vs) (StackIs ns) hh (.inl (F₁.lst hl)) ?_ F₁ N₁ ?_ ?_ ?_
  · rintro i m n ⟨d, its, ep, Z, _, rfl, _, _, _, hc⟩ q hq
    rcases List.mem_cons.mp hq with rfl | hq
    · exact ⟨by simp, by simp⟩
    · exact hc q hq
  · exact ⟨_, _, _, [], rfl, rfl, .nil, Nat.le_refl _, (fun _ h => nomatch h), (fun _ h => nomatch h)⟩
  · rintro i v m₁ news₁ h tk own hv ⟨d, its, ep, Z, hm, rfl, hR, hsz, hZd, hZc⟩ hown F₂ N₂
    obtain ⟨n, t, hn, rfl⟩ := hvn i v hv
    have hdl : ∀ q ∈ own, q.1 ≠ d := fun q hq e => by
      have e1 := (N₂ q (List.mem_append_left _ hq)).1
      have e2 := (N₂ _ (List.mem_append_right _ (.head _))).1
      rw [e] at e1
      have e3 := Option.some.inj (e1.symm.trans e2)
      rcases hown q hq with e4 | e4 | e4
      · have := (N₂ q (List.mem_append_left _ hq)).2.2
        obtain ⟨ol, hol, _⟩ := hl
        rw [e4, hol] at this; cases this
      · rw [e3] at e4; simp at e4
      · rw [e3] at e4; simp at e4
    rw [upd_self hm] at F₂
    have N₃ : News s.heap L' h ((d, listOf its ep) :: (Z ++ own)) := fun q hq => N₂ q (by
      rcases List.mem_cons.mp hq with rfl | hq
      · exact List.mem_append_right _ (.head _)
      · exact (List.mem_append.mp hq).elim (fun h => List.mem_append_right _ (.tail _ h)) fun h => List.mem_append_left _ h)
    have hZo : ∀ q ∈ Z ++ own, q.1 ≠ d := fun q hq => (List.mem_append.mp hq).elim (hZd q) (hdl q)
    clear N₂ hown hv
    generalize hZZ : Z ++ own = ZZ at N₃ hZo
    have q1 : 0 ≤ n.fmod 3 ∧ n.fmod 3 < 3 := ⟨Int.fmod_nonneg_of_pos _ (by decide), Int.fmod_lt_of_pos _ (by decide)⟩
    have q2 : 0 ≤ (n.fdiv 3).fmod 2 ∧ (n.fdiv 3).fmod 2 < 2 := ⟨Int.fmod_nonneg_of_pos _ (by decide), Int.fmod_lt_of_pos _ (by decide)⟩
    have q3 : 0 ≤ (n.fdiv 3).fmod 6 ∧ (n.fdiv 3).fmod 6 < 6 := ⟨Int.fmod_nonneg_of_pos _ (by decide), Int.fmod_lt_of_pos _ (by decide)⟩
    have q4 : 0 ≤ (n.fdiv 6).fmod 2 ∧ (n.fdiv 6).fmod 2 < 2 := ⟨Int.fmod_nonneg_of_pos _ (by decide), Int.fmod_lt_of_pos _ (by decide)⟩
    have q5 : i < ns.length := (List.getElem?_eq_some_iff.mp hn).1
    have hsz' : its.size ≤ 100 := by omega
    have hZs : ∀ q ∈ Z, q ∈ ZZ := fun q hq => hZZ ▸ List.mem_append_left _ hq
    have hos : ∀ q ∈ own, q ∈ ZZ := fun q hq => hZZ ▸ List.mem_append_right _ hq
    have hlen : its.size = ((ns.take i).foldl pstep []).length := by rw [← hR.length, Array.length_toList]
    clear hZZ
    k_steps
    · rename Fr _ _ _ _ => F9
      rename News _ _ _ _ => N9
      rename n.fmod 3 = 0 => h3
      exact planned_tok F9 N9 rfl hn h3 hR hsz hZd hZc hZs hos
    · rename Fr _ _ _ _ => F9
      rename News _ _ _ _ => N9
      rename n.fmod 3 ≠ 0 => h3
      refine planned_tree F9 N9 (allLt_to (by simp_all)) rfl hn h3 hR hsz (by rw [pick_upto n its q3.1]) (pick_from n its q3.1) hZc hZs hos
  · intro m₁ news₁ h tk ⟨d, its, ep, Z, hm, e, hR, hsz, hZd, hZc⟩ F₂ N₂
    subst e
    rw [upd_self hm] at F₂
    rw [hvl, List.take_of_length_le (Nat.le_refl _)] at hR
    have hsz' : its.size ≤ 100 := by omega
    (try dsimp only)
    k_steps
    rename News _ _ _ _ => N9
    exact .tree (tupFr N9 (.head _)) (tupFr' N9 (.tail _ (.head _)) rfl) (hR.mono (vle_fr N9 fun q hq => .tail _ (.tail _ (.tail _ hq))))
end
end Mine
end
/-! part F5 -/
section
open PySem PySem.W PyProof.Rows PySem.Spec PySem.Calls
set_option maxRecDepth 100000
set_option maxHeartbeats 4000000
namespace Mine
mutual
def N.foot : N → List Addr
  | .tok a da _ _ => [a, da]
  | .tree a da l _ ks => a :: da :: l :: N.feet ks
def N.feet : List N → List Addr
  | [] => []
  | n :: ns => n.foot ++ N.feet ns
end
def StackB (ns : List Int) (i : Nat) (m : Str → Option Value) (n : List (Addr × Obj)) : Prop :=
  ∃ d its ep Z ks, m (Str.ofString "stack") = some (.ref d) ∧ n = (d, listOf its ep) :: Z ∧ its.toList = ks.map N.val ∧ TVs (fun a o => (a, o) ∈ Z) ks ∧ N.rows ks = (ns.take i).foldl pstep [] ∧ (N.feet ks).Nodup ∧ its.size ≤ i ∧ (∀ q ∈ Z, q.1 ≠ d) ∧ (∀ q ∈ Z, q.2.cls ≠ .type "list_iterator" ∧ q.2.cls ≠ .type "tuple_iterator")
mutual
theorem TV.foot_mem {G : View} : ∀ {n : N}, TV G n → ∀ a ∈ n.foot, ∃ o, G a o
  | _, .tok (a := x) (da := dx) ga gd, b, hb => by
    simp only [N.foot, List.mem_cons, List.not_mem_nil, or_false] at hb
    rcases hb with rfl | rfl
    · exact ⟨_, ga⟩
    · exact ⟨_, gd⟩
  | _, .tree (a := x) (da := dx) (l := l) ga gd gl _ hk, b, hb => by
    simp only [N.foot, List.mem_cons] at hb
    rcases hb with rfl | rfl | rfl | hb
    · exact ⟨_, ga⟩
    · exact ⟨_, gd⟩
    · exact ⟨_, gl⟩
    · exact TVs.feet_mem hk b hb
theorem TVs.feet_mem {G : View} : ∀ {n : List N}, TVs G n → ∀ a ∈ N.feet n, ∃ o, G a o
  | _, .nil, b, hb => by simp [N.feet] at hb
  | _, .cons h hs, b, hb => by
    simp only [N.feet, List.mem_append] at hb
    exact hb.elim (h.foot_mem b) (hs.feet_mem b)
end
theorem feet_append : ∀ a b : List N, N.feet (a ++ b) = N.feet a ++ N.feet b
  | [], b => rfl
  | r :: rs, b => by simp only [List.cons_append, N.feet, feet_append rs b, List.append_assoc]
theorem TVs.append {G : View} {b : List N} : ∀ {a : List N}, TVs G a → TVs G b → TVs G (a ++ b)
  | _, .nil, h => h
  | _, .cons x y, h => .cons x (y.append h)
theorem TVs.take {G : View} : ∀ {a : List N} (_ : TVs G a) (k : Nat), TVs G (a.take k)
  | _, .nil, k => by simp; exact .nil
  | _, .cons _ _, 0 => .nil
  | _, .cons x y, k + 1 => .cons x (y.take k)
theorem TVs.drop {G : View} : ∀ {a : List N} (_ : TVs G a) (k : Nat), TVs G (a.drop k)
  | _, .nil, k => by simp; exact .nil
  | _, .cons x y, 0 => .cons x y
  | _, .cons _ y, k + 1 => y.drop k
theorem rows_append (a b : List N) : N.rows (a ++ b) = N.rows a ++ N.rows b := by simp [rows_eq]
theorem rows_drop (ks : List N) (j : Nat) : N.rows (ks.drop j) = (N.rows ks).drop j := by rw [rows_eq, rows_eq, List.map_drop]

theorem built_tok {h₀ h : Heap} {L x dx d : Addr} {m : Str → Option Value} {h1 h2 : Int} {k1 k2 t1 t2 : Tok} {its : Array Value} {ep : Nat} {ZZ Z own : List (Addr × Obj)} {x1 : Addr × Obj} {ns : List Int} {i : Nat} {n : Int} {ks : List N} {Q : Flow → Shared → Prop} {s₁ : Shared} {tk : Nat}
    (F : Fr h₀ L h m) (N₀ : News h₀ L h ((x, instObj 52 dx) :: (dx, dictOf [⟨h1, .str "type" k1, .str (kindS n) t1⟩, ⟨h2, .str "value" k2, .int ((n.fdiv 6).fmod 2) t2⟩] 2) :: x1 :: (d, listOf (its.push (.ref x)) ep) :: ZZ))
    (hlt : ∀ q ∈ ZZ, q.1 < dx) (hx : dx < x)
    (hm : m (Str.ofString "stack") = some (.ref d)) (hn : ns[i]? = some n) (h3 : n.fmod 3 = 0) (hits : its.toList = ks.map N.val) (hT : TVs (fun a o => (a, o) ∈ Z) ks) (hR : N.rows ks = (ns.take i).foldl pstep []) (hnd : (N.feet ks).Nodup) (hsz : its.size ≤ i) (hZd : ∀ q ∈ Z, q.1 ≠ d)
    (hZc : ∀ q ∈ Z, q.2.cls ≠ .type "list_iterator" ∧ q.2.cls ≠ .type "tuple_iterator") (hZs : ∀ q ∈ Z, q ∈ ZZ) (hos : ∀ q ∈ own, q ∈ ZZ) :
    GrowPost h₀ L (StackB ns (i + 1)) own s₁ Q .next { s₁ with heap := h, toks := tk } := by
  have fresh : ∀ a ∈ N.feet ks, a < dx := fun a ha => by
    obtain ⟨o, ho⟩ := hT.feet_mem a ha
    exact hlt _ (hZs _ ho)
  refine GrowEnd.intro (nx := (d, listOf (its.push (.ref x)) ep) :: (x, _) :: (dx, _) :: Z) F N₀ (List.forall_mem_cons.mpr ⟨.tail _ (.tail _ (.tail _ (.head _))), List.forall_mem_cons.mpr ⟨.head _, List.forall_mem_cons.mpr ⟨.tail _ (.head _), fun q hq => .tail _ (.tail _ (.tail _ (.tail _ (hZs q hq))))⟩⟩⟩)
    (fun q hq => .tail _ (.tail _ (.tail _ (.tail _ (hos q hq))))) ⟨d, _, _, _, ks ++ [.tok x dx (kindS n) ((n.fdiv 6).fmod 2)], hm, rfl, ?_, ?_, ?_, ?_, ?_, ?_, ?_⟩
  · rw [Array.toList_push, hits, List.map_append]; rfl
  · exact (hT.mono fun _ _ e => .tail _ (.tail _ e)).append (.cons (.tok (.head _) (.tail _ (.head _))) .nil)
  · rw [take_succ_get hn, List.foldl_append, rows_append, hR]
    simp only [List.foldl_cons, List.foldl_nil, pstep, if_pos h3, N.rows, N.row]
  · rw [feet_append]
    refine List.nodup_append.mpr ⟨hnd, ?_, ?_⟩
    · simp only [N.feet, N.foot, List.append_nil]
      simp; exact Nat.ne_of_gt hx
    · intro a ha b hb
      have := fresh a ha
      simp only [N.feet, N.foot, List.append_nil, List.mem_cons, List.not_mem_nil, or_false] at hb
      rcases hb with rfl | rfl
      · exact Nat.ne_of_lt (Nat.lt_trans this hx)
      · exact Nat.ne_of_lt this
  · rw [Array.size_push]; omega
  · exact List.forall_mem_cons.mpr ⟨news_ne N₀ N₀ (.head _) (.tail _ (.tail _ (.tail _ (.head _)))) (by simp), List.forall_mem_cons.mpr ⟨news_ne N₀ N₀ (.tail _ (.head _)) (.tail _ (.tail _ (.tail _ (.head _)))) (by simp), hZd⟩⟩
  · exact List.forall_mem_cons.mpr ⟨by simp, List.forall_mem_cons.mpr ⟨by simp, hZc⟩⟩

theorem built_tree {h₀ h : Heap} {L D x dx l3 : Addr} {m : Str → Option Value} {h1 h2 h3 : Int} {k1 k2 k3 t1 : Tok} {its kd : Array Value} {nw : List Value} {ep ep3 : Nat} {ZZ Z own : List (Addr × Obj)} {x1 x2 x3 x4 : Addr × Obj} {ns : List Int} {i : Nat} {n : Int} {ks : List N} {Q : Flow → Shared → Prop} {s₁ : Shared} {tk : Nat}
    (F : Fr h₀ L h m) (N₀ : News h₀ L h ((D, listOf (List.toArray nw) ep) :: x1 :: (x, instObj 149 dx) :: (dx, dictOf [⟨h1, .str "data" k1, .str (nameS n) t1⟩, ⟨h2, .str "children" k2, .ref l3⟩, ⟨h3, .str "_meta" k3, .none⟩] 3) :: (l3, listOf kd ep3) :: x2 :: x3 :: x4 :: ZZ))
    (hlt : ∀ q ∈ ZZ, q.1 < l3) (hl : l3 < dx) (hx : dx < x) (hD : x < D)
    (hm : m (Str.ofString "stack") = some (.ref D)) (hn : ns[i]? = some n) (hn3 : n.fmod 3 ≠ 0) (hits : its.toList = ks.map N.val) (hT : TVs (fun a o => (a, o) ∈ Z) ks) (hR : N.rows ks = (ns.take i).foldl pstep []) (hnd : (N.feet ks).Nodup) (hsz : its.size ≤ i)
    (hnw : nw = its.toList.take (its.size - cnt n its.size) ++ [.ref x]) (hkd : kd.toList = its.toList.drop (its.size - cnt n its.size))
    (hZc : ∀ q ∈ Z, q.2.cls ≠ .type "list_iterator" ∧ q.2.cls ≠ .type "tuple_iterator") (hZs : ∀ q ∈ Z, q ∈ ZZ) (hos : ∀ q ∈ own, q ∈ ZZ) :
    GrowPost h₀ L (StackB ns (i + 1)) own s₁ Q .next { s₁ with heap := h, toks := tk } := by
  have hlen : its.size = ((ns.take i).foldl pstep []).length := by rw [← hR, rows_length, ← List.length_map (f := N.val), ← hits, Array.length_toList]
  have fresh : ∀ a ∈ N.feet ks, a < l3 := fun a ha => by
    obtain ⟨o, ho⟩ := hT.feet_mem a ha
    exact hlt _ (hZs _ ho)
  have hsplit := feet_append (ks.take (its.size - cnt n its.size)) (ks.drop (its.size - cnt n its.size))
  rw [List.take_append_drop] at hsplit
  rw [hsplit] at hnd fresh
  obtain ⟨nd1, nd2, nd3⟩ := List.nodup_append.mp hnd
  refine GrowEnd.intro (nx := (D, listOf (List.toArray nw) ep) :: (x, _) :: (dx, _) :: (l3, listOf kd ep3) :: Z) F N₀ (List.forall_mem_cons.mpr ⟨.head _, List.forall_mem_cons.mpr ⟨.tail _ (.tail _ (.head _)), List.forall_mem_cons.mpr ⟨.tail _ (.tail _ (.tail _ (.head _))), List.forall_mem_cons.mpr ⟨.tail _ (.tail _ (.tail _ (.tail _ (.head _)))), fun q hq => .tail _ (.tail _ (.tail _ (.tail _ (.tail _ (.tail _ (.tail _ (.tail _ (hZs q hq))))))))⟩⟩⟩⟩)
    (fun q hq => .tail _ (.tail _ (.tail _ (.tail _ (.tail _ (.tail _ (.tail _ (.tail _ (hos q hq))))))))) ⟨D, _, _, _, ks.take (its.size - cnt n its.size) ++ [.tree x dx l3 (nameS n) (ks.drop (its.size - cnt n its.size))], hm, rfl, ?_, ?_, ?_, ?_, ?_, ?_, ?_⟩
  · rw [hnw, hits, List.map_append, List.map_take]; rfl
  · refine ((hT.mono fun _ _ e => .tail _ (.tail _ (.tail _ e))).take _).append (.cons (.tree (.head _) (.tail _ (.head _)) (.tail _ (.tail _ (.head _))) ?_ ((hT.mono fun _ _ e => .tail _ (.tail _ (.tail _ e))).drop _)) .nil)
    rw [hkd, hits, List.map_drop]
  · rw [take_succ_get hn, List.foldl_append, rows_append, rows_take, hR]
    simp only [List.foldl_cons, List.foldl_nil, pstep, if_neg hn3, N.rows, N.row]
    rw [rows_drop, hR, ← hlen]
  · rw [feet_append]
    refine List.nodup_append.mpr ⟨nd1, ?_, ?_⟩
    · simp only [N.feet, N.foot, List.append_nil, List.nodup_cons, List.mem_cons, not_or]
      refine ⟨⟨Nat.ne_of_gt hx, Nat.ne_of_gt (Nat.lt_trans hl hx), fun hm => ?_⟩, ⟨Nat.ne_of_gt hl, fun hm => ?_⟩, fun hm => ?_, nd2⟩
      · exact absurd (fresh _ (List.mem_append_right _ hm)) (Nat.not_lt.mpr (Nat.le_of_lt (Nat.lt_trans hl hx)))
      · exact absurd (fresh _ (List.mem_append_right _ hm)) (Nat.not_lt.mpr (Nat.le_of_lt hl))
      · exact absurd (fresh _ (List.mem_append_right _ hm)) (Nat.lt_irrefl _)
    · intro a ha b hb
      have := fresh a (List.mem_append_left _ ha)
      simp only [N.feet, N.foot, List.append_nil, List.mem_cons] at hb
      rcases hb with rfl | rfl | rfl | hb
      · exact Nat.ne_of_lt (Nat.lt_trans this (Nat.lt_trans hl hx))
      · exact Nat.ne_of_lt (Nat.lt_trans this hl)
      · exact Nat.ne_of_lt this
      · exact nd3 a ha b hb
  · rw [hnw]; simp; omega
  · have hl3D : l3 < D := Nat.lt_trans hl (Nat.lt_trans hx hD)
    exact List.forall_mem_cons.mpr ⟨Nat.ne_of_lt hD, List.forall_mem_cons.mpr ⟨Nat.ne_of_lt (Nat.lt_trans hx hD), List.forall_mem_cons.mpr ⟨Nat.ne_of_lt hl3D, fun q hq => Nat.ne_of_lt (Nat.lt_trans (hlt q (hZs q hq)) hl3D)⟩⟩⟩
  · exact List.forall_mem_cons.mpr ⟨by simp, List.forall_mem_cons.mpr ⟨by simp, List.forall_mem_cons.mpr ⟨by simp, hZc⟩⟩⟩

def IsBuilt (h h' : Heap) (x : Value) (ns : List Int) : Prop := ∃ t : N, x = t.val ∧ t.isTree = true ∧ TV (FrV h h') t ∧ t.row = planned ns ∧ t.foot.Nodup
theorem built_end {h₀ h : Heap} {L x dx d : Addr} {h1 h2 h3 : Int} {k1 k2 k3 t1 : Tok} {its : Array Value} {ep : Nat} {Z : List (Addr × Obj)} {ns : List Int} {ks : List N}
    (N₀ : News h₀ L h ((x, instObj 149 dx) :: (dx, dictOf [⟨h1, .str "data" k1, .str "top" t1⟩, ⟨h2, .str "children" k2, .ref d⟩, ⟨h3, .str "_meta" k3, .none⟩] 3) :: (d, listOf its ep) :: Z))
    (hlt : ∀ q ∈ Z, q.1 < dx) (hl : d < dx) (hx : dx < x) (hits : its.toList = ks.map N.val) (hT : TVs (fun a o => (a, o) ∈ Z) ks) (hR : N.rows ks = ns.foldl pstep []) (hnd : (N.feet ks).Nodup) (hZd : ∀ q ∈ Z, q.1 ≠ d) :
    IsBuilt h₀ h (.ref x) ns := by
  have fresh : ∀ a ∈ N.feet ks, a < dx ∧ a ≠ d := fun a ha => by
    obtain ⟨o, ho⟩ := hT.feet_mem a ha
    exact ⟨hlt _ ho, hZd _ ho⟩
  have V := vle_fr N₀ (fun q hq => hq)
  refine ⟨.tree x dx d (Str.ofString "top") ks, rfl, rfl, .tree (V _ _ (.head _)) (V _ _ (.tail _ (.head _))) (V _ _ (.tail _ (.tail _ (.head _)))) hits ((hT.mono fun _ _ e => V _ _ (.tail _ (.tail _ (.tail _ e))))), ?_, ?_⟩
  · rw [planned, ← hR]; rfl
  · simp only [N.foot, List.nodup_cons, List.mem_cons, not_or]
    refine ⟨⟨Nat.ne_of_gt hx, Nat.ne_of_gt (Nat.lt_trans hl hx), fun hm => ?_⟩, ⟨Nat.ne_of_gt hl, fun hm => ?_⟩, fun hm => ?_, hnd⟩
    · exact absurd (fresh _ hm).1 (Nat.not_lt.mpr (Nat.le_of_lt hx))
    · exact absurd (fresh _ hm).1 (Nat.lt_irrefl _)
    · exact (fresh _ hm).2 rfl
section
local macro_rules | `(tactic| tm_at "w call builtin:len") => `(tactic| ((with_reducible show wpAny _ _ (call _ [Value.ref _]) _ _ _); k_dflt (refine' len_list ?hl ?hfit ?_; (case hl => exact News.isList (by k_asm) (by k_mem)); (case hfit => omega); k_whole)))
local macro_rules | `(tactic| tm_at "w subscriptTail Name Slice ref ref") => `(tactic| ((with_reducible show wpAny _ _ (subscriptTail _ (PySem.Expr.Slice _ _ none _) (Value.ref _) (Value.ref _)) _ _ _); k_dflt (refine' kmk_slice ?F ?N ?l ?p ?q ?_ ?s ?t ?z; (case F => k_asm); (case N => k_asm); (case l => exact News.isList (by k_asm) (by k_mem)); (case p => kmk_part); (case q => kmk_part); (case s => with_unfolding_all rfl); (case t => kmk_pure); (case z => tm_at "my size")); intro D' h' F' N' l1; (try k_lt l1); (try k_sweep)))
local macro_rules | `(tactic| tm_at "w binaryOp Add ref ref") => `(tactic| ((with_reducible show wpAny _ _ (binaryOp _ (Value.ref _) (Value.ref _)) _ _ _); k_dflt (refine' kmk_add_lit ?F ?N ?a ?b ?e ?_ ?z; (case F => k_asm); (case N => k_asm); (case a => exact News.isList (by k_asm) (by k_mem)); (case b => exact News.isList (by k_asm) (by k_mem)); (case e => exact rfl); (case z => (simp only [Array.length_toList, List.length_cons, List.length_nil]; rw [sizeLine_eq]; first | omega | (refine Nat.le_trans (Nat.add_le_add_right (slicePick_size_le _ _ _ _) _) ?_; omega)))); intro D' h' F' N' l1; (try k_lt l1); (try k_sweep)))
local macro_rules | `(tactic| tm_at "w call type:tuple") => `(tactic| ((with_reducible show wpAny _ _ (call (Value.type _) [Value.ref _]) _ _ _); k_dflt (refine' kde_tupleOf ?k1 ?k2 ?k3 ?k4 ?k5 ?_; (case k1 => k_asm); (case k2 => k_asm); (case k3 => exact News.isList (by k_asm) (by k_mem)); (case k4 => tm_at "my size"); (case k5 => exact rfl); k_whole); intro D' h' F' N' l1; (try k_lt l1); (try k_sweep)))
local macro_rules | `(tactic| tm_at "w subscriptTail") => `(tactic| ((with_reducible show wpAny _ _ (subscriptTail _ _ (Value.ref _) (Value.int _ _)) _ _ _); (try dsimp only); k_dflt (refine' menu2 ?k1 ?k2 ?k3 ?k4 ?_ ?k5 ?k6; (case k1 => k_asm); (case k2 => k_mem); (case k3 => omega); (case k4 => omega); (case k5 => with_unfolding_all rfl); (case k6 => kmk_pure); k_whole); intro tt))
local macro_rules | `(tactic| tm_at "w call builtin:min") => `(tactic| ((with_reducible show wpAny _ _ (call _ [Value.int _ _, Value.int _ _]) _ _ _); (rename Fr _ _ _ _ => kF); (rename News _ _ _ _ => kN); k_dflt (refine' min2_N ?hh kF kN ?_; (case hh => first | assumption | exact rfl); k_whole); intro h' t' k' F' N'; clear kN kF))
local macro_rules | `(tactic| tm_at "w subscriptTail List") => `(tactic| k_dflt (refine kba_turn (value' := PySem.Expr.Name (PySem.Str.ofString "_") ⟨0, 0, 0, 0⟩) (fun _ => rfl) ?_))
local macro_rules | `(tactic| tm_at "w pyIter ref") => `(tactic| refine stop_here ?_)
theorem built_spec {w : World} {p : Program} {loose : List Str} {mean : ExcName → Option Value} {mg mb : Str → Option Value} (A : Around) (base : Heap) (fr : List Env) (s : Shared) (l : Addr) (vs : List Value) (ns : List Int) (E : Value → Shared → Prop)
    (H : Amb w p loose mean mg mb A base fr s.heap) (hl : s.heap.IsList l vs.toArray) (hi : IntsAre vs ns) (hz : ns.length ≤ 100) (hd' : A.depth + 20 < recursionLimit) (hu' : A.units + 400 < cLine) :
    wpAny (model PySem.Challenge.rw_fi0013_01.row.prog w) A (call (.ref 160) [.ref l]) (fun x s' => Keeps s s' ∧ IsBuilt s.heap s'.heap x ns) E s := by
  obtain ⟨hd0, dep, frs, gds, un⟩ := A
  obtain ⟨X, T, B, hh⟩ := id H
  obtain rfl : frs = some fr := B.stack
  obtain rfl : hd0 = none := hh
  dsimp only at hd' hu'
  have hvn : ∀ (i : Nat) (v : Value), vs[i]? = some v → ∃ n t, ns[i]? = some n ∧ v = Value.int n t := fun i v hv => by
    have : i < ns.length := by rw [← hi.length]; exact (List.getElem?_eq_some_iff.mp hv).1
    have hn : ns[i]? = some ns[i] := by simp [this]
    obtain ⟨t, ht⟩ := hi.get i _ hn
    rw [hv] at ht; cases ht
    exact ⟨_, _, hn, rfl⟩
  have hvl := hi.length
  revert X; k_fill; intro X
  refine wpAny_call ?_
  tm_at "my enter"
  intro L' h₁ F' N'
  (try dsimp only); (try k_fold)
  k_steps
  rename Fr _ _ _ _ => F₁
  rename News _ _ _ _ => N₁
  refine ⟨?_⟩
  k_dflt refine' for_seq (vs := vs) (StackB ns) rfl (.inl (F₁.lst hl)) ?_ F₁ N₁ ?_ ?_ ?_
  · rintro i m n ⟨d, its, ep, Z, ks, _, rfl, _, _, _, _, _, _, hc⟩ q hq
    rcases List.mem_cons.mp hq with rfl | hq
    · exact ⟨by simp, by simp⟩
    · exact hc q hq
  · exact ⟨_, _, _, [], [], rfl, rfl, rfl, .nil, rfl, .nil, Nat.le_refl _, (fun _ h => nomatch h), (fun _ h => nomatch h)⟩
  · rintro i v m₁ news₁ h tk own hv ⟨d, its, ep, Z, ks, hm, rfl, hits, hT, hR, hnd, hsz, hZd, hZc⟩ hown F₂ N₂
    obtain ⟨n, t, hn, rfl⟩ := hvn i v hv
    have hdl : ∀ q ∈ own, q.1 ≠ d := fun q hq e => by
      have e1 := (N₂ q (List.mem_append_left _ hq)).1
      have e2 := (N₂ _ (List.mem_append_right _ (.head _))).1
      rw [e] at e1
      have e3 := Option.some.inj (e1.symm.trans e2)
      rcases hown q hq with e4 | e4 | e4
      · have := (N₂ q (List.mem_append_left _ hq)).2.2
        obtain ⟨ol, hol, _⟩ := hl
        rw [e4, hol] at this; cases this
      · rw [e3] at e4; simp at e4
      · rw [e3] at e4; simp at e4
    rw [upd_self hm] at F₂
    have N₃ : News s.heap L' h ((d, listOf its ep) :: (Z ++ own)) := fun q hq => N₂ q (by
      rcases List.mem_cons.mp hq with rfl | hq
      · exact List.mem_append_right _ (.head _)
      · exact (List.mem_append.mp hq).elim (fun h => List.mem_append_right _ (.tail _ h)) fun h => List.mem_append_left _ h)
    have hZo : ∀ q ∈ Z ++ own, q.1 ≠ d := fun q hq => (List.mem_append.mp hq).elim (hZd q) (hdl q)
    clear N₂ hown hv
    generalize hZZ : Z ++ own = ZZ at N₃ hZo
    have q1 : 0 ≤ n.fmod 3 ∧ n.fmod 3 < 3 := ⟨Int.fmod_nonneg_of_pos _ (by decide), Int.fmod_lt_of_pos _ (by decide)⟩
    have q2 : 0 ≤ (n.fdiv 3).fmod 2 ∧ (n.fdiv 3).fmod 2 < 2 := ⟨Int.fmod_nonneg_of_pos _ (by decide), Int.fmod_lt_of_pos _ (by decide)⟩
    have q3 : 0 ≤ (n.fdiv 3).fmod 6 ∧ (n.fdiv 3).fmod 6 < 6 := ⟨Int.fmod_nonneg_of_pos _ (by decide), Int.fmod_lt_of_pos _ (by decide)⟩
    have q4 : 0 ≤ (n.fdiv 6).fmod 2 ∧ (n.fdiv 6).fmod 2 < 2 := ⟨Int.fmod_nonneg_of_pos _ (by decide), Int.fmod_lt_of_pos _ (by decide)⟩
    have q5 : i < ns.length := (List.getElem?_eq_some_iff.mp hn).1
    have hsz' : its.size ≤ 100 := by omega
    have hZs : ∀ q ∈ Z, q ∈ ZZ := fun q hq => hZZ ▸ List.mem_append_left _ hq
    have hos : ∀ q ∈ own, q ∈ ZZ := fun q hq => hZZ ▸ List.mem_append_right _ hq
    clear hZZ
    k_steps
    · rename Fr _ _ _ _ => F9
      rename News _ _ _ _ => N9
      rename n.fmod 3 = 0 => h3
      exact built_tok F9 N9 (allLt_to (by simp_all)) (by omega) rfl hn h3 hits hT hR hnd hsz hZd hZc hZs hos
    · rename Fr _ _ _ _ => F9
      rename News _ _ _ _ => N9
      rename n.fmod 3 ≠ 0 => h3
      exact built_tree F9 N9 (allLt_to (by simp_all)) (by simp_all) (by first | omega | simp_all) (by simp_all) rfl hn h3 hits hT hR hnd hsz (by rw [pick_upto n its q3.1]) (pick_from n its q3.1) hZc hZs hos
  · intro m₁ news₁ h tk ⟨d, its, ep, Z, ks, hm, e, hits, hT, hR, hnd, hsz, hZd, hZc⟩ F₂ N₂
    subst e
    rw [upd_self hm] at F₂
    rw [hvl, List.take_of_length_le (Nat.le_refl _)] at hR
    have hsz' : its.size ≤ 100 := by omega
    (try dsimp only)
    k_steps
    rename News _ _ _ _ => N9
    exact built_end N9 (allLt_to (by simp_all)) (by simp_all) (by first | omega | simp_all) hits hT hR hnd hZd
end
end Mine
end
/-! part G1 -/
section
open PySem PySem.W PyProof.Rows PySem.Spec PySem.Calls Builtin Builtin.ObjectAttr
set_option maxRecDepth 100000
set_option maxHeartbeats 1000000
namespace Mine
section
variable {prog : Program} {w : World} {A : Around} {E : Value → Shared → Prop} {s : Shared} {K : Frag} {x C : Addr} {ox : Obj} {od : Option Obj} {name : Str} {expr : Bool} {Q : Value → Shared → Prop} {cd : ClassData}
theorem get_missing (X : K.In s.heap) (I : InstAt s.heap x ox C od) (hga : findIn K (.ref C) "__getattribute__" = some (some (.builtin "object.__getattribute__")))
    (hf : findObj K C od name = some .missing) (hk : findIn K (.ref C) "__getattr__" = some none) (hc : clsIn K C = some cd)
    (hn : (cd.name).cps.foldl (fun k c => k + (Str.utf8Of c).length) 0 ≤ 100) (hl : (s!"'{cd.name.toString}' object has no attribute '").length ≤ 90) (hsz : name.length + 100 ≤ sizeLine) (hh : A.handled = none)
    (h : ∀ h' tk e, Heap.NewExcOf s.heap h' e "AttributeError" → E (.ref e) { s with heap := h', toks := tk }) :
    wpAny (model prog w) A (getAttr (.ref x) name expr) Q E s := by
  refine get_open X I hga ?_
  obtain ⟨hh', gg, d, t, os⟩ := s
  have L0 := I.type (M := model prog w)
  have L1 := looks_find (M := model prog w) X I hf
  have L2 := looks_findIn (M := model prog w) X hk
  have L3 := looks_clsIn (M := model prog w) X hc
  refine wpAny_bind (wpAny_pure (wpAny_bind (L0.at (wpAny_bind (L1.at (wpAny_bind (L2.at ?_)))))))
  show wpAny _ _ (noSuchAttribute _ _) _ _ _
  unfold noSuchAttribute
  refine wpAny_bind (m := typeNameOfCut 100 (.ref x)) ?_
  unfold typeNameOfCut shownTypeOf
  refine wpAny_bind (wpAny_bind (L0.at ?_))
  rw [if_neg (show ¬ ((Value.ref C == Value.type "builtin_function_or_method") = true) from by simp)]
  refine wpAny_pure ?_
  unfold typeNameCut
  refine wpAny_bind (L3.at ?_)
  dsimp only
  rw [if_pos hn]
  refine wpAny_pure ?_
  refine wpAny_raiseAttrError hh (fun h'' tk e hx => ?_) ?_
  · obtain ⟨t', u', he⟩ := hx.there
    have f1 := sub_AttributeError
    unfold noteIf
    simp only [if_true]
    unfold noteAttr lacksNameAndObj
    repeat (any_goals (first | assumption | wp_step))
    exact h _ _ _ hx.of
  · exact attrMsg_fits hl hsz
end

theorem isExc_AE : isSubtype (.type "AttributeError") (.type "BaseException") = pure true := by rw [isSubtype_type]; kernel_rfl
theorem notTuple_AE : isSubtype (.type ((Manifest.find? "AttributeError").elim "type" fun x => x.metatype)) (.type "tuple") = pure false := by
  rw [find?_eq_fast, isSubtype_type]; kernel_rfl
section
variable {prog : Program} {w : World} {A₀ : Around} {E : Value → Shared → Prop} {s' : Shared} {base g h : Heap} {outer : List Env} {L a e : Addr} {m : Str → Option Value} {name : Str} {scope : Scope} {cd : Value}
  {b₀ : Stmt} {suite : List Stmt} {pos np : Pos} {rest : List ExceptHandler} {Q : Flow → Shared → Prop} {KF : Frag}
  {p : Program} {loose : List Str} {mean : ExcName → Option Value} {mg mb : Str → Option Value} {x : Str} {X T' : String}
theorem caught_A (K : Below A₀ base outer g) (F : Fr g L h m) (hx : Heap.NewExcOf h s'.heap e X) (XB : KF.In base) (TB : Top p loose mean mg mb base)
    (hv : bootBuiltins x = some (.type T')) (hgn : nsIn KF mainGlobals x = some none)
    (hexc : isSubtype (.type T') (.type "BaseException") = pure true) (hnt : isSubtype (.type ((Manifest.find? T').elim "type" fun y => y.metatype)) (.type "tuple") = pure false) (hsub : isSubtype (.type X) (.type T') = pure true)
    (k : ∀ h' g', KtsTurn (outer.filterMap (·.frame)) g g' → Fr g' L h' m → Below A₀ base outer g' → KF.In g' → Top p loose mean mg mb g' →
      wpAny (model prog w) ((A₀.deeper (envOf name scope L a cd)).mark (some (.ref e))) (execs (b₀ :: suite) (envOf name scope L a cd)) Q E { s' with heap := h' })
    (hn : x ≠ "__name__" := by decide +kernel)
    (hk : scope.kind = .function := by rfl) (hxk : (envOf name scope L a cd).kindOf x = some .globalImplicit := by rfl) (hd : (x == ("__debug__" : Str)) = false := by decide)
    (hE : PassesOwnAt (model prog w) ((A₀.deeper (envOf name scope L a cd)).mark (some (.ref e))) (A₀.deeper (envOf name scope L a cd)) (envOf name scope L a cd) E := by passes_own) :
    wpAny (model prog w) (A₀.deeper (envOf name scope L a cd)) (noteFrame (.ref e) (envOf name scope L a cd))
      (fun _ s₂ => wpAny (model prog w) (A₀.deeper (envOf name scope L a cd)) (setFlight (.ref e) none) (fun _ s₃ =>
        wpAny (model prog w) (A₀.deeper (envOf name scope L a cd)) (handleBy (.ref e) (envOf name scope L a cd) (.ExceptHandler (some (.Name x np)) none (b₀ :: suite) pos :: rest)) Q E s₃) E s₂) E s' := by
  have K' := K.push (name := name) (a := a) (cd := cd) F hk
  obtain ⟨ob, vs, he, hcls, hdd, hv1⟩ := hx.there
  have hsz : 1 < vs.size := (Array.getElem?_eq_some_iff.mp hv1).1
  have hv0 : vs[0]? = some vs[0] := Array.getElem?_eq_some_iff.mpr ⟨by omega, rfl⟩
  have hin : ∀ env ∈ (envOf name scope L a cd :: outer), ∀ b, env.frame = some b → b ∈ (envOf name scope L a cd :: outer).filterMap (·.frame) := fun env he b hb => List.mem_filterMap.mpr ⟨env, he, hb⟩
  have hBG : ∀ b o, h.get? b = some o → b ∉ (envOf name scope L a cd :: outer).filterMap (·.frame) → (hideAll h ((envOf name scope L a cd :: outer).filterMap (·.frame))).get? b = some o := fun b o q hm => hideAll_get _ q hm
  have st : (hideAll h ((envOf name scope L a cd :: outer).filterMap (·.frame))).StaysIn s'.heap := fun b o q => hx.keeps _ _ (of_hideAll _ q)
  have hen : (hideAll h ((envOf name scope L a cd :: outer).filterMap (·.frame))).get? e = none := by
    cases q : (hideAll h ((envOf name scope L a cd :: outer).filterMap (·.frame))).get? e with
    | none => rfl
    | some o => have := of_hideAll _ q; rw [hx.new] at this; cases this
  have hfun : s'.heap.FunFrames (hideAll h ((envOf name scope L a cd :: outer).filterMap (·.frame))) (envOf name scope L a cd :: outer) :=
    (funFrames_hide K'.frames hin).of_keeps fun b o e _ => ⟨o, hx.keeps _ _ e, rfl⟩
  have up : h.UpToSlots s'.heap := Heap.UpToSlots.of_keeps hx.keeps
  unfold noteFrame
  simp only [show (envOf name scope L a cd).frame = some L from rfl]
  refine wpAny_bind (wpAny_field he hdd hv1 ?_)
  rw [if_neg (by decide)]
  refine wpAny_newEntryW (Around.frames_deeper K.stack) hfun rfl he st hen hdd hsz hv0 fun h₅ hL => ?_
  obtain ⟨k1, k2, k3, k4⟩ := hL
  have hheld : Heap.FlyingW (hideAll h ((envOf name scope L a cd :: outer).filterMap (·.frame))) (envOf name scope L a cd :: outer) e ob.cls vs[0] h₅ := ⟨k1, hen, k2, k3⟩
  obtain ⟨g₅, _, F₅, K₅⟩ := kts_ground K F hBG k1 (up.trans k4)
  have T₅ : Top p loose mean mg mb g₅ := TB.keeps K₅.stays
  obtain ⟨ob', hob, hobc⟩ := hheld.there
  refine wpAny_handleBy_builtin (X := X) (T := T') (b := true) hexc hnt hsub (ld_builtin_at F₅ T₅.g (mg_none_of (XB.keeps K₅.stays) T₅.g hgn) T₅.b ((T₅.builtins x hn).trans hv) ⟨rfl, ⟨ob', hob, hobc.trans hcls⟩, ?_⟩ hk hxk hd)
  refine lands_againW hheld fun h₆ hfl₆ hsm₆ => ?_
  obtain ⟨g₆, T₆, F₆, K₆⟩ := kts_ground K F hBG hfl₆.1 ((up.trans k4).trans hsm₆)
  exact wpAny_passesOwnAt hE (k h₆ g₆ T₆ F₆ K₆ (XB.keeps K₆.stays) (TB.keeps K₆.stays))
end

def Turned (fs : List Addr) (s s' : Shared) : Prop := ∃ h tk, s' = { s with heap := h, toks := tk } ∧ (∀ b o, s.heap.get? b = some o → b ∉ fs → h.get? b = some o) ∧ (∀ b o, s.heap.get? b = some o → b ∈ fs → ∃ sl, h.get? b = some { o with slots := sl })
theorem Turned.of_keeps {fs : List Addr} {s s' : Shared} : Keeps s s' → Turned fs s s' := by
  rintro ⟨h, tk, rfl, k⟩
  exact ⟨h, tk, rfl, fun b o e _ => k b o e, fun b o e _ => ⟨o.slots, k b o e⟩⟩
theorem Turned.refl {fs : List Addr} (s : Shared) : Turned fs s s := Turned.of_keeps (keeps_refl s)
theorem Turned.trans {fs : List Addr} {s s' s'' : Shared} : Turned fs s s' → Turned fs s' s'' → Turned fs s s'' := by
  rintro ⟨h, tk, rfl, k1, k2⟩ ⟨h', tk', rfl, j1, j2⟩
  refine ⟨h', tk', rfl, fun b o e n => j1 b o (k1 b o e n) n, fun b o e m => ?_⟩
  obtain ⟨sl, e1⟩ := k2 b o e m
  obtain ⟨sl', e2⟩ := j2 b _ e1 m
  exact ⟨sl', e2⟩
theorem Turned.old {fs : List Addr} {s s' : Shared} (T : Turned fs s s') {b : Addr} {o : Obj} (e : s.heap.get? b = some o) (n : b ∉ fs) : s'.heap.get? b = some o := by
  obtain ⟨h, tk, rfl, k1, _⟩ := T
  exact k1 b o e n
theorem Turned.of_turn {fs : List Addr} {s : Shared} {g' h' : Heap} {L : Addr} {m : Str → Option Value} {tk : Nat} (T : KtsTurn fs s.heap g') (F : Fr g' L h' m) : Turned fs s { s with heap := h', toks := tk } :=
  ⟨h', tk, rfl, fun b o e n => F.keep _ _ (T.other b o e n), fun b o e m => (T.frame b o e m).imp fun _ q => F.keep _ _ q⟩
theorem turned_ground {A₀ : Around} {base g G h₅ : Heap} {outer : List Env} {L : Addr} {m : Str → Option Value} (K : Below A₀ base outer g) (F : Fr g L G m)
    (k1 : ∀ b o, G.get? b = some o → b ∉ L :: outer.filterMap (·.frame) → h₅.get? b = some o)
    (k2 : ∀ b o, G.get? b = some o → b ∈ L :: outer.filterMap (·.frame) → ∃ sl, h₅.get? b = some { o with slots := sl }) :
    ∃ g', KtsTurn (outer.filterMap (·.frame)) g g' ∧ Fr g' L h₅ m ∧ Below A₀ base outer g' :=
  kts_ground (name := ⟨#[]⟩) (scope := { kind := .function, names := [], isGenerator := false, isCoroutine := false }) (a := 0) (cd := .none) (B := hideAll G (L :: outer.filterMap (·.frame))) K F (fun b o q hm => by
      have e : (envOf ⟨#[]⟩ { kind := .function, names := [], isGenerator := false, isCoroutine := false } L 0 .none :: outer).filterMap (·.frame) = L :: outer.filterMap (·.frame) := rfl
      rw [e] at hm
      exact hideAll_get _ q hm)
    (fun b o q => k1 b o (of_hideAll _ q) fun hm => by rw [hideAll_none _ hm] at q; cases q)
    (fun b o e _ => by
      by_cases hm : b ∈ L :: outer.filterMap (·.frame)
      · exact k2 b o e hm
      · exact ⟨o.slots, k1 b o e hm⟩)
end Mine
end
/-! part G2 -/
section
open PySem PySem.W PyProof.Rows PySem.Spec PySem.Calls
set_option maxRecDepth 100000
set_option maxHeartbeats 1000000
namespace Mine
theorem iadd_isSeq : isSeqSlot (some (.builtin "list.__iadd__")) = true := by decide +kernel
theorem iadd_slot : seqSlot? (.type "list") (dunderI "add") = pure (some (.builtin "list.__iadd__")) := by
  unfold seqSlot?
  rw [PySem.F.slot_list_iadd.lookup]
  simp only [pure_bind, iadd_isSeq, Bool.not_true, Bool.false_eq_true, if_false]
theorem iadd_fill : fillsInplaceSlot (.type "list") "add" (Operator.Add == .Add) = pure false := by
  unfold fillsInplaceSlot
  show (typeLookup (.type "list") (dunderI "add") >>= fun fi => pure (fi.isSome && !isSeqSlot fi)) = pure false
  rw [PySem.F.slot_list_iadd.lookup]
  simp only [pure_bind, iadd_isSeq, Bool.not_true, Bool.and_false]
theorem mapSeq_list (f : Array Value → Array Value) (its : Array Value) (n : Nat) : ∃ n', Obj.mapSeq f (W.listOf its n) = W.listOf (f its) n' := by
  exact ⟨_, rfl⟩
theorem iadd_lists {prog : Program} {w : World} {A : Around} {E : Value → Shared → Prop} {s : Shared} {D b : Addr} {its its2 : Array Value} {n n2 : Nat} {Q : Value → Shared → Prop}
    (hD : s.heap.get? D = some (W.listOf its n)) (hb : s.heap.get? b = some (W.listOf its2 n2)) (hz : its.size + its2.size ≤ sizeLine)
    (h : ∀ h' n', Heap.SameBut D s.heap h' → h'.get? D = some (W.listOf (its ++ its2) n') → Q (.ref D) { s with heap := h' }) : wpAny (model prog w) A (inplaceOp .Add (.ref D) (.ref b)) Q E s := by
  unfold inplaceOp
  refine wpAny_holding ?_
  have ta : s.TypeIs (.ref D) "list" := ⟨_, hD, rfl⟩
  have tb : s.TypeIs (.ref b) "list" := ⟨_, hb, rfl⟩
  refine wpAny_bind (wpAny_typeOf ta (wpAny_bind (wpAny_of_eq iadd_fill ?_)))
  show wpAny _ A (if false = true then _ else _) Q E s
  rw [if_neg Bool.false_ne_true]
  refine wpAny_bind (wpAny_binaryOp1_none (nm := "add") ta tb noFill_list_add ?_)
  refine wpAny_bind (wpAny_of_eq iadd_slot ?_)
  refine wpAny_bind (wpAny_rule ?_)
  obtain ⟨n', en⟩ := mapSeq_list (fun x => x ++ its2) its n
  refine call_meets PySem.F.slot_list_iadd ta PySem.F.entry_list_iadd (PySem.F.args_list_iadd_2 _ _) (PySem.AutoSeq1.list___iadd___list_list_0 D its n b its2 n2 (extend_door hz) (by omega) (by omega)) ⟨hD, hb, h _ n' (Heap.SameBut.update ..) ?_⟩
  rw [← en]
  exact Heap.get?_update_self _ hD rfl
end Mine
end
/-! part G3 -/
section
open PySem PySem.W PyProof.Rows PySem.Spec PySem.Calls
set_option maxRecDepth 100000
set_option maxHeartbeats 1000000
namespace Mine
theorem lri_no_len : typeLookup (.type "list_reverseiterator") "__len__" = pure none := by rw [typeLookup_type, builtinLookup_eq_fast]; kernel_rfl
theorem lri_hint : typeLookup (.type "list_reverseiterator") "__length_hint__" = pure (some (.builtin "list_reverseiterator.__length_hint__")) := by rw [typeLookup_type, builtinLookup_eq_fast]; kernel_rfl
section
variable {prog : Program} {w : World} {A : Around} {E : Value → Shared → Prop} {s : Shared} {R : Result → Shared → Prop}
variable {I : Addr} {fp wr : List Addr} {G : Array GenState → Array GenState → Prop} {n : Nat} {P : Nat → Value → Prop} {St : Nat → Shared → Prop}
theorem hint_rev {Q : Bool → Shared → Prop} (hT : s.TypeIs (.ref I) "list_reverseiterator") (h : Q false s) : wpAny (model prog w) A (Builtin.List.listLengthHint (.ref I)) Q E s := by
  unfold Builtin.List.listLengthHint
  refine wpAny_bind (wpAny_specialOf hT lri_no_len ?_)
  show wpAny _ A (specialOf (Value.ref I) (Str.ofString "__length_hint__") >>= _) _ _ _
  refine wpAny_bind (wpAny_specialOf hT lri_hint ?_)
  generalize hid : ("list_reverseiterator.__length_hint__" : String) = id0
  wp_delta
  rw [show splitId id0 = some ("list_reverseiterator", "__length_hint__") from by subst hid; decide +kernel]
  subst hid
  refine wpAny_bind (wpAny_isInstance (T := "list_reverseiterator") (b := true) hT (by rw [isSubtype_type]; kernel_rfl) ?_)
  refine wpAny_ite_split (fun hab => absurd hab (by decide)) (fun _ => ?_)
  refine wpAny_ite_split (fun _ => ?_) (fun hab => absurd (by decide +kernel) hab)
  refine wpAny_ite_split (fun hab => absurd hab (by decide +kernel)) (fun _ => ?_)
  exact wpAny_pure h

theorem extend_rev (W : WalksS prog w A.in1 I fp wr G n P St) (hT : ∀ i s, St i s → s.TypeIs (.ref I) "list_reverseiterator") (S : Addr) (res : Value) (c₀ : Nat) (hst : St 0 s) (hSf : S ∉ fp) (hI : I ∈ fp)
    (hS : s.heap.get? S = some { cls := .type "list", data := .seq #[] c₀ })
    (hR : ∀ s' acc' c', Moved (S :: wr) G s s' → s'.heap.get? S = some { cls := .type "list", dict := none, data := .seq acc' c', slots := #[] } → ItemsOf P acc' n → R (.ok (.ret res)) s') (hn : n ≤ sizeLine) :
    wpAny (model prog w) A.in1 (Builtin.List.listExtendWith (.ref S) (.ref I) res)
      (fun fin s' => match fin with | .done f => R (.ok f) s' | .again c' => c'.quiet = true ∧ codeAny (model prog w) A c' R s') (fun e s' => R (.error e) s') s := by
  have hSI : S ≠ I := fun e => hSf (e ▸ hI)
  unfold Builtin.List.listExtendWith
  refine wpAny_bind (wpAny_typeOf (hT 0 _ hst) ?_)
  have h1 : Builtin.List.listSameRef (.ref S) (.ref I) = false := by simp [Builtin.List.listSameRef, hSI]
  have h2 : (Value.type "list_reverseiterator" == Value.type "list") = false := by decide
  have h3 : (Value.type "list_reverseiterator" == Value.type "tuple") = false := by decide
  simp only [h1, h2, h3, Bool.or_false, Bool.false_eq_true, if_false]
  refine wpAny_bind (W.self 0 _ _ _ hst ?_)
  refine wpAny_bind (wpAny_holding (hint_rev (hT 0 _ hst) ?_))
  refine wpAny_ite_split (fun hab => absurd hab (by decide +kernel)) (fun _ => ?_)
  show wpAny _ A.in1 (again (.builtin "list.extend.loop" ⟨[.ref S, .ref I, res], []⟩)) _ _ _
  refine wpAny_pure ⟨plainId_quiet F.plain_extend_loop _, codeAny_extend_loopS W hn _ hSf _ n 0 _ _ _ rfl (Nat.zero_le _) hst hS (ItemsOf.nil P) fun s' acc' c' hm hS' hacc => ?_⟩
  exact hR s' acc' c' hm hS' hacc

theorem init_rev (W : WalksS prog w A.in1 I fp wr G n P St) (hT : ∀ i s, St i s → s.TypeIs (.ref I) "list_reverseiterator") (S : Addr) (hst : St 0 s) (hSf : S ∉ fp) (hI : I ∈ fp)
    (hS : s.heap.get? S = some { cls := .type "list", data := .seq #[] })
    (hR : ∀ s' acc' c', Moved (S :: wr) G s s' → s'.heap.get? S = some { cls := .type "list", dict := none, data := .seq acc' c', slots := #[] } → ItemsOf P acc' n → R (.ok (.ret .none)) s') (hn : n ≤ sizeLine) :
    wpAny (model prog w) A.in1 (Builtin.«list.__init__» ⟨[.ref S, .ref I], []⟩)
      (fun fin s' => match fin with | .done f => R (.ok f) s' | .again c' => c'.quiet = true ∧ codeAny (model prog w) A c' R s') (fun e s' => R (.error e) s') s := by
  show wpAny _ A.in1 (do let old ← Builtin.List.listItems (.ref S); Builtin.List.listUpdate (.ref S) (fun _ => #[]); letGo old.toList.reverse; Builtin.List.listExtendWith (.ref S) (.ref I) .none) _ _ s
  refine wpAny_bind ?_
  unfold Builtin.List.listItems
  refine wpAny_bind (wpAny_seqItems hS rfl (wpAny_pure ?_))
  show wpAny _ A.in1 (updateSeq S (fun _ => #[]) >>= fun _ => letGo (#[] : Array Value).toList.reverse >>= fun _ => Builtin.List.listExtendWith (.ref S) (.ref I) .none) _ _ s
  refine wpAny_bind (wpAny_updateSeq hS rfl ?_)
  have hS₂ := Heap.get?_update_self (Obj.mapSeq (fun _ => (#[] : Array Value))) hS rfl
  have oth : ∀ b o, b ≠ S → s.heap.get? b = some o → (s.heap.update S (Obj.mapSeq (fun _ => (#[] : Array Value)))).get? b = some o :=
    fun b o hb e => (Heap.get?_update_other _ _ (Ne.symm hb)).trans e
  refine wpAny_bind (wpAny_letGo ?_)
  refine extend_rev (hn := hn) W hT S .none _ (W.frame 0 s _ s.toks hst (Nat.le_refl _) fun b hb o e => oth b o (fun h => hSf (h ▸ hb)) e) hSf hI hS₂ fun s' acc' c' hm hS' hacc => ?_
  exact hR s' acc' c' (Moved.trans W.gtrans ((Moved.refl W.grefl).then_heap (Nat.le_refl _) fun b o hb e => oth b o (fun h => hb (h ▸ List.mem_cons_self)) e) hm) hS' hacc

theorem call_list_revG {Q : Value → Shared → Prop} (W : WalksS prog w A.in1.in1 I fp wr G n P St) (hT : ∀ i s, St i s → s.TypeIs (.ref I) "list_reverseiterator") (hst : St 0 s) (hfp : ∀ b ∈ fp, b < s.heap.objs.size) (hI : I ∈ fp)
    (hQ : ∀ s' acc' c', Moved (s.heap.objs.size :: wr) G { s with heap := s.heap.push { cls := .type "list", data := .seq #[] } } s' →
      s'.heap.get? s.heap.objs.size = some { cls := .type "list", dict := none, data := .seq acc' c', slots := #[] } → ItemsOf P acc' n → Q (.ref s.heap.objs.size) s') (hn : n ≤ sizeLine) :
    wpAny (model prog w) A (call (.type "list") [.ref I]) Q E s := by
  have hSf : s.heap.objs.size ∉ fp := fun hm => Nat.lt_irrefl _ (hfp _ hm)
  refine callType_codes (Q₁ := fun obj s₁ => obj = .ref s.heap.objs.size ∧ s₁ = { s with heap := s.heap.push { cls := .type "list", data := .seq #[] } }) F.called_list (F.typeCall_list_1 _) F.entry_list_init
    (code_list_new _ ⟨rfl, rfl⟩) fun obj s₁ h₁ => ?_
  obtain ⟨rfl, rfl⟩ := h₁
  have hS : (s.heap.push { cls := .type "list", data := .seq #[] }).get? s.heap.objs.size = some { cls := .type "list", data := .seq #[] } := Heap.get?_push_size _ rfl
  refine ⟨⟨_, hS, rfl⟩, F.args_list_init_2 _ _, init_rev (hn := hn) W hT _ (W.frame 0 s _ s.toks hst (Nat.le_refl _) fun b _ o e => Heap.get?_push_of_some _ e) hSf hI hS fun s' acc' c' hm hS' hacc => ?_⟩
  exact ⟨rfl, hQ s' acc' c' hm hS' hacc⟩
theorem walks_mono {prog : Program} {w : World} {A : Around} {I : Addr} {fp wr : List Addr} {n : Nat} {P P' : Nat → Value → Prop} {St : Nat → Heap → Prop} (W : Walks prog w A I fp wr n P St) (h : ∀ i v, i < n → P i v → P' i v) : Walks prog w A I fp wr n P' St where
  sub := W.sub
  frame := W.frame
  item := fun i s Q E hi hs hQ => W.item i s Q E hi hs fun v h' tk hP => hQ v h' tk (h i v hi hP)
  done := W.done
  self := W.self
theorem call_list_rev {Q : Value → Shared → Prop} {l : Addr} {items : List Value} (hh : A.handled = none) (hne : l ≠ I) (hit : s.heap.get? I = some (revObj l ((items.length : Int) - 1))) (hl : s.heap.IsList l items.toArray) (hn : items.length ≤ sizeLine)
    (hQ : ∀ D h' tk c', s.heap.objs.size ≤ D → (∀ b o, b ≠ I → s.heap.get? b = some o → h'.get? b = some o) → h'.get? D = some (W.listOf items.reverse.toArray c') → Q (.ref D) { s with heap := h', toks := tk }) :
    wpAny (model prog w) A (call (.type "list") [.ref I]) Q E s := by
  have hs : items.toArray.size = items.length := by simp
  have W := Walks.listRev (prog := prog) (w := w) (A := A.in1.in1) hh I l hne items.toArray
  rw [hs] at W
  have it0 : s.heap.IsRevIter I l ((items.length : Int) - 1) := ⟨_, hit, rfl, rfl⟩
  refine call_list_revG (W := (walks_mono W (P' := fun i v => items.reverse[i]? = some v) fun i v hi hP => by rw [List.getElem?_reverse hi]; simpa using hP).toS) (fun i s' st => let ⟨o, ho, hc, _⟩ := st.2.1; ⟨o, ho, hc⟩) ⟨Nat.zero_le _, by simpa using it0, hl⟩ ?_ (List.mem_cons_self ..) ?_ hn
  · intro b hb
    simp only [List.mem_cons, List.not_mem_nil, or_false] at hb
    rcases hb with rfl | rfl
    · exact Heap.lt_size hit
    · obtain ⟨_, ho, _⟩ := hl; exact Heap.lt_size ho
  · intro s' acc' c' hM hS hacc
    have e : acc' = items.reverse.toArray := by
      apply Array.ext
      · simp [hacc.1]
      · intro i h1 h2
        have h3 := hacc.2 i acc'[i] (Array.getElem?_eq_getElem h1)
        rw [List.getElem_toArray]
        exact (List.getElem?_eq_some_iff.mp h3).2.symm
    subst e
    obtain ⟨a1, a2, a3, a4, a5⟩ := s'
    have e1 := hM.gens; have e2 := hM.drawn; have e3 := hM.os
    dsimp only at e1 e2 e3
    subst e1; subst e2; subst e3
    refine hQ s.heap.objs.size a1 a4 c' (Nat.le_refl _) (fun b o hb e => hM.heap b o (fun hm => ?_) (Heap.get?_push_of_some _ e)) hS
    simp only [List.mem_cons, List.not_mem_nil, or_false] at hm
    rcases hm with rfl | rfl
    · exact Nat.lt_irrefl _ (Heap.lt_size e)
    · exact hb rfl
end
end Mine
end
/-! part E1 -/
section
open PySem PySem.W PyProof.Rows PySem.Spec PySem.Calls
open PySem.AutoSeq1 (wpAny_loadPart')
open PySem.MeetsSeq PySem.MeetsSeq2 PySem.MeetsSeq3 PySem.SeqRoads2 PySem.SeqAt
set_option maxRecDepth 100000
set_option maxHeartbeats 2000000
namespace Mine
section
variable {prog : Program} {w : World}

theorem eq_loopE {l b : Addr} {fs : List Addr} (hlf : l ∉ fs) (hbf : b ∉ fs) {items items2 : Array Value} (hsz : items.size = items2.size) (e : Nat → Bool) (A : Around) (s₀ : Shared) (hl₀ : s₀.heap.IsList l items) (hb₀ : s₀.heap.IsList b items2)
    (he : ∀ j (h1 : j < items.size) (h2 : j < items2.size) (s' : Shared) (E' : Value → Shared → Prop), Turned fs s₀ s' → wpAny (model prog w) A.in1 (eqBool items[j] items2[j]) (fun r s'' => r = e j ∧ Turned fs s' s'') E' s') (k : Nat) :
    ∀ i : Nat, items.size - i = k → ∀ (R : Result → Shared → Prop) (s : Shared), Turned fs s₀ s → (∀ s', Turned fs s₀ s' → R (.ok (.ret (.bool (((List.range items.size).drop i).all e)))) s') →
      wpAny (model prog w) A.in1 (Builtin.«list.__eq__.loop» ⟨[.ref l, .ref b, rawInt i, rawInt 2], []⟩) (fun fin s' => match fin with | .done f => R (.ok f) s' | .again c' => c'.quiet = true ∧ codeAny (model prog w) A c' R s') (fun e s' => R (.error e) s') s := by
  induction k with
  | zero =>
    intro i hk R s hK h
    have h := h s hK
    obtain ⟨⟨cls, dd, data, sl⟩, hl, hc, n, hd⟩ := hl₀
    obtain ⟨⟨cls2, dd2, data2, sl2⟩, hb, hc2, n2, hd2⟩ := hb₀
    simp only at hc hd hc2 hd2
    subst hc hd hc2 hd2
    have hl := hK.old hl hlf
    have hb := hK.old hb hbf
    obtain ⟨hp, g, d, tk, os⟩ := s
    wp_walk using wpAny_loadPart' hl, wpAny_loadPart' hb
    have hi1 : items[((i : Nat) : Int).toNat]? = none := by simp; omega
    have hi2 : items2[((i : Nat) : Int).toNat]? = none := by simp; omega
    have hd : (List.range items.size).drop i = [] := by simp; omega
    rw [hd] at h
    rw [hi1, hi2]
    wp_walk using wpAny_loadPart' hl, wpAny_loadPart' hb
    show R (.ok (.ret (.bool (items.size == items2.size)))) _
    rw [hsz]
    simpa using h
  | succ k ih =>
    intro i hk R s hK h
    obtain ⟨⟨cls, dd, data, sl⟩, hlo, hc, n, hd⟩ := id hl₀
    obtain ⟨⟨cls2, dd2, data2, sl2⟩, hbo, hc2, n2, hd2⟩ := id hb₀
    simp only at hc hd hc2 hd2
    subst hc hd hc2 hd2
    have hl := hK.old hlo hlf
    have hb := hK.old hbo hbf
    obtain ⟨hp, g, d, tk, os⟩ := s
    wp_walk using wpAny_loadPart' hl, wpAny_loadPart' hb
    have hlt : i < items.size := by omega
    have hlt2 : i < items2.size := by omega
    have hi1 : items[((i : Nat) : Int).toNat]? = some items[i] := by simp [hlt]
    have hi2 : items2[((i : Nat) : Int).toNat]? = some items2[i] := by simp [hlt2]
    have hd : (List.range items.size).drop i = i :: (List.range items.size).drop (i + 1) := by simp [List.drop_eq_getElem_cons, hlt]
    have hc : ((i : Int) + 1) = ((i + 1 : Nat) : Int) := by push_cast; rfl
    rw [hd, List.all_cons] at h
    rw [hi1, hi2]
    refine wpAny_bind (wpAny_mono (he i hlt hlt2 _ _ hK) (fun r s'' hr => ?_) fun _ _ e => e)
    obtain ⟨rfl, hK''⟩ := hr
    have hK2 := Turned.trans hK hK''
    cases hb' : e i with
    | true =>
      rw [hb'] at h
      wp_walk
      rw [hc]
      exact ⟨plainId_quiet plain_eq_loop _, codeAny_builtin entry_eq_loop (by
        rw [Around.under_plainId plain_eq_loop _]
        exact ih (i + 1) (by omega) R _ hK2 (by simpa using h))⟩
    | false =>
      rw [hb'] at h
      have h := h _ hK2
      have hl := hK2.old hlo hlf
      have hb := hK2.old hbo hbf
      obtain ⟨hp, g, d, tk, os⟩ := s''
      wp_walk using wpAny_loadPart' hl, wpAny_loadPart' hb
      rw [hi1, hi2]
      wp_walk
      simpa using h

theorem list_eqE {fs : List Addr} {A : Around} {E : Value → Shared → Prop} {s : Shared} {l b : Addr} {items items2 : Array Value} {Q : Value → Shared → Prop} (hl : s.heap.IsList l items) (hb : s.heap.IsList b items2) (hsz : items.size = items2.size) (hu : A.units < cLine) (hlf : l ∉ fs) (hbf : b ∉ fs) (e : Nat → Bool)
    (he : ∀ j (h1 : j < items.size) (h2 : j < items2.size) (s' : Shared) (E' : Value → Shared → Prop), Turned fs s s' → wpAny (model prog w) A.in1 (eqBool items[j] items2[j]) (fun r s'' => r = e j ∧ Turned fs s' s'') E' s')
    (hQ : ∀ s', Turned fs s s' → Q (.bool ((List.range items.size).all e)) s') : wpAny (model prog w) A (richCompare .Eq (.ref l) (.ref b)) Q E s := by
  obtain ⟨⟨cls, dd, data, sl⟩, ho, hc, n, hd⟩ := id hl
  obtain ⟨⟨cls2, dd2, data2, sl2⟩, ho2, hc2, n2, hd2⟩ := id hb
  simp only at hc hd hc2 hd2
  subst hc hd hc2 hd2
  refine wpAny_richCompare_same_room ⟨_, ho, rfl⟩ ⟨_, ho2, rfl⟩ F.slot_list_eq (wpAny_call (codeAny_call_builtin F.slot_list_eq.plain F.entry_list_eq (F.slot_list_eq.check _ _ _ _ _ _ _ _ ⟨_, ho, rfl⟩ (F.args_list_eq_2 _ _) ?_))) hu
  have f3 := AutoSeq1.sub_list_list
  have hne : ¬ (items.size != items2.size) = true := by simp [hsz]
  have he' := he
  have hQ' := hQ
  obtain ⟨hp, g, d, tk, os⟩ := s
  wp_walk using wpAny_loadPart' ho, wpAny_loadPart' ho2
  exact ⟨plainId_quiet plain_eq_loop _, codeAny_builtin entry_eq_loop (by
    rw [Around.under_plainId plain_eq_loop _]
    exact eq_loopE hlf hbf hsz e A _ hl hb he' _ 0 rfl (wants (fun v s' => v ≠ .notImplemented ∧ Q v s') E) _ (Turned.refl _) fun s' hk => (show Value.bool _ ≠ Value.notImplemented ∧ Q (.bool _) s' from ⟨(fun x => nomatch x), by simpa using hQ' s' hk⟩))⟩
end
end Mine
end
/-! part E2 -/
section
open PySem PySem.W PyProof.Rows PySem.Spec PySem.Calls
set_option maxRecDepth 100000
set_option maxHeartbeats 4000000
namespace Mine
mutual
def rowEq : Row → Row → Bool
  | .tok t v, .tok t' v' => t == t' && v == v'
  | .tree n k, .tree n' k' => n == n' && rowsEq k k'
  | _, _ => false
def rowsEq : List Row → List Row → Bool
  | [], [] => true
  | a :: as, b :: bs => rowEq a b && rowsEq as bs
  | _, _ => false
end
mutual
theorem rowEq_iff : ∀ a b : Row, rowEq a b = true ↔ a = b
  | .tok t v, .tok t' v' => by simp [rowEq]
  | .tree n k, .tree n' k' => by simp [rowEq, rowsEq_iff k k']
  | .tok _ _, .tree _ _ => by simp [rowEq]
  | .tree _ _, .tok _ _ => by simp [rowEq]
theorem rowsEq_iff : ∀ a b : List Row, rowsEq a b = true ↔ a = b
  | [], [] => by simp [rowsEq]
  | [], _ :: _ => by simp [rowsEq]
  | _ :: _, [] => by simp [rowsEq]
  | a :: as, b :: bs => by simp [rowsEq, rowEq_iff a b, rowsEq_iff as bs]
end
theorem rowsEq_len : ∀ a b : List Row, a.length ≠ b.length → rowsEq a b = false
  | [], [], h => absurd rfl h
  | [], _ :: _, _ => rfl
  | _ :: _, [], _ => rfl
  | a :: as, b :: bs, h => by
    have := rowsEq_len as bs (fun e => h (by simp [e]))
    simp [rowsEq, this]
def rowAt (l : List Row) (j : Nat) : Row := l.getD j (.tok ⟨#[]⟩ 0)
theorem rowsEq_all (a b : List Row) (h : a.length = b.length) : rowsEq a b = (List.range a.length).all fun j => rowEq (rowAt a j) (rowAt b j) := by
  induction a generalizing b with
  | nil => cases b with
    | nil => rfl
    | cons => simp at h
  | cons x xs ih => cases b with
    | nil => simp at h
    | cons y ys =>
      have := ih ys (by simpa using h)
      rw [List.length_cons, List.range_succ_eq_map, List.all_cons, List.all_map]
      show (rowEq x y && rowsEq xs ys) = _
      rw [this]
      rfl

theorem its_inj {x y : Array Value} {n m : Nat} : W.listOf x n = W.listOf y m → x = y := by
  intro e
  have := congrArg Obj.data e
  simp only [W.listOf] at this
  cases this
  rfl
mutual
theorem TV.uniq {fs : List Addr} {h : Heap} : ∀ {a b : N}, TV (hvx fs h) a → TV (hvx fs h) b → a.addr = b.addr → a = b
  | .tok a .., .tok a' .., .tok p q, .tok p' q', e => by
    have e : a = a' := e
    subst e
    have e1 := Option.some.inj (p.2.symm.trans p'.2)
    cases e1
    have e2 := Option.some.inj (q.2.symm.trans q'.2)
    cases e2
    rfl
  | .tok a .., .tree a' .., .tok p q, .tree p' .., e => by
    have e : a = a' := e
    subst e
    have e1 := Option.some.inj (p.2.symm.trans p'.2)
    cases e1
  | .tree a .., .tok a' .., .tree p .., .tok p' q', e => by
    have e : a = a' := e
    subst e
    have e1 := Option.some.inj (p.2.symm.trans p'.2)
    cases e1
  | .tree a .., .tree a' .., .tree p q r i t, .tree p' q' r' i' t', e => by
    have e : a = a' := e
    subst e
    have e1 := Option.some.inj (p.2.symm.trans p'.2)
    cases e1
    have e2 := Option.some.inj (q.2.symm.trans q'.2)
    cases e2
    have e3 := its_inj (Option.some.inj (r.2.symm.trans r'.2))
    subst e3
    rw [TVs.uniq t t' (i.symm.trans i')]
theorem TVs.uniq {fs : List Addr} {h : Heap} : ∀ {a b : List N}, TVs (hvx fs h) a → TVs (hvx fs h) b → a.map N.val = b.map N.val → a = b
  | [], [], _, _, _ => rfl
  | [], _ :: _, _, _, e => by cases e
  | _ :: _, [], _, _, e => by cases e
  | a :: as, b :: bs, .cons x xs, .cons y ys, e => by
    simp only [List.map_cons, List.cons.injEq, N.val, Value.ref.injEq] at e
    rw [TV.uniq x y e.1, TVs.uniq xs ys e.2]
end
theorem eqBool_refs {prog : Program} {w : World} {A : Around} {E : Value → Shared → Prop} {s : Shared} {a b : Addr} {r : Bool} {Q : Bool → Shared → Prop} (hs : a = b → r = true) (hq : a = b → Q r s)
    (h : a ≠ b → wpAny (model prog w) A (richCompare .Eq (.ref a) (.ref b)) (fun v s' => v = .bool r ∧ Q r s') E s) : wpAny (model prog w) A (eqBool (.ref a) (.ref b)) Q E s := by
  unfold eqBool
  refine wpAny_holding ?_
  refine wpAny_ite_split (fun hab => ?_) (fun hab => ?_)
  · have e : a = b := by have := eq_of_beq hab; injection this
    refine wpAny_bind (wpAny_rule (wpAny_pure ?_))
    have := hq e
    rwa [hs e] at this
  · have e : a ≠ b := fun e => hab (by subst e; exact beq_self_eq_true _)
    refine wpAny_bind (wpAny_mono (h e) (fun v s' hv => ?_) fun _ _ e => e)
    obtain ⟨rfl, hq⟩ := hv
    exact wpAny_truthy_bool hq

def eqf (a : N) : Addr := if a.isTree then 78 else 42
def EqPost (fs : List Addr) (s s' : Shared) (x : Value) (r : Bool) : Prop := Turned fs s s' ∧ x = .bool r
theorem eqPost_of {fs : List Addr} {s : Shared} {g' h' : Heap} {L : Addr} {m : Str → Option Value} {tk : Nat} {x : Value} {r : Bool} (T : KtsTurn fs s.heap g') (F : Fr g' L h' m) (e : x = .bool r) :
    EqPost fs s { s with heap := h', toks := tk } x r := ⟨Turned.of_turn T F, e⟩
theorem eqPost_keeps {fs : List Addr} {s : Shared} {h' : Heap} {L : Addr} {m : Str → Option Value} {tk : Nat} {x : Value} {r : Bool} (F : Fr s.heap L h' m) (e : x = .bool r) :
    EqPost fs s { s with heap := h', toks := tk } x r := ⟨Turned.of_keeps (keeps_of F), e⟩

theorem k_eq149 (P : Params) : findIn (hd.heap_39 P) (.ref 149) (cmpInfo .Eq).2.1 = some (some (.ref 78)) := by kernel_rfl
theorem k_eq52 (P : Params) : findIn (hd.heap_39 P) (.ref 52) (cmpInfo .Eq).2.1 = some (some (.ref 42)) := by kernel_rfl
theorem k_ne149 (P : Params) : findIn (hd.heap_39 P) (.ref 149) (cmpInfo .NotEq).2.1 = some (some (.ref 85)) := by kernel_rfl
theorem k_fn78 (P : Params) : isFn (hd.heap_39 P) (.ref 78) = true := by kernel_rfl
theorem k_fn42 (P : Params) : isFn (hd.heap_39 P) (.ref 42) = true := by kernel_rfl
theorem k_fn85 (P : Params) : isFn (hd.heap_39 P) (.ref 85) = true := by kernel_rfl
theorem k_nf1 (P : Params) : notFirst (hd.heap_39 P) 149 (.ref 149) = true := by kernel_rfl
theorem k_nf2 (P : Params) : notFirst (hd.heap_39 P) 149 (.ref 52) = true := by kernel_rfl
theorem k_nf3 (P : Params) : notFirst (hd.heap_39 P) 52 (.ref 149) = true := by kernel_rfl
theorem k_nf4 (P : Params) : notFirst (hd.heap_39 P) 52 (.ref 52) = true := by kernel_rfl
theorem eq_facts (P : Params) : ∀ (k k' : N), findIn (hd.heap_39 P) (.ref k.cls) (cmpInfo .Eq).2.1 = some (some (.ref (eqf k))) ∧ isFn (hd.heap_39 P) (.ref (eqf k)) = true ∧ notFirst (hd.heap_39 P) k.cls (.ref k'.cls) = true
  | .tok .., .tok .. => ⟨k_eq52 P, k_fn42 P, k_nf4 P⟩
  | .tok .., .tree .. => ⟨k_eq52 P, k_fn42 P, k_nf3 P⟩
  | .tree .., .tok .. => ⟨k_eq149 P, k_fn78 P, k_nf2 P⟩
  | .tree .., .tree .. => ⟨k_eq149 P, k_fn78 P, k_nf1 P⟩

section
local macro_rules | `(tactic| tm_at "w compareOp Eq ref ref") => `(tactic| refine stop_here ?_)
theorem eq_spec {w : World} {p : Program} {loose : List Str} {mean : ExcName → Option Value} {mg mb : Str → Option Value} : ∀ (n : Nat) (a b : N), a.row.size < n → ∀ (A : Around) (base : Heap) (fr : List Env) (s : Shared) (E : Value → Shared → Prop),
    Amb w p loose mean mg mb A base fr s.heap → (hd.heap_39 w.params).In base → Top p loose mean mg mb base → TV (hvx (fr.filterMap (·.frame)) s.heap) a → TV (hvx (fr.filterMap (·.frame)) s.heap) b →
    a.row.size ≤ 10000 → A.depth + 2 * a.row.hgt < recursionLimit → A.units + 40 * a.row.hgt < cLine →
    wpAny (model PySem.Challenge.rw_fi0013_01.row.prog w) A (call (.ref (eqf a)) [a.val, b.val]) (fun x s' => EqPost (fr.filterMap (·.frame)) s s' x (rowEq a.row b.row)) E s := by
  intro n
  induction n with
  | zero => intro a b h; exact absurd h (Nat.not_lt_zero _)
  | succ n ih =>
    intro ta tb hr A base fr s E H XB TB hva hvb hz hd' hu'
    obtain ⟨hd0, dep, frs, gds, un⟩ := A
    obtain ⟨X, T, B, hh⟩ := id H
    obtain rfl : frs = some fr := B.stack
    obtain rfl : hd0 = none := hh
    dsimp only at hd' hu'
    revert X; k_fill; intro X
    have hpos := hgt_pos ta.row
    cases hva with
    | @tok a da ty v h1 h2 k1 k2 t1 t2 ho hod =>
      have I : InstAt s.heap a (instObj 52 da) 52 (some _) := ⟨ho.2, rfl, rfl, hod.2⟩
      show wpAny _ _ (call (.ref 42) [.ref a, tb.val]) _ _ _
      cases hvb with
      | @tok a' da' ty' v' h1' h2' k1' k2' t1' t2' ho' hod' =>
        have I' : InstAt s.heap a' (instObj 52 da') 52 (some _) := ⟨ho'.2, rfl, rfl, hod'.2⟩
        show wpAny _ _ (call (.ref 42) [.ref a, .ref a']) _ _ _
        refine wpAny_call ?_
        tm_at "my enter"
        intro L' h₁ F' N'
        (try dsimp only); (try k_fold)
        k_steps
        all_goals (refine eqPost_keeps (by assumption) ?_; simp only [N.row, rowEq]; simp [*])
      | @tree a' da' l' nm' kids' h1' h2' h3' k1' k2' k3' t1' its' ep' ho' hod' hl' hits' hks' =>
        have I' : InstAt s.heap a' (instObj 149 da') 149 (some _) := ⟨ho'.2, rfl, rfl, hod'.2⟩
        show wpAny _ _ (call (.ref 42) [.ref a, .ref a']) _ _ _
        refine wpAny_call ?_
        tm_at "my enter"
        intro L' h₁ F' N'
        (try dsimp only); (try k_fold)
        k_steps
        all_goals (refine eqPost_keeps (by assumption) ?_; simp only [N.row, rowEq])
    | @tree a da l nm kids h1 h2 h3 k1 k2 k3 t1 its ep ho hod hl hits hks =>
      have I : InstAt s.heap a (instObj 149 da) 149 (some _) := ⟨ho.2, rfl, rfl, hod.2⟩
      cases hvb with
      | @tok a' da' ty' v' h1' h2' k1' k2' t1' t2' ho' hod' =>
        have I' : InstAt s.heap a' (instObj 52 da') 52 (some _) := ⟨ho'.2, rfl, rfl, hod'.2⟩
        show wpAny _ _ (call (.ref 78) [.ref a, .ref a']) _ _ _
        refine wpAny_call ?_
        tm_at "my enter"
        intro L' h₁ F' N'
        (try dsimp only); (try k_fold)
        k_steps
        have X₁ := X.keeps F'.keep
        k_dflt refine' get_missing X₁ (instF I' F') ?k1 ?k2 ?k3 ?k4 ?k5 ?k6 ?k7 rfl ?_
        case k1 => k_is
        case k2 => kernel_rfl
        case k3 => k_is
        case k4 => k_is
        case k5 => decide +kernel
        case k6 => decide +kernel
        case k7 => decide +kernel
        intro h₂ tk₂ e hx
        k_dflt refine' caught_A (T' := "AttributeError") B F' hx XB TB PyProof.Rows.Boot.«AttributeError» ?x0 isExc_AE notTuple_AE ?x3 ?_
        case x0 => k_is
        case x3 => rw [isSubtype_type]; kernel_rfl
        intro h₃ g₃ Tn F₃ B₃ X₃ T₃
        k_steps
        show EqPost _ _ _ _ _
        exact eqPost_of Tn F₃ (by simp only [N.row, rowEq])
      | @tree a' da' l' nm' kids' h1' h2' h3' k1' k2' k3' t1' its' ep' ho' hod' hl' hits' hks' =>
        have I' : InstAt s.heap a' (instObj 149 da') 149 (some _) := ⟨ho'.2, rfl, rfl, hod'.2⟩
        show wpAny _ _ (call (.ref 78) [.ref a, .ref a']) _ _ _
        refine wpAny_call ?_
        tm_at "my enter"
        intro L' h₁ F' N'
        (try dsimp only); (try k_fold)
        k_steps
        rotate_left
        · show EqPost _ _ _ _ _
          refine eqPost_keeps (by assumption) ?_
          simp only [N.row, rowEq]; simp [*]
        rename (nm == nm') = true => hnm
        rename Fr _ _ _ _ => F₂
        refine ⟨?_⟩
        have fl : ∀ {b : Addr} {o : Obj}, hvx (fr.filterMap (·.frame)) s.heap b o → b ∉ L' :: fr.filterMap (·.frame) := fun {b o} e => by
          intro hm
          rcases List.mem_cons.mp hm with rfl | hm
          · exact absurd (Nat.lt_of_lt_of_le (Heap.lt_size e.2) F₂.above) (Nat.lt_irrefl _)
          · exact e.1 hm
        have hlen1 : its.size = kids.length := by have := congrArg List.length hits; simpa using this
        have hlen2 : its'.size = kids'.length := by have := congrArg List.length hits'; simpa using this
        by_cases hlen : kids.length = kids'.length
        · refine (show wpAny _ _ (richCompare .Eq _ _) _ _ _ from list_eqE (fs := L' :: fr.filterMap (·.frame)) (items := its) (items2 := its') ⟨_, F₂.keep _ _ hl.2, rfl, _, rfl⟩ ⟨_, F₂.keep _ _ hl'.2, rfl, _, rfl⟩ (by omega) ?_ (fl hl) (fl hl') (fun j => rowEq (rowAt (N.rows kids) j) (rowAt (N.rows kids') j)) ?_ ?_)
          · simp only [units_deeper]; omega
          · intro j j1 j2 s₃ E' hT
            obtain ⟨k, hk⟩ : ∃ k, kids[j]? = some k := ⟨kids[j], by simp⟩
            obtain ⟨k', hk'⟩ : ∃ k, kids'[j]? = some k := ⟨kids'[j], by simp⟩
            have e1 : its[j] = k.val := by
              have := congrArg (·[j]?) hits
              simp only [List.getElem?_map, hk, Option.map_some] at this
              have this : ∃ _ : j < its.size, its[j] = k.val := by simpa [Array.getElem?_eq_some_iff] using this
              exact this.2
            have e2 : its'[j] = k'.val := by
              have := congrArg (·[j]?) hits'
              simp only [List.getElem?_map, hk', Option.map_some] at this
              have this : ∃ _ : j < its'.size, its'[j] = k'.val := by simpa [Array.getElem?_eq_some_iff] using this
              exact this.2
            have e3 : rowAt (N.rows kids) j = k.row := by simp [rowAt, rows_eq, hk]
            have e4 : rowAt (N.rows kids') j = k'.row := by simp [rowAt, rows_eq, hk']
            rw [e1, e2]
            show wpAny _ _ _ (fun r s'' => r = rowEq (rowAt (N.rows kids) j) (rowAt (N.rows kids') j) ∧ _) _ _
            rw [e3, e4]
            have hkv := hks.get (List.mem_of_getElem? hk)
            have hkv' := hks'.get (List.mem_of_getElem? hk')
            have hr1 := rows_get hk
            have hmem := List.mem_of_getElem? hr1
            refine eqBool_refs (r := rowEq k.row k'.row) (fun e => ?_) (fun _ => ⟨rfl, Turned.refl _⟩) fun hne => ?_
            · rw [TV.uniq hkv hkv' e]; exact (rowEq_iff _ _).mpr rfl
            · obtain ⟨h₃, tk₃, rfl, q1, q2⟩ := hT
              obtain ⟨g₃, Tn, F₃, B₃⟩ := turned_ground B F₂ q1 q2
              have X₃ := XB.keeps B₃.stays
              have T₃ := TB.keeps B₃.stays
              have mv : vle (hvx (fr.filterMap (·.frame)) s.heap) (hvx (L' :: fr.filterMap (·.frame)) h₃) := fun b o e => ⟨fl e, F₃.keep _ _ (Tn.other _ _ e.2 e.1)⟩
              have c1 := hkv.mono mv
              have c2 := hkv'.mono mv
              obtain ⟨da₁, od₁, I₁⟩ := (c1.mono (G' := hv h₃) fun _ _ e => e.2).inst
              obtain ⟨da₂, od₂, I₂⟩ := (c2.mono (G' := hv h₃) fun _ _ e => e.2).inst
              obtain ⟨hs, hf, hn⟩ := eq_facts w.params k k'
              refine cmp_K ?_ F₃ X₃ I₁ I₂.type hn hs hf ?_
              · simp only [units_in1, units_deeper]; omega
              · refine wpAny_mono (ih k k' ?_ _ base _ _ E' (amb_of B₃ F₃ X₃ T₃ (Around.frames_deeper B.stack) rfl rfl rfl) XB TB ?_ ?_ ?_ ?_ ?_) (fun y s₆ h₆ => ?_) fun _ _ e => e
                · have := size_mem hmem; simp only [N.row, Row.size] at hr; omega
                · exact c1
                · exact c2
                · have := size_mem hmem; simp only [N.row, Row.size] at hz; omega
                · have := hgt_mem hmem; simp only [N.row, Row.hgt] at hd'; simp only [depth_in1, depth_deeper]; omega
                · have := hgt_mem hmem; simp only [N.row, Row.hgt] at hu'; simp only [units_in1, units_deeper]; omega
                · obtain ⟨t6, rfl⟩ := h₆
                  exact ⟨rfl, rfl, t6⟩
          · intro s₃ hT
            show EqPost _ _ _ _ _
            obtain ⟨h₃, tk₃, rfl, q1, q2⟩ := hT
            obtain ⟨g₃, Tn, F₃, B₃⟩ := turned_ground B F₂ q1 q2
            refine eqPost_of Tn F₃ ?_
            have hl2 : (N.rows kids).length = (N.rows kids').length := by rw [rows_length, rows_length]; exact hlen
            simp only [N.row, rowEq, hnm, Bool.true_and, rowsEq_all _ _ hl2, rows_length, hlen1]
        · refine PySem.SeqAt.eq_list_lengthsAt (items := its) (items2 := its') ⟨_, F₂.keep _ _ hl.2, rfl, _, rfl⟩ ⟨_, F₂.keep _ _ hl'.2, rfl, _, rfl⟩ (by simp; omega) ?_ ?_
          · simp only [units_deeper]; omega
          · show EqPost _ _ _ _ _
            refine eqPost_keeps F₂ ?_
            have := rowsEq_len (N.rows kids) (N.rows kids') (by rw [rows_length, rows_length]; exact hlen)
            simp only [N.row, rowEq, this, Bool.and_false]
end
end Mine
end
/-! part E3 -/
section
open PySem PySem.W PyProof.Rows PySem.Spec PySem.Calls
set_option maxRecDepth 100000
set_option maxHeartbeats 4000000
namespace Mine
section
local macro_rules | `(tactic| tm_at "w compareOp Eq ref ref") => `(tactic| refine stop_here ?_)
local macro_rules | `(tactic| tm_at "w call ref") => `(tactic| ((with_reducible show wpAny _ _ (call (Value.ref 78) _ _) _ _ _); refine stop_here ?_))
theorem ne_spec {w : World} {p : Program} {loose : List Str} {mean : ExcName → Option Value} {mg mb : Str → Option Value} (ta tb : N) (hta : ta.isTree = true) (A : Around) (base : Heap) (fr : List Env) (s : Shared) (E : Value → Shared → Prop)
    (H : Amb w p loose mean mg mb A base fr s.heap) (XB : (hd.heap_39 w.params).In base) (TB : Top p loose mean mg mb base) (hva : TV (hvx (fr.filterMap (·.frame)) s.heap) ta) (hvb : TV (hvx (fr.filterMap (·.frame)) s.heap) tb)
    (hz : ta.row.size ≤ 10000) (hd' : A.depth + 2 * ta.row.hgt + 1 < recursionLimit) (hu' : A.units + 40 * ta.row.hgt + 10 < cLine) :
    wpAny (model PySem.Challenge.rw_fi0013_01.row.prog w) A (call (.ref 85) [ta.val, tb.val]) (fun x s' => EqPost (fr.filterMap (·.frame)) s s' x (!rowEq ta.row tb.row)) E s := by
  obtain ⟨hd0, dep, frs, gds, un⟩ := A
  obtain ⟨X, T, B, hh⟩ := id H
  obtain rfl : frs = some fr := B.stack
  obtain rfl : hd0 = none := hh
  dsimp only at hd' hu'
  revert X; k_fill; intro X
  have hpos := hgt_pos ta.row
  obtain ⟨da₁, od₁, I₁⟩ := (hva.mono (G' := hv s.heap) fun _ _ e => e.2).inst
  obtain ⟨da₂, od₂, I₂⟩ := (hvb.mono (G' := hv s.heap) fun _ _ e => e.2).inst
  have hc : ta.cls = 149 := by simp [N.cls, hta]
  rw [hc] at I₁
  refine wpAny_call ?_
  tm_at "my enter"
  intro L' h₁ F' N'
  (try dsimp only); (try k_fold)
  k_steps
  refine ⟨?_⟩
  rename Fr _ _ _ _ => F₂
  have fl : ∀ {b : Addr} {o : Obj}, hvx (fr.filterMap (·.frame)) s.heap b o → b ∉ L' :: fr.filterMap (·.frame) := fun {b o} e => by
    intro hm
    rcases List.mem_cons.mp hm with rfl | hm
    · exact absurd (Nat.lt_of_lt_of_le (Heap.lt_size e.2) F₂.above) (Nat.lt_irrefl _)
    · exact e.1 hm
  have mv : vle (hvx (fr.filterMap (·.frame)) s.heap) (hvx (L' :: fr.filterMap (·.frame)) h₁) := fun b o e => ⟨fl e, F₂.keep _ _ e.2⟩
  obtain ⟨hs, hf, hn⟩ := eq_facts w.params ta tb
  rw [hc] at hs hn
  have e78 : eqf ta = 78 := by simp [eqf, hta]
  refine (show wpAny _ _ (richCompare .Eq (.ref ta.addr) (.ref tb.addr)) _ _ _ from cmp_K ?_ F₂ X (instF I₁ F₂) (instF I₂ F₂).type hn hs hf ?_)
  · simp only [units_deeper]; omega
  refine wpAny_mono (eq_spec (ta.row.size + 1) ta tb (Nat.lt_succ_self _) _ base _ _ _ (amb_of B F₂ X T (Around.frames_deeper B.stack) rfl rfl rfl) XB TB (hva.mono mv) (hvb.mono mv) hz ?_ ?_) (fun y s₆ h₆ => ?_) fun _ _ e => e
  · simp only [depth_deeper]; omega
  · simp only [units_deeper]; omega
  · obtain ⟨⟨h₃, tk₃, rfl, q1, q2⟩, rfl⟩ := h₆
    obtain ⟨g₃, Tn, F₃, B₃⟩ := turned_ground B F₂ q1 q2
    show wpAny _ _ _ _ _ _
    have X₃ := XB.keeps B₃.stays
    have T₃ := TB.keeps B₃.stays
    k_steps
    all_goals (show EqPost _ _ _ _ _; exact eqPost_of Tn F₃ (by simp [*]))
end
end Mine
end
/-! part C1 -/
section
open PySem PySem.W PyProof.Rows PySem.Spec PySem.Calls
set_option maxRecDepth 100000
set_option maxHeartbeats 1000000
namespace Mine
theorem below3 {n k b : Nat} (hk : k = n + 1) (h : b < n) : b ≠ k + 1 ∧ b ≠ k ∧ b ≠ n := by omega
theorem ne3 {n k : Nat} (hk : k = n + 1) : n ≠ k ∧ n ≠ k + 1 ∧ k ≠ k + 1 ∧ n ≤ k ∧ n ≤ k + 1 := by omega
section
variable {prog : Program} {w : World} {A : Around} {E : Value → Shared → Prop} {s s₁ : Shared} {env : Env}

/-- the variable is a cell: own addresses are the locals and the cell -/
theorem comp1CL {elt iter : Expr} {x : Str} {px : Pos} {ifs : List Expr} {scope : Scope} {pos : Pos} {cl : List (Str × Addr)} {Q : Value → Shared → Prop}
    (hclos : closureFor scope env = pure cl) (hpc : ∀ h, pushCells h scope.names = h.push { cls := .type "cell", data := .cell none }) (hcf : ∀ n, cellsFrom n scope.names cl = (x, n) :: cl)
    (hkind : scope.kind = .function) (hnames : ∀ y ∈ scope.names, y.2 = .local → scope.names.lookup y.1 = some .local) (hx : ∀ c C, (compEnvK scope ((x, c) :: cl) C env).kindOf x = some .cell)
    (h : wpAny (model prog w) A (eval iter env) (fun xv s₁ => wpAny (model prog w) A (pyIter xv) (fun it s₂ =>
      ∃ I fp wr G n P St, it = .ref I ∧ WalksS prog w A I fp wr G n P St ∧ n ≤ sizeLine ∧ St 0 s₂ ∧ (∀ b ∈ fp, b < s₂.heap.objs.size) ∧ (∀ i s', St i s' → ∀ b ∈ wr, ∃ o, s'.heap.get? b = some o) ∧
      ∃ Inv : Nat → List Value → View → Prop, (∀ j ys G G', vle G G' → Inv j ys G → Inv j ys G') ∧ (∀ j ys G, Inv j ys G → ys.length ≤ j) ∧ Inv 0 [] (hvx wr s₂.heap) ∧
      (∀ C c D oc j v ys s₃ m₃ E', s₂.heap.objs.size ≤ C → s₂.heap.objs.size ≤ c → s₂.heap.objs.size ≤ D → C ≠ c → (∀ b ∈ D :: C :: c :: wr, ∃ o, s₃.heap.get? b = some o) → j < n → P j v → s₃.heap.Ns C m₃ → s₃.heap.get? c = some oc → oc.data = .cell (some v) → Moved wr G s₂ s₃ → Inv j ys (hvx (D :: C :: c :: wr) s₃.heap) →
        wpAny (model prog w) A (forIn ifs true fun e r => if r = true then do let ok ← isTrue e (compEnvK scope ((x, c) :: cl) C env) (eval e (compEnvK scope ((x, c) :: cl) C env)); pure (ForInStep.yield ok) else pure (ForInStep.yield r)) (fun ok s₅ =>
          if ok = true then wpAny (model prog w) A (eval elt (compEnvK scope ((x, c) :: cl) C env)) (fun y s₆ => Keeps s₃ s₆ ∧ Inv (j + 1) (ys ++ [y]) (hvx (D :: C :: c :: wr) s₆.heap)) E' s₅
          else Keeps s₃ s₅ ∧ Inv (j + 1) ys (hvx (D :: C :: c :: wr) s₅.heap)) E' s₃) ∧
      (∀ D C c s' ys, s₂.heap.objs.size ≤ D → s₂.heap.objs.size ≤ C → s₂.heap.objs.size ≤ c → s'.heap.PlainList D ys.toArray → Inv n ys (hvx (D :: C :: c :: wr) s'.heap) → Moved wr G s₂ s' → Q (.ref D) s')) E s₁) E s)
    (hs : ∀ x, foldedSetIterable iter env x = pure x := by intro _; rfl) :
    wpAny (model prog w) A (eval (.ListComp elt [⟨.Name x px, iter, ifs, 0⟩] scope pos) env) Q E s := by
  rw [eval_ListComp]
  refine wpAny_comprehension_free (use := none) rfl hs hclos hkind hnames (wpAny_mono h (fun xv s₁ h₁ => wpAny_mono h₁ (fun it s₂ h₂ => ?_) fun _ _ e => e) fun _ _ e => e)
  obtain ⟨I, fp, wr, G, n, P, St, rfl, W, hsz, hst, hfp, hlive, Inv, hmono, hlen, h0, turn, hfin⟩ := h₂
  refine wpAny_newObj_type ?_
  refine newEnv_comp ?_
  simp only [hpc, hcf, newEnv]
  generalize hH2 : s₂.heap.push { cls := .type "list", dict := none, data := .seq ([] : List Value).toArray } = H2
  generalize hH3 : (H2.push { cls := .type "dict", data := .dict #[] }).push { cls := .type "cell", data := .cell none } = H3
  have hC : H2.objs.size = s₂.heap.objs.size + 1 := by rw [← hH2, Heap.size_push]
  have hc2 : (H2.push { cls := .type "dict", data := .dict #[] }).objs.size = H2.objs.size + 1 := Heap.size_push ..
  obtain ⟨hDC, hDc, hCc, hleC, hlec⟩ := ne3 hC
  have below : ∀ b, b < s₂.heap.objs.size → b ≠ H2.objs.size + 1 ∧ b ≠ H2.objs.size ∧ b ≠ s₂.heap.objs.size := fun b hb => below3 hC hb
  have hDf : s₂.heap.objs.size ∉ fp := fun hm => Nat.lt_irrefl _ (hfp _ hm)
  have hCf : H2.objs.size ∉ fp := fun hm => (below3 hC (hfp _ hm)).2.1 rfl
  have hcf' : H2.objs.size + 1 ∉ fp := fun hm => (below3 hC (hfp _ hm)).1 rfl
  have old : ∀ b o, s₂.heap.get? b = some o → H3.get? b = some o := fun b o e => hH3 ▸ Heap.get?_push_of_some _ (Heap.get?_push_of_some _ (hH2 ▸ Heap.get?_push_of_some _ e))
  have hacc : H3.PlainList s₂.heap.objs.size (#[] : Array Value) := ⟨_, hH3 ▸ Heap.get?_push_of_some _ (Heap.get?_push_of_some _ (hH2 ▸ Heap.get?_push_size _ rfl))⟩
  have hwf : ∀ b ∈ wr, b < s₂.heap.objs.size := fun b hb => hfp b (W.sub b hb)
  have hst' : St 0 { s₂ with heap := H3 } := W.frame 0 s₂ _ _ hst (Nat.le_refl _) fun b _ o e => old b o e
  have hns : H3.Ns H2.objs.size (fun _ => none) := hH3 ▸ (Heap.Ns.new ..).at' fun o e => Heap.get?_push_of_some _ e
  have hcc : H3.IsCell (H2.objs.size + 1) none := ⟨_, by rw [← hH3, ← hc2]; exact Heap.get?_push_size _ rfl, rfl⟩
  have loop : codeAny (model prog w) A (.compLoop (.ListComp elt [⟨.Name x px, iter, ifs, 0⟩] scope pos) 0 (.ref I) (.ref s₂.heap.objs.size) (compEnvK scope ((x, H2.objs.size + 1) :: cl) H2.objs.size env))
      (compPost (model prog w) A E none Q (.ref s₂.heap.objs.size) H2.objs.size) { s₂ with heap := H3 } := by
    refine loop1 (own := [H2.objs.size, H2.objs.size + 1]) (Ok := fun h => (∃ m, h.Ns H2.objs.size m) ∧ ∃ v, h.IsCell (H2.objs.size + 1) v) (cenv := compEnvK scope ((x, H2.objs.size + 1) :: cl) H2.objs.size env) W Inv hmono hlen
      (fun h h' ⟨⟨m, hm⟩, ⟨v, o, ho, hd⟩⟩ hk => ⟨⟨m, hm.at' fun o e => hk _ (List.mem_cons_self ..) o e⟩, ⟨v, o, hk _ (.tail _ (.head _)) o ho, hd⟩⟩) (by simp only [List.mem_cons, List.not_mem_nil, or_false, not_or]; exact ⟨hDC, hDc⟩) hDf ?_ hst' hacc ⟨⟨_, hns⟩, ⟨_, hcc⟩⟩ ?_ ?_ ?_ (fun _ => rfl) hsz
    · intro b hb
      simp only [List.mem_cons, List.not_mem_nil, or_false] at hb
      rcases hb with rfl | rfl <;> assumption
    · refine hmono _ _ _ _ (fun a o e => ⟨fun hm => ?_, old a o e.2⟩) h0
      have hlt := below a (Heap.lt_size e.2)
      simp only [List.cons_append, List.nil_append, List.mem_cons] at hm
      rcases hm with rfl | rfl | rfl | hm
      · exact hlt.2.2 rfl
      · exact hlt.2.1 rfl
      · exact hlt.1 rfl
      · exact e.1 hm
    · intro j v ys s₃ hj hPv hSt ⟨⟨m₃, hm₃⟩, ⟨v₃, hv₃⟩⟩ ⟨nD, hD⟩ hM hI
      refine wpAny_assign_Name (wpAny_storeName_cell (c := H2.objs.size + 1) (v₀ := v₃) (by simp [compEnvK, relabel, hkind]) (hx _ _) (by simp [compEnvK]) hv₃ (fun h₄ hc₄ hs₄ => ?_))
      obtain ⟨oc, hoc, hdc⟩ := hc₄
      have hns₄ : h₄.Ns H2.objs.size m₃ := hm₃.sameBut hs₄ hCc
      have hM' : Moved wr G s₂ { s₃ with heap := h₄ } := by
        refine ⟨fun b o hb e => ?_, hM.gens, hM.drawn, hM.os, hM.toks⟩
        have hb' := below b (Heap.lt_size e)
        exact hs₄.extBut b o hb'.1 (hM.heap b o (fun hm => by
          simp only [List.cons_append, List.nil_append, List.mem_cons] at hm
          rcases hm with rfl | rfl | rfl | hm
          · exact hb'.2.2 rfl
          · exact hb'.2.1 rfl
          · exact hb'.1 rfl
          · exact hb hm) (old b o e))
      have hI' : Inv j ys (hvx (s₂.heap.objs.size :: H2.objs.size :: (H2.objs.size + 1) :: wr) h₄) := hmono _ _ _ _ (fun a o e => ⟨e.1, hs₄.extBut a o (fun hh => e.1 (by subst hh; simp)) e.2⟩) hI
      have hlv : ∀ b ∈ s₂.heap.objs.size :: H2.objs.size :: (H2.objs.size + 1) :: wr, ∃ o, h₄.get? b = some o := by
        intro b hb
        simp only [List.mem_cons] at hb
        rcases hb with rfl | rfl | rfl | hb
        · exact ⟨_, hs₄.extBut _ _ hDc hD⟩
        · obtain ⟨oC, _, _, hoC, _⟩ := hns₄; exact ⟨_, hoC⟩
        · exact ⟨_, hoc⟩
        · obtain ⟨o, ho⟩ := hlive _ _ hSt b hb
          exact ⟨o, hs₄.extBut b o (fun e => (below3 hC (hwf b hb)).1 e) ho⟩
      have keep : ∀ s₆, Keeps { s₃ with heap := h₄ } s₆ → s₃.toks ≤ s₆.toks → TurnEnd [H2.objs.size, H2.objs.size + 1] (fun h => (∃ m, h.Ns H2.objs.size m) ∧ ∃ v, h.IsCell (H2.objs.size + 1) v) s₃ s₆ := by
        rintro s₆ ⟨h', tk, rfl, hk⟩ ht
        exact ⟨⟨h', tk, rfl, ht⟩, fun b o hb e => hk b o (hs₄.extBut b o (fun hh => hb (by rw [hh]; simp)) e), ⟨_, hns₄.at' fun o e => hk _ o e⟩, ⟨_, oc, hk _ _ hoc, hdc⟩⟩
      refine wpAny_mono (wpAny_toks (turn H2.objs.size (H2.objs.size + 1) s₂.heap.objs.size oc j v ys { s₃ with heap := h₄ } _ _ hleC hlec (Nat.le_refl _) hCc hlv hj hPv hns₄ hoc hdc hM' hI')) (fun ok s₅ h₅ => ?_) fun _ _ e => e.2
      cases ok with
      | false => simp only [Bool.false_eq_true, if_false] at h₅ ⊢; exact ⟨keep s₅ h₅.2.1 h₅.1, h₅.2.2⟩
      | true =>
        simp only [if_true] at h₅ ⊢
        exact wpAny_mono (wpAny_toks_of h₅.1 h₅.2) (fun y s₆ h₆ => ⟨keep s₆ h₆.2.1 h₆.1, h₆.2.2⟩) fun _ _ e => e.2
    · intro s' ys ⟨⟨m', hm'⟩, _⟩ hl hI hM
      refine ⟨m', hm', fun h'' hs'' => ?_⟩
      refine hfin s₂.heap.objs.size H2.objs.size (H2.objs.size + 1) { s' with heap := h'' } ys (Nat.le_refl _) hleC hlec (hl.extBut hs''.extBut hDC) ?_ ?_
      · exact hmono _ _ _ _ (fun a o e => ⟨e.1, hs''.extBut a o (fun hh => e.1 (by subst hh; simp)) e.2⟩) hI
      · refine ⟨fun b o hb e => ?_, hM.gens, hM.drawn, hM.os, hM.toks⟩
        have hb' := below b (Heap.lt_size e)
        exact hs''.extBut b o hb'.2.1 (hM.heap b o (fun hm => by
          simp only [List.cons_append, List.nil_append, List.mem_cons] at hm
          rcases hm with rfl | rfl | rfl | hm
          · exact hb'.2.2 rfl
          · exact hb'.2.1 rfl
          · exact hb'.1 rfl
          · exact hb hm) (old b o e))
  exact codeAny_compStart_list loop (W.self 0 _ _ _ hst' loop)

structure CompInC (prog : Program) (w : World) (A : Around) (s : Shared) (env : Env) (scope : Scope) (cl : List (Str × Addr)) (x : Str) (ifs : List Expr) (elt : Expr) (Q : Value → Shared → Prop) (xv : Value) (s₁ : Shared) : Prop where
  out : Keeps s s₁ ∧ s.heap.objs.size ≤ s₁.heap.objs.size ∧ ∃ n P, SrcAt prog w A s s₁ xv n P ∧ n ≤ sizeLine ∧
      ∃ Inv : Nat → List Value → View → Prop, (∀ j ys G G', vle G G' → Inv j ys G → Inv j ys G') ∧ (∀ j ys G, Inv j ys G → ys.length ≤ j) ∧ Inv 0 [] (hv s.heap) ∧
      (∀ C c X oc j v ys s₃ oC m₃ E', s.heap.objs.size ≤ C → s.heap.objs.size ≤ c → C ≠ c → (∀ b ∈ X, ∃ o, s₃.heap.get? b = some o) → (∀ b ∈ X, s.heap.objs.size ≤ b) → j < n → P j v → s₃.heap.get? C = some oC → (∀ h : Heap, h.get? C = some oC → h.Ns C m₃) → s₃.heap.get? c = some oc → oc.data = .cell (some v) → Keeps s s₃ → Inv j ys (hvx X s₃.heap) →
        wpAny (model prog w) A (forIn ifs true fun e r => if r = true then do let ok ← isTrue e (compEnvK scope ((x, c) :: cl) C env) (eval e (compEnvK scope ((x, c) :: cl) C env)); pure (ForInStep.yield ok) else pure (ForInStep.yield r)) (fun ok s₅ =>
          if ok = true then wpAny (model prog w) A (eval elt (compEnvK scope ((x, c) :: cl) C env)) (fun y s₆ => Keeps s₃ s₆ ∧ Inv (j + 1) (ys ++ [y]) (hvx X s₆.heap)) E' s₅
          else Keeps s₃ s₅ ∧ Inv (j + 1) ys (hvx X s₅.heap)) E' s₃) ∧
      (∀ D X s' ys, s.heap.objs.size ≤ D → (∀ b ∈ X, s.heap.objs.size ≤ b) → s'.heap.PlainList D ys.toArray → Inv n ys (hvx X s'.heap) → Keeps s s' → Q (.ref D) s')

theorem compInC_src {scope : Scope} {cl : List (Str × Addr)} {x : Str} {ifs : List Expr} {elt : Expr} {Q : Value → Shared → Prop} {xv : Value} {items : List Value}
    (hk : Keeps s s₁) (hsz : s.heap.objs.size ≤ s₁.heap.objs.size) (src : SrcAt prog w A s s₁ xv items.length fun i v => items[i]? = some v) (hn : items.length ≤ sizeLine)
    (Inv : Nat → List Value → View → Prop) (hmono : ∀ j ys G G', vle G G' → Inv j ys G → Inv j ys G') (hlen : ∀ j ys G, Inv j ys G → ys.length ≤ j) (h0 : Inv 0 [] (hv s.heap))
    (turn : ∀ C c X oc j v ys s₃ oC m₃ E', s.heap.objs.size ≤ C → s.heap.objs.size ≤ c → C ≠ c → (∀ b ∈ X, ∃ o, s₃.heap.get? b = some o) → (∀ b ∈ X, s.heap.objs.size ≤ b) → items[j]? = some v → s₃.heap.get? C = some oC → (∀ h : Heap, h.get? C = some oC → h.Ns C m₃) → s₃.heap.get? c = some oc → oc.data = .cell (some v) → Keeps s s₃ → Inv j ys (hvx X s₃.heap) →
        wpAny (model prog w) A (forIn ifs true fun e r => if r = true then do let ok ← isTrue e (compEnvK scope ((x, c) :: cl) C env) (eval e (compEnvK scope ((x, c) :: cl) C env)); pure (ForInStep.yield ok) else pure (ForInStep.yield r)) (fun ok s₅ =>
          if ok = true then wpAny (model prog w) A (eval elt (compEnvK scope ((x, c) :: cl) C env)) (fun y s₆ => Keeps s₃ s₆ ∧ Inv (j + 1) (ys ++ [y]) (hvx X s₆.heap)) E' s₅
          else Keeps s₃ s₅ ∧ Inv (j + 1) ys (hvx X s₅.heap)) E' s₃)
    (fin : ∀ D X s' ys, s.heap.objs.size ≤ D → (∀ b ∈ X, s.heap.objs.size ≤ b) → s'.heap.PlainList D ys.toArray → Inv items.length ys (hvx X s'.heap) → Keeps s s' → Q (.ref D) s') :
    CompInC prog w A s env scope cl x ifs elt Q xv s₁ :=
  ⟨hk, hsz, items.length, fun i v => items[i]? = some v, src, hn, Inv, hmono, hlen, h0, fun C c X oc j v ys s₃ oC m₃ E' a1 a2 a3 a4 a5 _ a6 => turn C c X oc j v ys s₃ oC m₃ E' a1 a2 a3 a4 a5 a6, fin⟩

/-- the same for a comprehension with a plain variable -/
theorem compIn_src {scope : Scope} {cl : List (Str × Addr)} {x : Str} {ifs : List Expr} {elt : Expr} {Q : Value → Shared → Prop} {xv : Value} {items : List Value}
    (hk : Keeps s s₁) (hsz : s.heap.objs.size ≤ s₁.heap.objs.size) (src : SrcAt prog w A s s₁ xv items.length fun i v => items[i]? = some v) (hn : items.length ≤ sizeLine)
    (Inv : Nat → List Value → View → Prop) (hmono : ∀ j ys G G', vle G G' → Inv j ys G → Inv j ys G') (hlen : ∀ j ys G, Inv j ys G → ys.length ≤ j) (h0 : Inv 0 [] (hv s.heap))
    (turn : ∀ C X j v ys s₃ oC m₃ E', s.heap.objs.size ≤ C → (∀ b ∈ X, ∃ o, s₃.heap.get? b = some o) → (∀ b ∈ X, s.heap.objs.size ≤ b) → items[j]? = some v → s₃.heap.get? C = some oC → (∀ h : Heap, h.get? C = some oC → h.Ns C m₃) → m₃ x = some v → Keeps s s₃ → Inv j ys (hvx X s₃.heap) →
        wpAny (model prog w) A (forIn ifs true fun c r => if r = true then do let ok ← isTrue c (compEnvK scope cl C env) (eval c (compEnvK scope cl C env)); pure (ForInStep.yield ok) else pure (ForInStep.yield r)) (fun ok s₅ =>
          if ok = true then wpAny (model prog w) A (eval elt (compEnvK scope cl C env)) (fun y s₆ => Keeps s₃ s₆ ∧ Inv (j + 1) (ys ++ [y]) (hvx X s₆.heap)) E' s₅
          else Keeps s₃ s₅ ∧ Inv (j + 1) ys (hvx X s₅.heap)) E' s₃)
    (fin : ∀ D X s' ys, s.heap.objs.size ≤ D → (∀ b ∈ X, s.heap.objs.size ≤ b) → s'.heap.PlainList D ys.toArray → Inv items.length ys (hvx X s'.heap) → Keeps s s' → Q (.ref D) s') :
    CompIn prog w A s env scope cl x ifs elt Q xv s₁ :=
  ⟨hk, hsz, items.length, fun i v => items[i]? = some v, src, hn, Inv, hmono, hlen, h0, fun C X j v ys s₃ oC m₃ E' a1 a2 a3 _ a4 => turn C X j v ys s₃ oC m₃ E' a1 a2 a3 a4, fin⟩

theorem comp1C {elt iter : Expr} {x : Str} {px : Pos} {ifs : List Expr} {scope : Scope} {pos : Pos} {cl : List (Str × Addr)} {Q : Value → Shared → Prop}
    (hclos : closureFor scope env = pure cl) (hpc : ∀ h, pushCells h scope.names = h.push { cls := .type "cell", data := .cell none }) (hcf : ∀ n, cellsFrom n scope.names cl = (x, n) :: cl)
    (hkind : scope.kind = .function) (hnames : ∀ y ∈ scope.names, y.2 = .local → scope.names.lookup y.1 = some .local) (hx : ∀ c C, (compEnvK scope ((x, c) :: cl) C env).kindOf x = some .cell)
    (h : wpAny (model prog w) A (eval iter env) (CompInC prog w A s env scope cl x ifs elt Q) E s)
    (hs : ∀ x, foldedSetIterable iter env x = pure x := by intro _; rfl) :
    wpAny (model prog w) A (eval (.ListComp elt [⟨.Name x px, iter, ifs, 0⟩] scope pos) env) Q E s := by
  refine comp1CL hclos hpc hcf hkind hnames hx (wpAny_mono h (fun xv s₁ h₁ => ?_) fun _ _ e => e) hs
  obtain ⟨hk₁, hsz₁, n, P, src, hn, Inv, hmono, hlen, h0, turn, hfin⟩ := h₁.out
  refine src _ _ fun I s₂ fp St hk₂ hI W hfp hlive hst => ?_
  have hk := keeps_trans hk₁ hk₂
  have hIlt : ∀ b ∈ [I], b < s₂.heap.objs.size := fun b hb => hfp b (W.sub b hb)
  have old2 : ∀ b, b < s.heap.objs.size → b ∉ [I] := fun b hb h => by obtain rfl := List.mem_singleton.mp h; exact absurd hb (Nat.not_lt.mpr hI)
  have hs2 : s.heap.objs.size ≤ s₂.heap.objs.size := Nat.le_trans hI (Nat.le_of_lt (hIlt I (List.mem_singleton.mpr rfl)))
  have mkK : ∀ s₃, Moved [I] (fun a b => b = a) s₂ s₃ → Keeps s s₃ := by
    intro s₃ hM
    obtain ⟨h', tk, rfl, kk⟩ := hk
    refine ⟨s₃.heap, s₃.toks, ?_, fun b o e => hM.heap b o (old2 b (Heap.lt_size e)) (kk b o e)⟩
    obtain ⟨a1, a2, a3, a4, a5⟩ := s₃
    have e1 := hM.gens; have e2 := hM.drawn; have e3 := hM.os
    dsimp only at e1 e2 e3
    subst e1; subst e2; subst e3; rfl
  refine ⟨I, fp, [I], _, n, P, St, rfl, W, hn, hst, hfp, (fun i s' st b hb => by obtain rfl := List.mem_singleton.mp hb; exact hlive i s' st), Inv, hmono, hlen, hmono _ _ _ _ (fun a o e => ⟨old2 a (Heap.lt_size e), kold hk a o e⟩) h0, ?_, ?_⟩
  · intro C c D oc j v ys s₃ m₃ E' hC hc hD2 hCc hDlt hj hPv hns hoc hdc hM hI'
    obtain ⟨oC, es, ep, hoC, r⟩ := id hns
    refine turn C c (D :: C :: c :: [I]) oc j v ys s₃ oC m₃ E' (Nat.le_trans hs2 hC) (Nat.le_trans hs2 hc) hCc hDlt ?_ hj hPv hoC (fun h e => ⟨oC, es, ep, e, r⟩) hoc hdc (mkK s₃ hM) hI'
    intro b hb
    simp only [List.mem_cons, List.not_mem_nil, or_false] at hb
    rcases hb with rfl | rfl | rfl | rfl
    · exact Nat.le_trans hs2 hD2
    · exact Nat.le_trans hs2 hC
    · exact Nat.le_trans hs2 hc
    · exact hI
  · intro D C c s' ys hD hC hc hl hi hM
    refine hfin D (D :: C :: c :: [I]) s' ys (Nat.le_trans hs2 hD) ?_ hl hi (mkK s' hM)
    intro b hb
    simp only [List.mem_cons, List.not_mem_nil, or_false] at hb
    rcases hb with rfl | rfl | rfl | rfl
    · exact Nat.le_trans hs2 hD
    · exact Nat.le_trans hs2 hC
    · exact Nat.le_trans hs2 hc
    · exact hI
end
end Mine
end
/-! part B1 -/
section
open PySem PySem.W PyProof.Rows PySem.Spec PySem.Calls
set_option maxRecDepth 100000
set_option maxHeartbeats 1000000
namespace Mine
/-! ## the queue of iter_subtrees, in plain lists -/
def N.kids : N → List N
  | .tok _ _ _ _ => []
  | .tree _ _ _ _ ks => ks
theorem mem_objss {n : N} : ∀ {ks : List N}, n ∈ N.objss ks ↔ ∃ c ∈ ks, n ∈ c.objs
  | [] => by simp [N.objss]
  | k :: ks => by simp [N.objss, mem_objss (ks := ks)]
theorem objs_tree {n m : N} (h : n ∈ m.objs) : n.isTree = true := by
  induction hs : m.row.size using Nat.strongRecOn generalizing m n with
  | _ k ih =>
    cases m with
    | tok => simp [N.objs] at h
    | tree a da l nm ks =>
      simp only [N.objs, List.mem_cons] at h
      rcases h with rfl | h
      · rfl
      · obtain ⟨c, hc, hn⟩ := mem_objss.mp h
        have : c.row.size < k := by
          have hm : c.row ∈ N.rows ks := by rw [rows_eq]; exact List.mem_map_of_mem hc
          have := size_mem hm
          simp only [N.row, Row.size] at hs; omega
        exact ih _ this hn rfl
theorem objs_self {n : N} (h : n.isTree = true) : n ∈ n.objs := by
  cases n with
  | tok => cases h
  | tree => simp [N.objs]
theorem kid_size {n c : N} (h : c ∈ n.kids) : c.row.size < n.row.size := by
  cases n with
  | tok => simp [N.kids] at h
  | tree a da l nm ks =>
    have hm : c.row ∈ N.rows ks := by rw [rows_eq]; exact List.mem_map_of_mem h
    have := size_mem hm
    simp only [N.row, Row.size]; omega
theorem mem_objs_iff {n m : N} : n ∈ m.objs ↔ (n = m ∧ m.isTree = true) ∨ ∃ c ∈ m.kids, n ∈ c.objs := by
  cases m with
  | tok => simp [N.objs, N.kids, N.isTree]
  | tree a da l nm ks => simp [N.objs, N.kids, N.isTree, mem_objss]
theorem objs_trans {n m k : N} (h : n ∈ m.objs) (h' : k ∈ n.objs) : k ∈ m.objs := by
  induction hs : m.row.size using Nat.strongRecOn generalizing m n with
  | _ z ih =>
    rcases mem_objs_iff.mp h with ⟨rfl, _⟩ | ⟨c, hc, hn⟩
    · exact h'
    · exact mem_objs_iff.mpr (.inr ⟨c, hc, ih _ (by have := kid_size hc; omega) hn h' rfl⟩)
theorem TV.of_objs {G : View} {n m : N} (t : TV G m) (h : n ∈ m.objs) : TV G n := by
  induction hs : m.row.size using Nat.strongRecOn generalizing m n with
  | _ z ih =>
    rcases mem_objs_iff.mp h with ⟨rfl, _⟩ | ⟨c, hc, hn⟩
    · exact t
    · have : TV G c := by
        cases t with
        | tok => simp [N.kids] at hc
        | tree _ _ _ _ hk => exact hk.get hc
      exact ih _ (by have := kid_size hc; omega) this hn rfl
theorem objs_length {n : N} (h : n.isTree = true) : n.objs.length = 1 + (n.kids.map (·.objs.length)).sum := by
  cases n with
  | tok => cases h
  | tree a da l nm ks =>
    have : ∀ ks : List N, (N.objss ks).length = (ks.map (·.objs.length)).sum := by
      intro ks; induction ks with
      | nil => rfl
      | cons k ks ih => simp [N.objss, ih]
    simp only [N.objs, N.kids, List.length_cons, this]; omega

def meas (Qs : List N) (i : Nat) : Nat := ((Qs.drop i).map (·.objs.length)).sum
structure Bfs (T : N) (Qs D : List N) (i : Nat) : Prop where
  hd : T ∈ Qs
  sub : ∀ q ∈ Qs, q ∈ T.objs
  le : i ≤ Qs.length
  dset : ∀ n, n ∈ D ↔ n ∈ Qs.take i
  nodup : (D.map N.addr).Nodup
  clos : ∀ n ∈ Qs.take i, ∀ c ∈ n.kids, c.isTree = true → c ∈ Qs
  bound : i + meas Qs i ≤ T.objs.length
  dl : D.length ≤ i

theorem sum_filter_le (f : N → Nat) (p : N → Bool) (l : List N) : ((l.filter p).map f).sum ≤ (l.map f).sum := by
  induction l with
  | nil => simp
  | cons x xs ih => by_cases h : p x <;> simp [h] <;> omega
theorem sum_rev (f : N → Nat) (l : List N) : (l.reverse.map f).sum = (l.map f).sum := by
  induction l with
  | nil => rfl
  | cons x xs ih => simp [ih]; omega

theorem Bfs.start {T : N} (h : T.isTree = true) : Bfs T [T] [] 0 where
  hd := by simp
  sub := fun q hq => by rw [List.mem_singleton.mp hq]; exact objs_self h
  le := by simp
  dset := by simp
  nodup := by simp
  clos := by simp
  bound := by simp [meas]
  dl := by simp

def inD (D : List N) (c : N) : Bool := D.any fun d => d.addr == c.addr
def addD (D : List N) (q : N) : List N := if inD D q then D else D ++ [q]
def newQ (D : List N) (q : N) : List N := q.kids.reverse.filter fun c => c.isTree && !inD D c

theorem inD_false {D : List N} {q : N} (h : inD D q = false) : q.addr ∉ D.map N.addr := by
  intro hm
  obtain ⟨d, hd, e⟩ := List.mem_map.mp hm
  have : inD D q = true := List.any_eq_true.mpr ⟨d, hd, by simp [e]⟩
  rw [h] at this; cases this

theorem meas_split {Qs : List N} {i : Nat} {q : N} (h : Qs[i]? = some q) : meas Qs i = q.objs.length + meas Qs (i + 1) := by
  obtain ⟨hlt, e⟩ := List.getElem?_eq_some_iff.mp h
  unfold meas
  rw [List.drop_eq_getElem_cons hlt, e]; simp

theorem Bfs.step {T q : N} {Qs D : List N} {i : Nat} (B : Bfs T Qs D i) (hu : ∀ a b : N, a ∈ T.objs → b ∈ T.objs → a.addr = b.addr → a = b) (hq : Qs[i]? = some q) :
    Bfs T (Qs ++ newQ (addD D q) q) (addD D q) (i + 1) ∧ meas (Qs ++ newQ (addD D q) q) (i + 1) < meas Qs i := by
  obtain ⟨hlt, e⟩ := List.getElem?_eq_some_iff.mp hq
  have hqQ : q ∈ Qs := List.mem_of_getElem? hq
  have hqT := B.sub q hqQ
  have hqt := objs_tree hqT
  have hnew : ∀ c ∈ newQ (addD D q) q, c ∈ q.kids ∧ c.isTree = true := fun c hc => by
    have := List.mem_filter.mp hc
    simp only [Bool.and_eq_true] at this
    exact ⟨List.mem_reverse.mp this.1, this.2.1⟩
  have hm : meas (Qs ++ newQ (addD D q) q) (i + 1) < meas Qs i := by
    have h1 : meas (Qs ++ newQ (addD D q) q) (i + 1) = meas Qs (i + 1) + ((newQ (addD D q) q).map (·.objs.length)).sum := by
      unfold meas; rw [List.drop_append_of_le_length (by omega)]; simp
    have h2 : ((newQ (addD D q) q).map (·.objs.length)).sum ≤ (q.kids.map (·.objs.length)).sum := by
      unfold newQ; exact Nat.le_trans (sum_filter_le _ _ _) (by rw [sum_rev]; exact Nat.le_refl _)
    have h3 := objs_length hqt
    have h4 := meas_split hq
    omega
  have htake : (Qs ++ newQ (addD D q) q).take (i + 1) = Qs.take i ++ [q] := by
    rw [List.take_append_of_le_length (by omega), take_succ_get hq]
  have hsubD : ∀ n ∈ D, n ∈ T.objs := fun n hn => B.sub n (List.mem_of_mem_take ((B.dset n).mp hn))
  have dset' : ∀ n, n ∈ addD D q ↔ n ∈ Qs.take i ++ [q] := by
    intro n
    unfold addD
    by_cases h : inD D q = true
    · rw [if_pos h, B.dset, List.mem_append, List.mem_singleton]
      constructor
      · exact .inl
      · rintro (h' | rfl)
        · exact h'
        · obtain ⟨d, hd, e'⟩ := List.any_eq_true.mp h
          have := hu d n (hsubD d hd) hqT (by simpa using e')
          subst this
          exact (B.dset d).mp hd
    · rw [if_neg h, List.mem_append, List.mem_append, B.dset]
  refine ⟨⟨List.mem_append_left _ B.hd, ?_, ?_, ?_, ?_, ?_, ?_, ?_⟩, hm⟩
  · intro c hc
    rcases List.mem_append.mp hc with hc | hc
    · exact B.sub c hc
    · exact objs_trans hqT (mem_objs_iff.mpr (.inr ⟨c, (hnew c hc).1, objs_self (hnew c hc).2⟩))
  · rw [List.length_append]; omega
  · intro n; rw [htake]; exact dset' n
  · unfold addD
    by_cases h : inD D q = true
    · rw [if_pos h]; exact B.nodup
    · rw [if_neg h, List.map_append, List.nodup_append]
      refine ⟨B.nodup, by simp, fun x hx y hy => ?_⟩
      simp only [List.map_cons, List.map_nil, List.mem_singleton] at hy
      subst hy
      intro e'
      exact inD_false (by simpa using h) (e' ▸ hx)
  · rw [htake]
    intro n hn c hc hct
    rcases List.mem_append.mp hn with hn | hn
    · exact List.mem_append_left _ (B.clos n hn c hc hct)
    · obtain rfl := List.mem_singleton.mp hn
      by_cases h : inD (addD D n) c = true
      · obtain ⟨d, hd, e'⟩ := List.any_eq_true.mp h
        have hd' := (dset' d).mp hd
        have hdQ : d ∈ Qs := (List.mem_append.mp hd').elim List.mem_of_mem_take (fun h => by rw [List.mem_singleton.mp h]; exact hqQ)
        have hcT : c ∈ T.objs := objs_trans hqT (mem_objs_iff.mpr (.inr ⟨c, hc, objs_self hct⟩))
        have := hu d c (B.sub d hdQ) hcT (by simpa using e')
        subst this
        exact List.mem_append_left _ hdQ
      · exact List.mem_append_right _ (List.mem_filter.mpr ⟨List.mem_reverse.mpr hc, by simp [hct, h]⟩)
  · have := B.bound; omega
  · have := B.dl; unfold addD; split <;> simp <;> omega

theorem Bfs.finish {T : N} {Qs D : List N} (B : Bfs T Qs D Qs.length) : ∀ n, n ∈ D ↔ n ∈ T.objs := by
  intro n
  rw [B.dset, List.take_length]
  refine ⟨B.sub n, fun h => ?_⟩
  have key : ∀ k (m : N), m.row.size ≤ k → m ∈ Qs → ∀ x ∈ m.objs, x ∈ Qs := by
    intro k
    induction k with
    | zero =>
      intro m hm _ x hx
      cases m <;> simp [N.row, Row.size] at hm
    | succ k ih =>
      intro m hm hmQ x hx
      rcases mem_objs_iff.mp hx with ⟨rfl, _⟩ | ⟨c, hc, hx⟩
      · exact hmQ
      · have hct : c.isTree = true := by
          cases c with
          | tok => simp [N.objs] at hx
          | tree => rfl
        exact ih c (by have := kid_size hc; omega) (B.clos m (by rw [List.take_length]; exact hmQ) c hc hct) x hx
  exact key _ T (Nat.le_refl _) B.hd n h
theorem Bfs.len {T : N} {Qs D : List N} {i : Nat} (B : Bfs T Qs D i) : Qs.length ≤ T.objs.length := by
  have h1 : ∀ l : List N, (∀ q ∈ l, q ∈ T.objs) → l.length ≤ (l.map (·.objs.length)).sum := by
    intro l; induction l with
    | nil => simp
    | cons x xs ih =>
      intro h
      have := ih fun q hq => h q (.tail _ hq)
      have hx := objs_length (objs_tree (h x (.head _)))
      simp only [List.length_cons, List.map_cons, List.sum_cons]; omega
  have h2 := h1 (Qs.drop i) fun q hq => B.sub q (List.mem_of_mem_drop hq)
  have := B.bound; have := B.le
  unfold meas at *
  rw [List.length_drop] at h2
  omega
theorem Bfs.dlen {T : N} {Qs D : List N} {i : Nat} (B : Bfs T Qs D i) : D.length ≤ T.objs.length := by
  have := B.dl; have := B.le; have := B.len; omega
end Mine
end
/-! part B2 -/
section
open PySem PySem.W PyProof.Rows PySem.Spec PySem.Calls
set_option maxRecDepth 100000
set_option maxHeartbeats 1000000
namespace Mine
theorem enterC {w : World} {p : Program} {loose : List Str} {mean : ExcName → Option Value} {mg mb : Str → Option Value} {A : Around} {base : Heap} {fr : List Env} {prog : Program} {s : Shared}
    {R : Result → Shared → Prop} {name qual : Str} {params : Arguments} {body : List Stmt} {scope : Scope} {dV kV doc pm cdv ct oc : Value} {an od : Option Addr} {osl : Array (Option Value)} {f : Addr} {args : Args} {binds : List (Str × Value)}
    (H : Amb w p loose mean mg mb A base fr s.heap)
    (ho : (hd.heap_39 w.params).lookup f = some ⟨oc, od, .func (fnOf name qual params body scope dV kV doc pm an cdv ct), osl⟩) (hcd : codeIn (hd.heap_39 w.params) cdv qual = true) (hroom : A.depth < recursionLimit)
    (hbind : BindsTo s (fnOf name qual params body scope dV kV doc pm an cdv ct) args binds)
    (hkind : ∀ n, ∀ x ∈ binds, scope.names.lookup x.1 = some .local ∨ (scope.names.lookup x.1 = some .cell ∧ ((cellsFrom n scope.names []).lookup x.1).isSome = true))
    (hnd : ((cellsFrom 0 scope.names []).map (·.1)).Nodup)
    (h : ∀ L' h₁ tk cells, Fr s.heap L' h₁ (bindL (envOfC qual scope L' f cdv).kindOf binds fun _ => none) → News s.heap L' h₁ cells → CellsAre (bindC (envOfC qual scope L' f cdv).kindOf binds fun _ => none) (cellsFrom (L' + 1) scope.names []) cells →
      wpAny (model prog w) (A.deeper (envOfC qual scope L' f cdv)) (execs body (envOfC qual scope L' f cdv))
        (fun fl s' => R (.ok (.ret (match fl with | .ret v => v | _ => .none))) s')
        (fun e s' => wpAny (model prog w) (A.deeper (envOfC qual scope L' f cdv)) (leaving (envOfC qual scope L' f cdv) e) (fun _ s'' => R (.error e) s'') (fun e' s'' => R (.error e') s'') s')
        { s with heap := h₁, toks := tk })
    (hco : scope.isCoroutine = false) (hgen : scope.isGenerator = false) (hk : scope.kind = .function) : codeAny (model prog w) A (.call (.ref f) args) R s := by
  refine codeAny_call_function hroom (H.X _ _ ho) rfl hco hgen rfl (codeRec_of H.X hcd) (hbind _ _ _ _ ?_)
  refine wpAny_newFunctionEnv_cells hk (hkind _) fun env' he s' x => ?_
  subst he
  refine ⟨H.T.nolimit.keeps x.toInCall.keep, codeAny_func ?_⟩
  obtain ⟨h₁, tk, rfl, _⟩ := x.done
  obtain ⟨cells, NC, Y⟩ := Cl.news (h₀ := s.heap) (Nat.le_refl _) fun n c hm => ⟨x.cell n c (lookup_of_mem_nodup (cellsFrom_names scope.names 0 (s.heap.objs.size + 1) [] [] rfl ▸ hnd) hm), x.above n c hm⟩
  exact h _ h₁ tk cells ⟨x.toInCall.ns, x.toInCall.keep, Nat.le_refl _⟩ NC Y

theorem is_refs {M : Model} {A : Around} {E : Value → Shared → Prop} {s : Shared} {x y : Addr} {ox oy : Obj} {Q : Value → Shared → Prop} (hx : s.heap.get? x = some ox) (hy : s.heap.get? y = some oy) (hnt : ox.cls ≠ .type "tuple")
    (h : Q (.bool (x == y)) s) : wpAny M A (compareOp .Is (.ref x) (.ref y)) Q E s := by
  by_cases e : x = y
  · subst e; exact wpAny_is_ref_self (by simpa using h)
  · exact wpAny_is_ref_other e hx hy hnt (by rwa [show (x == y) = false from by simpa using e] at h)
theorem in_test (D : List N) (aq : Addr) : (List.map N.val (D.filter fun d => d.addr == aq)).toArray.isEmpty = !(D.any fun d => d.addr == aq) := by
  induction D with
  | nil => rfl
  | cons d D ih => by_cases h : d.addr = aq <;> simp_all
theorem TV.inv {h : Heap} {a da l : Addr} {nm : Str} {kids : List N} (t : TV (hv h) (.tree a da l nm kids)) : ∃ h1 h2 h3 k1 k2 k3 t1 its ep, h.get? a = some (instObj 149 da) ∧
    h.get? da = some (dictOf [⟨h1, .str "data" k1, .str nm t1⟩, ⟨h2, .str "children" k2, .ref l⟩, ⟨h3, .str "_meta" k3, .none⟩] 3) ∧ h.get? l = some (W.listOf its ep) ∧ its.toList = kids.map N.val ∧ TVs (hv h) kids := by
  cases t with
  | tree p q r i k => exact ⟨_, _, _, _, _, _, _, _, _, p, q, r, i, k⟩
theorem TV.obj {h : Heap} {n : N} (t : TV (hv h) n) : ∃ o, h.get? n.addr = some o ∧ o.cls ≠ .type "tuple" := by
  cases t with
  | tok a _ => exact ⟨_, a, by simp [instObj]⟩
  | tree a _ _ _ _ => exact ⟨_, a, by simp [instObj]⟩
theorem comp_finS {h₀ h h' : Heap} {L D : Addr} {m : Str → Option Value} {news : List (Addr × Obj)} {o : Obj} (F : Fr h₀ L h m) (N : News h₀ L h news) (hk : ∀ b o, h.get? b = some o → h'.get? b = some o) (hl : h'.get? D = some o) (hD : h.objs.size ≤ D) :
    Fr h₀ L h' m ∧ News h₀ L h' ((D, o) :: news) ∧ ∀ p ∈ news, p.1 < D := by
  obtain ⟨F', N'⟩ := comp_fin F N hk hl hD
  exact ⟨F', fun q hq => N' q (by
    rcases List.mem_cons.mp hq with rfl | hq
    · exact .head _
    · exact .tail _ (List.mem_append_right _ hq)), fun p hp => Nat.lt_of_lt_of_le (Heap.lt_size (N p hp).1) hD⟩
theorem src_rev {prog : Program} {w : World} {A : Around} {s s₁ : Shared} {l R : Addr} {items : List Value} (hh : A.handled = none) (hR : s.heap.objs.size ≤ R) (hne : l ≠ R) (hit : s₁.heap.get? R = some (revObj l ((items.length : Int) - 1))) (hl : s₁.heap.IsList l items.toArray) :
    SrcAt prog w A s s₁ (.ref R) items.reverse.length (fun i v => items.reverse[i]? = some v) := by
  rw [List.length_reverse]
  intro Q E h
  have hs : items.toArray.size = items.length := by simp
  have W := Walks.listRev (prog := prog) (w := w) hh R l hne items.toArray
  rw [hs] at W
  have it0 : s₁.heap.IsRevIter R l ((items.length : Int) - 1) := ⟨_, hit, rfl, rfl⟩
  refine wpAny_pyIter_revIter it0 (h R s₁ [R, l] _ (keeps_refl _) hR (walks_mono W fun i v hi hP => ?_).toS ?_ ?_ ⟨Nat.zero_le _, by simpa using it0, hl⟩)
  · rw [List.getElem?_reverse hi]; simpa using hP
  · intro b hb
    simp only [List.mem_cons, List.not_mem_nil, or_false] at hb
    rcases hb with rfl | rfl
    · exact Heap.lt_size hit
    · obtain ⟨_, ho, _⟩ := hl; exact Heap.lt_size ho
  · rintro i s' ⟨_, ⟨o, e, _⟩, _⟩; exact ⟨o, e⟩
/-- a post that the walker leaves alone -/
def Opq (P : Prop) : Prop := P
def TurnPost (I : Nat → Shared → Prop) (n : Nat) (R : Result → Shared → Prop) (f : Flow) (s : Shared) : Prop := match f with
  | .next => ∃ m, m < n ∧ I m s
  | .cont => ∃ m, m < n ∧ I m s
  | .brk => R (.ok .next) s
  | .ret v => R (.ok (.ret v)) s
theorem forLoopI {prog : Program} {w : World} {A : Around} {s : Shared} {R : Result → Shared → Prop} {target it body orelse env} (I : Nat → Shared → Prop)
    (turn : ∀ n s, I n s → wpAny (model prog w) A (pyNext it) (fun r s₁ => match r with
      | none => wpAny (model prog w) A (execs orelse env) (fun f s₃ => R (.ok f) s₃) (notedBy (model prog w) A env fun e s' => R (.error e) s') s₁
      | some v => wpAny (model prog w) A (assign target env v) (fun _ s₂ => wpAny (model prog w) A (execs body env) (TurnPost I n R) (notedBy (model prog w) A env fun e s' => R (.error e) s') s₂) (notedBy (model prog w) A env fun e s' => R (.error e) s') s₁) (notedBy (model prog w) A env fun e s' => R (.error e) s') s)
    (n : Nat) (h : I n s) (ht : ∀ v, letOwnedTupleGo target it v = pure ()) : codeAny (model prog w) A (.forLoop target it body orelse env) R s :=
  codeAny_forLoop I (fun n s hI => wpAny_mono (turn n s hI) (fun r s₁ h₁ => by
    cases r with
    | none => exact h₁
    | some v => exact wpAny_mono h₁ (fun _ s₂ h₂ => wpAny_mono h₂ (fun f s₃ h₃ => by cases f <;> exact h₃) fun _ _ e => e) fun _ _ e => e) fun _ _ e => e) n h ht
theorem news_sub {h₀ h : Heap} {L : Addr} {n n' : List (Addr × Obj)} (N : News h₀ L h n) (hs : ∀ q ∈ n', q ∈ n) : News h₀ L h n' := fun q hq => N q (hs q hq)
theorem objs_row_size {n m : N} (h : n ∈ m.objs) : n.row.size ≤ m.row.size := by
  induction hs : m.row.size using Nat.strongRecOn generalizing m n with
  | _ z ih =>
    rcases mem_objs_iff.mp h with ⟨rfl, _⟩ | ⟨c, hc, hn⟩
    · omega
    · have := kid_size hc
      have := ih _ (by omega) hn rfl
      omega
end Mine
end
/-! part C2 -/
section
open PySem PySem.W PyProof.Rows PySem.Spec PySem.Calls
set_option maxRecDepth 100000
set_option maxHeartbeats 4000000
namespace Mine
section
local macro_rules | `(tactic| tm_at "w compareOp Is ref ref") => `(tactic| ((with_reducible show wpAny _ _ (compareOp CmpOp.Is (Value.ref _) (Value.ref _)) _ _ _); refine stop_here ?_))
local macro_rules | `(tactic| tm_at "w truthy ref") => `(tactic| ((with_reducible show wpAny _ _ (truthy (Value.ref _)) _ _ _); refine stop_here ?_))
local macro_rules | `(tactic| tm_at "w Opq") => `(tactic| fail "stop")
local macro_rules | `(tactic| tm_at "w call type:reversed") => `(tactic| refine stop_here ?_)
local macro_rules | `(tactic| tm_at "w call builtin:list.append") => `(tactic| ((with_reducible show wpAny _ _ (call (Value.builtin _) [Value.ref _, _]) _ _ _); k_dflt (refine' append_K ?k1 ?k2 ?k3 ?_ ?z; (case k1 => k_asm); (case k2 => k_asm); (case k3 => k_upd); (case z => assumption); k_whole); intro h' F' N'; (try k_sweep)))
local macro_rules | `(tactic| tm_at "my enterC") => `(tactic| (k_dflt (refine' (enterC ?k0 ?k1 ?k2 ?k3 ?k4 ?k5 ?k6 ?_ ?c2 ?c3 ?c4); (case k0 => assumption); (case k1 => k_is); (case k2 => k_is); (case k3 => ((try dsimp only); omega)); (case k4 => exact BindsTo.of_eq rfl); (case k5 => exact fun n y hy => .inl (locs rfl y hy)); (case k6 => decide); (case c2 => exact rfl); (case c3 => exact rfl); (case c4 => exact rfl); k_whole)))
local macro_rules | `(tactic| tm_at "my compF") => `(tactic| (refine ⟨?_⟩; k_dflt (refine' comp1K ?hclos ?hpc ?hcf ?hkind ?hnames ?hx ?_ ?hs; (case hclos => exact rfl); (case hpc => exact fun _ => rfl); (case hcf => exact fun _ => rfl); (case hkind => exact rfl); (case hnames => decide); (case hx => exact rfl); (case hs => exact fun _ => rfl); k_whole)))
local macro_rules | `(tactic| tm_at "my compC") => `(tactic| (refine ⟨?_⟩; k_dflt (refine' comp1C ?hclos ?hpc ?hcf ?hkind ?hnames ?hx ?_ ?hs; (case hclos => exact rfl); (case hpc => exact fun _ => rfl); (case hcf => exact fun _ => rfl); (case hkind => exact rfl); (case hnames => decide); (case hx => exact fun _ _ => rfl); (case hs => exact fun _ => rfl); k_whole)))
local macro_rules | `(tactic| tm_at "w exec For Name Name cons nil") => `(tactic| refine stop_here ?_)
local macro_rules | `(tactic| tm_at "w pyIter ref") => `(tactic| refine stop_here ?_)
local macro_rules | `(tactic| tm_at "w eval ListComp") => `(tactic| refine stop_here ?_)
set_option maxHeartbeats 1000000 in
theorem iter_spec {w : World} {p : Program} {loose : List Str} {mean : ExcName → Option Value} {mg mb : Str → Option Value} (t : N) (ht : t.isTree = true) (A : Around) (base : Heap) (fr : List Env) (s : Shared) (E : Value → Shared → Prop)
    (H : Amb w p loose mean mg mb A base fr s.heap) (hv' : TV (hv s.heap) t)
    (hz : t.row.size ≤ 10000) (hd' : A.depth + 10 < recursionLimit) (hu' : A.units + 400 < cLine) :
    wpAny (model PySem.Challenge.rw_fi0013_01.row.prog w) A (call (.ref 90) [t.val]) (fun x s' => Keeps s s' ∧ ∃ R : List N, FrL s.heap s'.heap x (R.map N.val) ∧ (R.map N.addr).Nodup ∧ ∀ n, n ∈ R ↔ n ∈ t.objs) E s := by
  obtain ⟨X, T, B, hh⟩ := id H
  revert X; k_fill; intro X
  cases hv' with
  | tok => cases ht
  | @tree a da l nm kids h1 h2 h3 k1 k2 k3 t1 its ep ho hod hl hits hks =>
    have I : InstAt s.heap a (instObj 149 da) 149 (some _) := ⟨ho, rfl, rfl, hod⟩
    show wpAny _ _ (call (.ref 90) [.ref a]) _ _ _
    refine wpAny_call ?_
    tm_at "my enterC"
    intro L' h₁ tk cells F' N' Y'
    k_cells Y'
    (try simp only [List.cons_append, List.nil_append] at N' ⊢); (try dsimp only); (try k_fold)
    k_steps
    rename Fr _ _ _ _ => F₂
    rename News _ _ _ _ => N₂
    refine ⟨?_⟩
    refine wpAny_For ?_ (fun _ => rfl)
    k_steps
    refine ⟨?_⟩
    rename_i tk0 oT oX d1 d2 lq hA l1 hB ls hC l2 hD oS dS
    clear hA hB hC
    refine wpAny_pyIter_list (N₂.isList (.tail _ (.head _))) ?_
    have hT : TV (hv s.heap) (.tree a da l nm kids) := .tree ho hod hl hits hks
    have hu : ∀ x y : N, x ∈ (N.tree a da l nm kids).objs → y ∈ (N.tree a da l nm kids).objs → x.addr = y.addr → x = y := fun x y hx hy e =>
      TV.uniq (fs := []) (h := s.heap) ((hT.of_objs hx).mono fun _ _ e => ⟨by simp, e⟩) ((hT.of_objs hy).mono fun _ _ e => ⟨by simp, e⟩) e
    have hIs : ∀ p ∈ [(ls, W.listOf #[] 0), (lq, W.listOf #[Value.ref a] 0), (L' + 1 + 1, oT), (L' + 1, oS)], p.1 < hD.objs.size := fun p hp => Heap.lt_size (N₂ p hp).1
    have hI1 := ltN (hIs _ (.head _))
    have hI3 := ltN (hIs _ (.tail _ (.head _)))
    have hI2 := ltN (hIs _ (.tail _ (.tail _ (.head _))))
    have hI0 := ltN F₂.ns.lt
    have hIb : s.heap.objs.size < hD.objs.size := Nat.lt_of_le_of_lt F₂.above hI0
    dsimp only at hI1 hI2 hI3
    clear hIs
    generalize hI : hD.objs.size = I at *
    let Tn : N := .tree a da l nm kids
    refine forLoopI (fun k s' => Opq (∃ h' tk' m' Qs D i nq nS oS oT oI, s' = { s with heap := h', toks := tk' } ∧ Fr s.heap L' h' m' ∧ m' "queue" = some (.ref lq) ∧
      News s.heap L' h' [(ls, W.listOf (D.map N.val).toArray nS), (lq, W.listOf (Qs.map N.val).toArray nq), (L' + 1 + 1, oT), (L' + 1, oS), (I, oI)] ∧ oS.data = .cell (some (.ref ls)) ∧ (∃ v, oT.data = .cell v) ∧
      h'.IsListIter I lq i ∧ Bfs Tn Qs D i ∧ k = meas Qs i)) ?_ (meas [Tn] 0) ?_ (fun _ => rfl)
    · rintro k s' ⟨h', tk', m', Qs, D, i, nq, nS, oS, oT, oI, rfl, F', hm, N', hdS, ⟨v0, hdT⟩, hit, Bf, rfl⟩
      have hlq := N'.isList (.tail _ (.head _))
      rw [upd_self hm] at F'
      by_cases hlt : i < Qs.length
      · obtain ⟨q, hq⟩ : ∃ q, Qs[i]? = some q := ⟨Qs[i], by simp⟩
        refine wpAny_pyNext_list_item hit hlq (x := q.val) (by simp [hq]) fun h₁ hit₁ hs₁ => ?_
        have F₁ : Fr s.heap L' h₁ _ := ⟨F'.ns.sameBut hs₁ (Nat.ne_of_lt hI0), fun b o e => (hs₁.2 b (fun q => Nat.lt_irrefl _ (Nat.lt_trans hIb (q ▸ Heap.lt_size e)))).trans (F'.keep b o e), F'.above⟩
        obtain ⟨oI', hoI', hcI'⟩ := id hit₁
        have N₁ := N'.setAt (own := [_, _, _, _]) (rest := []) (by
          intro p hp
          simp only [List.mem_cons, List.not_mem_nil, or_false] at hp
          rcases hp with rfl | rfl | rfl | rfl <;> k_ne) (by simp) hs₁ hoI'
        clear F' N' hlq hit
        have hDs : ∀ d ∈ D, d ∈ (N.tree a da l nm kids).objs := fun d hd => Bf.sub d (List.mem_of_mem_take ((Bf.dset d).mp hd))
        have hqv := hT.of_objs (Bf.sub q (List.mem_of_getElem? hq))
        show wpAny _ _ (assign _ _ _) _ _ _
        obtain ⟨aq, daq, lkq, nmq, kq, rfl⟩ : ∃ aq daq lkq nmq kq, q = .tree aq daq lkq nmq kq := by
          have := objs_tree (Bf.sub q (List.mem_of_getElem? hq))
          cases q with
          | tok => cases this
          | tree => exact ⟨_, _, _, _, _, rfl⟩
        show wpAny _ _ (assign _ _ (.ref aq)) _ _ _
        -- the store
        refine wpAny_mono (Q := fun _ s₂ => Opq (∃ h tk oT', s₂ = { s with heap := h, toks := tk } ∧ Fr s.heap L' h (fun y => if y = "queue" then some (.ref lq) else m' y) ∧
          News s.heap L' h [(ls, W.listOf (D.map N.val).toArray nS), (lq, W.listOf (Qs.map N.val).toArray nq), (L' + 1 + 1, oT'), (L' + 1, oS), (I, oI')] ∧ oT'.data = .cell (some (.ref aq)))) ?_ (fun _ s₂ hs₂ => ?_) fun _ _ e => e
        · k_steps
          exact ⟨_, _, _, rfl, by assumption, by assumption, by assumption⟩
        obtain ⟨h₂, tk₂, oT₂, rfl, F₃, N₃, hdT₂⟩ := hs₂
        clear F₁ N₁ hdT
        have hBd := Bf.dlen
        have hTl : Tn.objs.length = (N.tree a da l nm kids).objs.length := rfl
        have hTs := objs_len (N.tree a da l nm kids)
        generalize hD' : addD D (N.tree aq daq lkq nmq kq) = D'
        have hst := Bf.step hu hq
        rw [hD'] at hst
        -- the test
        refine wpAny_execs_cons (wpAny_mono (Q := fun f s₂ => Opq (f = .next ∧ ∃ h tk n', s₂ = { s with heap := h, toks := tk } ∧ Fr s.heap L' h (fun y => if y = "queue" then some (.ref lq) else m' y) ∧
          News s.heap L' h [(ls, W.listOf (D'.map N.val).toArray n'), (lq, W.listOf (Qs.map N.val).toArray nq), (L' + 1 + 1, oT₂), (L' + 1, oS), (I, oI')])) ?_ (fun f s₂ hs₂ => ?_) fun _ _ e => e)
        · k_steps
          tm_at "my compF"
          k_steps
          refine' compIn_seq (items := D.map N.val) ⟨_, _, rfl, fun _ _ e => e⟩ (Nat.le_refl _) hh (.inl (N₃.isList (.head _))) ?_ (fun (j : Nat) (ys : List Value) (_ : View) => ys = ((D.take j).filter fun d => d.addr == aq).map N.val) (fun _ _ _ _ _ h => h) ?_ ?_ ?_ ?_
          · rw [sizeLine_eq, List.length_map]; omega
          · intro j ys G h; subst h; rw [List.length_map]; exact Nat.le_trans (List.length_filter_le _ _) (by rw [List.length_take]; exact Nat.min_le_left _ _)
          · simp
          · intro C Z j v ys s₃ oC m₃ E' hC hZ1 hZ2 hj hoC hns hm' hk₃ hI
            have F₄ := F₃.keeps (kold hk₃)
            have N₄ := news_add' F₃ (N₃.grown (kold hk₃)) hoC hC
            obtain ⟨d, hdj, rfl⟩ := vals_get hj
            refine wpAny_tests_one ?_
            have hm2 : m₃ "one" = some (.ref d.addr) := hm'
            clear hm'
            k_steps
            obtain ⟨od, hod1, hod2⟩ := (hT.of_objs (hDs d (List.mem_of_getElem? hdj))).obj
            obtain ⟨oq, hoq1, hoq2⟩ := hqv.obj
            refine ⟨?_⟩
            refine is_refs (F₄.keep _ _ hod1) (F₄.keep _ _ hoq1) hod2 ?_
            k_steps
            · rename (d.addr == aq) = true => hq2
              rw [hI, take_succ_get hdj, List.filter_append, List.map_append]; simp [hq2]
            · rename (d.addr == aq) = false => hq2
              rw [hI, take_succ_get hdj, List.filter_append, List.map_append]; simp [hq2]
          · intro D2 Z s' ys hD2 hZ ⟨e4, hl4⟩ hI hk₄
            obtain ⟨h4, tk4, rfl, hk₄'⟩ := hk₄
            obtain ⟨F₄, N₄, l4⟩ := comp_finS F₃ N₃ hk₄' hl4 hD2
            k_lt l4
            rw [List.length_map, List.take_of_length_le (Nat.le_refl _)] at hI
            subst hI
            dsimp only at N₄ F₄ ⊢
            clear F₃ N₃
            k_steps
            refine ⟨?_⟩
            refine wpAny_truthy_list (N₄.isList (.head _)) ?_ ?_
            · have h4 := List.length_filter_le (fun d : N => d.addr == aq) D
              simp only [List.size_toArray, List.length_map]
              omega
            rw [in_test, Bool.not_not]
            have hfitD : (List.map N.val D).toArray.size ≤ sizeLine := by
              rw [sizeLine_eq]; simp only [List.size_toArray, List.length_map]; omega
            by_cases hin : (D.any fun d => d.addr == aq) = true
            · rw [hin]
              have e : (List.map N.val D).toArray = (List.map N.val D').toArray := by
                rw [← hD', addD, if_pos (show inD D (N.tree aq daq lkq nmq kq) = true from hin)]
              rw [e] at N₄
              simp only [Bool.not_true, Bool.false_eq_true, if_false]
              k_steps
              exact ⟨rfl, _, _, _, rfl, by assumption, news_sub N₄ fun q hq => .tail _ hq⟩
            · rw [Bool.not_eq_true] at hin
              rw [hin]
              simp only [Bool.not_false, if_true]
              k_steps
              rename News _ _ _ _ => N₅
              have e : (List.map N.val D).toArray.push (.ref aq) = (List.map N.val D').toArray := by
                rw [← hD', addD, if_neg (show ¬ inD D (N.tree aq daq lkq nmq kq) = true by rw [Bool.not_eq_true]; exact hin)]
                simp [N.addr]
              rw [e] at N₅
              exact ⟨rfl, _, _, _, rfl, by assumption, news_sub N₅ fun q hq => .tail _ hq⟩
        obtain ⟨rfl, h₅, tk₅, n₅, rfl, F₅, N₅⟩ := hs₂
        clear F₃ N₃
        show wpAny _ _ (execs _ _) _ _ _
        k_steps
        obtain ⟨_, _, _, _, _, _, _, itsq, epq, hoq, hodq, hlq, hitsq, hksq⟩ := hqv.inv
        have Iq : InstAt s.heap aq (instObj 149 daq) 149 (some _) := ⟨hoq, rfl, rfl, hodq⟩
        have hLq : s.heap.IsList lkq (kq.map N.val).toArray := ⟨_, hlq, rfl, _, by rw [← hitsq]⟩
        tm_at "my compC"
        k_steps
        refine ⟨call_reversed_list (F₅.lst hLq) ?_⟩
        have hlen : ((List.map N.val kq).toArray.size : Int) - 1 = ((List.map N.val kq).length : Int) - 1 := by simp
        rw [hlen]
        have hlkq : (lkq : Nat) < _ := ltN (Heap.lt_size (F₅.keep _ _ hlq))
        have hobs : ∀ d ∈ (N.tree a da l nm kids).objs, ∃ o, s.heap.get? d.addr = some o ∧ o.cls ≠ .type "tuple" := fun d hd => (hT.of_objs hd).obj
        have hD'o : ∀ d ∈ D', d ∈ (N.tree a da l nm kids).objs := fun d hd => hst.1.sub d (List.mem_of_mem_take ((hst.1.dset d).mp hd))
        have hD'len : D'.length ≤ 1000000 := by
          have h1 := hst.1.dlen; omega
        have hkqlen : kq.length ≤ 1000000 := by
          have h1 := objs_row_size (m := N.tree a da l nm kids) (Bf.sub _ (List.mem_of_getElem? hq))
          have h2 := len_sizes (N.rows kq); rw [rows_length] at h2
          simp only [N.row, Row.size] at h1 hz; omega
        refine compInC_src (items := (kq.map N.val).reverse) ⟨_, _, rfl, fun _ _ e => Heap.get?_push_of_some _ e⟩ (by show _ ≤ (Heap.push _ _).objs.size; rw [Heap.size_push]; exact Nat.le_succ _) (src_rev (items := kq.map N.val) (by exact hh) (Nat.le_refl _) (Nat.ne_of_lt hlkq) (Heap.get?_push_size _ rfl) ⟨_, Heap.get?_push_of_some _ (F₅.keep _ _ hlq), rfl, epq, by rw [← hitsq]⟩) (by rw [sizeLine_eq]; simp; omega) (fun (j : Nat) (ys : List Value) (_ : View) => ys = ((kq.reverse.take j).filter fun c => c.isTree && !inD D' c).map N.val) (fun _ _ _ _ _ h => h) ?_ ?_ ?_ ?_
        · intro j ys G h; subst h; rw [List.length_map]; exact Nat.le_trans (List.length_filter_le _ _) (by rw [List.length_take]; exact Nat.min_le_left _ _)
        · simp
        · intro C c Z oc j v ys s₃ oC m₃ E' hC hc hCc hZ1 hZ2 hj hoC hns hoc hdc hk₃ hI
          have F₇ := F₅.keeps (kold hk₃)
          have N₇ := news_add' F₅ (news_add' F₅ (N₅.grown (kold hk₃)) hoC hC) hoc hc
          rw [← List.map_reverse] at hj
          obtain ⟨k, hkj, rfl⟩ := vals_get hj
          have hkv := hksq.get (List.mem_reverse.mp (List.mem_of_getElem? hkj))
          refine wpAny_tests_one ?_
          cases hkt : k.isTree with
          | false =>
            obtain ⟨da', od', I'⟩ := hkv.inst
            rw [show k.cls = 52 by simp [N.cls, hkt]] at I'
            k_steps
            rw [hI, take_succ_get hkj, List.filter_append, List.map_append]; simp [hkt]
          | true =>
            obtain ⟨da', od', I'⟩ := hkv.inst
            rw [show k.cls = 149 by simp [N.cls, hkt]] at I'
            k_steps
            rename Fr _ _ _ _ => F₈
            rename News _ _ _ _ => N₈
            tm_at "my compF"
            k_steps
            refine' compIn_seq (items := D'.map N.val) ⟨_, _, rfl, fun _ _ e => e⟩ (Nat.le_refl _) (by exact hh) (.inl (N₈.isList (by k_mem))) (by rw [sizeLine_eq, List.length_map]; omega) (fun (j : Nat) (ys : List Value) (_ : View) => ys = ((D'.take j).filter fun d => d.addr == k.addr).map N.val) (fun _ _ _ _ _ h => h) ?_ ?_ ?_ ?_
            · intro j ys G h; subst h; rw [List.length_map]; exact Nat.le_trans (List.length_filter_le _ _) (by rw [List.length_take]; exact Nat.min_le_left _ _)
            · simp
            · intro C2 Z2 j2 v2 ys2 s₄ oC2 m₄ E2 hC2 hZ3 hZ4 hj2 hoC2 hns2 hm3 hk₄ hI2
              have F₉ := F₈.keeps (kold hk₄)
              have N₉ := news_add' F₈ (N₈.grown (kold hk₄)) hoC2 hC2
              obtain ⟨d, hdj, rfl⟩ := vals_get hj2
              refine wpAny_tests_one ?_
              have hm4 : m₄ "one" = some (.ref d.addr) := hm3
              clear hm3
              k_steps
              obtain ⟨od, hod1, hod2⟩ := hobs d (hD'o d (List.mem_of_getElem? hdj))
              obtain ⟨oq, hoq1, hoq2⟩ := hkv.obj
              refine ⟨?_⟩
              refine is_refs (F₉.keep _ _ hod1) (F₉.keep _ _ hoq1) hod2 ?_
              k_steps
              · rename (d.addr == k.addr) = true => hq2
                rw [hI2, take_succ_get hdj, List.filter_append, List.map_append]; simp [hq2]
              · rename (d.addr == k.addr) = false => hq2
                rw [hI2, take_succ_get hdj, List.filter_append, List.map_append]; simp [hq2]
            · intro D9 Z9 s' ys9 hD9 hZ9 ⟨e9, hl9⟩ hI9 hk9
              obtain ⟨h9, tk9, rfl, hk9'⟩ := hk9
              obtain ⟨F₉, N₉, l9⟩ := comp_finS F₈ N₈ hk9' hl9 hD9
              rw [List.length_map, List.take_of_length_le (Nat.le_refl _)] at hI9
              subst hI9
              (try dsimp only at N₉ F₉ ⊢)
              k_steps
              refine ⟨?_⟩
              refine wpAny_truthy_list (N₉.isList (.head _)) ?_ ?_
              · have h4 := List.length_filter_le (fun d : N => d.addr == k.addr) D'
                simp only [List.size_toArray, List.length_map]
                omega
              rw [in_test, Bool.not_not]
              cases hin2 : (D'.any fun d => d.addr == k.addr) with
              | true =>
                have hin3 : inD D' k = true := hin2
                k_steps
                · exact ⟨_, _, rfl, hk9'⟩
                · rw [hI, take_succ_get hkj, List.filter_append, List.map_append]; simp [hkt, hin3]
              | false =>
                have hin3 : inD D' k = false := hin2
                k_steps
                · exact ⟨_, _, rfl, hk9'⟩
                · rw [hI, take_succ_get hkj, List.filter_append, List.map_append]; simp [hkt, hin3]
        · intro D7 Z s' ys hD7 hZ ⟨e7, hl7⟩ hI hk₇
          obtain ⟨h7, tk7, rfl, hk₇'⟩ := hk₇
          obtain ⟨F₇, N₇, l7⟩ := comp_finS F₅ N₅ hk₇' hl7 hD7
          k_lt l7
          rw [List.length_reverse, List.length_map, ← List.length_reverse, List.take_of_length_le (Nat.le_refl _)] at hI
          subst hI
          dsimp only at N₇ F₇ ⊢
          clear F₅ N₅
          k_steps
          rename Fr _ _ _ _ => F₇
          rename News _ _ _ _ => N₇
          have hq3 := N₇ _ (.tail _ (.tail _ (.head _)))
          have hq0 := N₇ _ (.head _)
          have hnew : newQ D' (N.tree aq daq lkq nmq kq) = kq.reverse.filter fun c => c.isTree && !inD D' c := rfl
          have hQlen := hst.1.len
          refine iadd_lists hq3.1 hq0.1 ?_ fun h8 n8 hs8 ho8 => ?_
          · rw [hnew, List.length_append] at hQlen
            rw [sizeLine_eq]; simp only [List.size_toArray, List.length_map]; omega
          have F₈ : Fr s.heap L' h8 _ := ⟨F₇.ns.sameBut hs8 (Ne.symm hq3.2.1), fun b o e => (hs8.2 b (fun q => by rw [q] at e; rw [hq3.2.2] at e; cases e)).trans (F₇.keep b o e), F₇.above⟩
          have N₈ := N₇.setAt (own := [_, _]) (rest := [_, _, _]) (by
            intro p hp
            simp only [List.mem_cons, List.not_mem_nil, or_false] at hp
            rcases hp with rfl | rfl <;> k_ne) (by
            intro p hp
            simp only [List.mem_cons, List.not_mem_nil, or_false] at hp
            rcases hp with rfl | rfl | rfl <;> k_ne) hs8 ho8
          clear F₇ N₇
          (try simp only [List.cons_append, List.nil_append] at N₈)
          k_steps
          rename Fr _ _ _ _ => F₉
          rename News _ _ _ _ => N₉
          refine ⟨_, hst.2, _, _, _, Qs ++ newQ D' (N.tree aq daq lkq nmq kq), D', i + 1, n8, n₅, oS, oT₂, oI', rfl, F₉, by simp, ?_, hdS, ⟨_, hdT₂⟩, ?_, hst.1, rfl⟩
          · have e8 : (List.map N.val Qs).toArray ++ (List.map N.val (List.filter (fun c => c.isTree && !inD D' c) kq.reverse)).toArray = (List.map N.val (Qs ++ newQ D' (N.tree aq daq lkq nmq kq))).toArray := by
              rw [hnew]; simp
            rw [← e8]
            exact news_sub N₉ fun q hq => .tail _ hq
          · exact ⟨oI', (N₉ _ (.tail _ (.tail _ (.tail _ (.tail _ (.tail _ (.head _))))))).1, hcI'⟩
      · have hin : i = Qs.length := by have := Bf.le; omega
        subst hin
        refine wpAny_pyNext_list_end (by exact hh) hit hlq (by simp) fun h₁ hs₁ => ?_
        have F₁ : Fr s.heap L' h₁ _ := ⟨F'.ns.at' fun o e => hs₁ _ o (Nat.ne_of_lt hI0) e, fun b o e => hs₁ b o (fun q => Nat.lt_irrefl _ (Nat.lt_trans hIb (q ▸ Heap.lt_size e))) (F'.keep b o e), F'.above⟩
        have N₁ : News s.heap L' h₁ [(ls, W.listOf (D.map N.val).toArray nS), (lq, W.listOf (Qs.map N.val).toArray nq), (L' + 1 + 1, oT), (L' + 1, oS)] := by
          intro p hp
          have hpI : p.1 ≠ I := by
            simp only [List.mem_cons, List.not_mem_nil, or_false] at hp
            rcases hp with rfl | rfl | rfl | rfl <;> k_ne
          have hp' := N' p (by
            simp only [List.mem_cons, List.not_mem_nil, or_false] at hp ⊢
            rcases hp with rfl | rfl | rfl | rfl <;> simp)
          exact ⟨hs₁ _ _ hpI hp'.1, hp'.2⟩
        clear F' N' hlq hit
        show wpAny _ _ (execs [] _) _ _ _
        k_steps
        rename Fr _ _ _ _ => F₂'
        rename News _ _ _ _ => N₂'
        have hl1 := N₂'.isList (.head _)
        have hl1lt : (ls : Nat) < _ := ltN (Heap.lt_size (N₂' _ (.head _)).1)
        refine ⟨call_reversed_list hl1 ?_⟩
        have hlen : ((List.map N.val D).toArray.size : Int) - 1 = ((List.map N.val D).length : Int) - 1 := by simp
        rw [hlen]
        have F₃ := F₂'.push (revObj ls (((List.map N.val D).length : Int) - 1))
        k_steps
        refine call_list_rev (l := ls) (items := D.map N.val) (by exact hh) (Nat.ne_of_lt hl1lt) (Heap.get?_push_size _ rfl) (hl1.at fun o e => Heap.get?_push_of_some _ e) ?_ fun D' h' tk' c' hD' hk' ho' => ?_
        · have h1 := Bf.dlen; have h2 := objs_len (N.tree a da l nm kids); have h3 : Tn.objs.length = (N.tree a da l nm kids).objs.length := rfl
          rw [sizeLine_eq, List.length_map]; omega
        · refine ⟨⟨h', tk', rfl, fun b o e => hk' b o (Nat.ne_of_lt (Heap.lt_size (F₂'.keep b o e))) (Heap.get?_push_of_some _ (F₂'.keep b o e))⟩, D.reverse, ⟨D', c', rfl, Heap.get?_none_of_le ?_, ?_⟩, ?_, ?_⟩
          · refine Nat.le_trans (Nat.le_trans F₂'.above (Nat.le_of_lt F₂'.ns.lt)) (Nat.le_trans ?_ hD')
            show _ ≤ (Heap.push _ _).objs.size
            rw [Heap.size_push]; exact Nat.le_succ _
          · rw [List.map_reverse]; exact ho'
          · rw [List.map_reverse]; exact List.pairwise_reverse.mpr (Bf.nodup.imp fun h => Ne.symm h)
          · intro n
            rw [List.mem_reverse]
            exact Bf.finish n
    · have hget : (hD.push { cls := .type "list_iterator", data := .fields #[.ref lq, .int 0 0] }).get? I = some { cls := .type "list_iterator", data := .fields #[.ref lq, .int 0 0] } := by rw [← hI]; exact Heap.get?_push_size _ rfl
      refine ⟨_, _, _, [Tn], [], 0, 0, 0, oS, oT, { cls := .type "list_iterator", data := .fields #[.ref lq, .int 0 0] }, rfl, F₂.push _, by simp, ?_, dS, ⟨_, d1⟩, ⟨_, hget, rfl, rfl⟩, Bfs.start rfl, rfl⟩
      intro p hp
      simp only [List.mem_cons, List.not_mem_nil, or_false] at hp
      have up : ∀ p ∈ [(ls, W.listOf #[] 0), (lq, W.listOf #[Value.ref a] 0), (L' + 1 + 1, oT), (L' + 1, oS)], (hD.push { cls := .type "list_iterator", data := .fields #[.ref lq, .int 0 0] }).get? p.1 = some p.2 ∧ p.1 ≠ L' ∧ s.heap.get? p.1 = none :=
        fun p hp => ⟨Heap.get?_push_of_some _ (N₂ p hp).1, (N₂ p hp).2⟩
      rcases hp with rfl | rfl | rfl | rfl | rfl
      · exact up _ (.head _)
      · exact up _ (.tail _ (.head _))
      · exact up _ (.tail _ (.tail _ (.head _)))
      · exact up _ (.tail _ (.tail _ (.tail _ (.head _))))
      · exact ⟨hget, Ne.symm (Nat.ne_of_lt hI0), Heap.get?_none_of_le (Nat.le_of_lt hIb)⟩
end
end Mine
end
/-! part G4 -/
section
open PySem PySem.W PyProof.Rows PySem.Spec PySem.Calls
set_option maxRecDepth 100000
set_option maxHeartbeats 1000000
namespace Mine
theorem sliceBounds_at (i n : Nat) (h : i < n) : sliceBounds (some (i : Int)) (some ((i : Int) + 1)) none n = ((i : Int), (i : Int) + 1, 1) := by
  unfold sliceBounds
  simp only [Option.getD_none, show (1 : Int) > 0 by decide, if_true]
  rw [if_neg (by omega), if_neg (by omega)]
  refine Prod.ext ?_ (Prod.ext ?_ rfl)
  · dsimp only; omega
  · dsimp only; omega
theorem setItem_slice {prog : Program} {w : World} {A : Around} {E : Value → Shared → Prop} {s : Shared} {l lk sl : Addr} {items items2 : Array Value} {vl vu : Value} {i n : Nat} {Q : Unit → Shared → Prop}
    (hl : s.heap.get? l = some (W.listOf items n)) (hv : s.heap.IsList lk items2) (hs : s.heap.IsSliceOf sl vl vu .none) (pl : IsPart vl (some (i : Int))) (pu : IsPart vu (some ((i : Int) + 1)))
    (hi : i < items.size) (hne : l ≠ lk) (hsz : items.size + items2.size ≤ sizeLine)
    (h : ∀ h' n', Heap.SameBut l s.heap h' → h'.get? l = some (W.listOf (items.extract 0 i ++ items2 ++ items.extract (i + 1) items.size) n') → Q () { s with heap := h' }) :
    wpAny (model prog w) A (setItem (.ref l) (.ref sl) (.ref lk)) Q E s := by
  obtain ⟨os, hos, hcs, hds⟩ := id hs
  obtain ⟨o2, ho2, hc2, ne2, hd2⟩ := id hv
  have hTs : s.TypeIs (.ref sl) "slice" := ⟨os, hos, hcs⟩
  have hTl : s.TypeIs (.ref l) "list" := ⟨_, hl, rfl⟩
  have hTv : s.TypeIs (.ref lk) "list" := ⟨_, ho2, hc2⟩
  unfold setItem
  try with_reducible refine wpAny_holding ?_
  refine wpAny_bind (wpAny_sequenceKey hTl (by decide) ?_)
  refine wpAny_bind (wpAny_callSpecial?_slot (name := Str.ofString "__setitem__") hTl slot_list_setitem
    (wpAny_call_entry slot_list_setitem hTl entry_list_setitem ?_ (args_list_setitem _ _ _)))
  show wpAny _ _ (Builtin.List.listSubscript? (.ref sl) >>= _) _ _ s
  refine wpAny_bind ?_
  unfold Builtin.List.listSubscript?
  refine wpAny_bind (wpAny_specialOf hTs slice_no_index ?_)
  simp only [Option.isNone_none, if_true]
  refine wpAny_pure ?_
  show wpAny _ _ (typeOf (.ref sl) >>= _) _ _ s
  refine wpAny_bind (wpAny_typeOf hTs ?_)
  rw [if_neg (by decide)]
  rw [listSliceParts_eq]
  refine wpAny_bind (wpAny_bind (wpAny_field hos hds (x := .none) rfl (wpAny_bind (wpAny_listPart .none ?_))))
  rw [if_neg (by decide)]
  refine wpAny_bind (wpAny_field hos hds (x := vl) rfl (wpAny_bind (wpAny_listPart pl ?_)))
  refine wpAny_bind (wpAny_field hos hds (x := vu) rfl (wpAny_bind (wpAny_listPart pu (wpAny_pure ?_))))
  dsimp only
  rw [if_neg (show ¬ (Builtin.List.listSameRef (.ref l) (.ref lk) = true) by simp [Builtin.List.listSameRef, hne])]
  refine wpAny_bind (m := Builtin.List.listAllItems _ _) ?_
  unfold Builtin.List.listAllItems
  refine wpAny_bind (wpAny_typeOf hTv ?_)
  rw [if_pos (by decide)]
  unfold Builtin.List.listItems
  (repeat (first | with_reducible refine wpAny_bind (wpAny_of_eq (sliceIndices_raw (some (i : Int)) (some ((i : Int) + 1)) none items.size (by simp)) ?_) | refine wpAny_seqItems ho2 hd2 (wpAny_pure ?_) | refine wpAny_seqItems hl rfl (wpAny_pure ?_) | with_reducible refine wpAny_bind ?_))
  rw [sliceBounds_at i items.size hi]
  dsimp only
  rw [if_pos (by decide)]
  refine wpAny_bind (wpAny_rule ?_)
  have hdoor : Builtin.List.listTooLong (items.size + items2.size) = false := by
    unfold Builtin.List.listTooLong sizeLine
    rw [sizeLine_eq] at hsz
    exact decide_eq_false (by omega)
  rw [if_neg (by rw [hdoor]; decide)]
  have em : (max ((i : Nat) : Int) ((i : Int) + 1)).toNat = i + 1 := by omega
  rw [em, Int.toNat_natCast]
  obtain ⟨n', en⟩ := mapSeq_list (fun xs : Array Value => xs.extract 0 i ++ items2 ++ xs.extract (i + 1)) items n
  show wpAny _ _ (updateSeq l (fun xs => xs.extract 0 i ++ items2 ++ xs.extract (i + 1)) >>= _) _ _ _
  refine wpAny_bind (wpAny_updateSeq hl rfl (hz := ?hz) (_hz' := ?hz2) ?hm)
  case hz => omega
  case hz2 => simp only [Array.size_append, Array.size_extract]; omega
  refine wpAny_bind (wpAny_letGo ?_)
  refine wpAny_pure ⟨_, rfl, wpAny_pure (h _ n' (Heap.SameBut.update ..) ?_)⟩
  rw [← en]
  exact Heap.get?_update_self _ hl rfl
end Mine
end
/-! part V1 -/
section
open PySem PySem.W PyProof.Rows PySem.Spec PySem.Calls
set_option maxRecDepth 100000
set_option maxHeartbeats 4000000
namespace Mine
theorem wp_of_peek1' {α : Type} {K : Frag} {M : Model} {A : Around} {E : Value → Shared → Prop} {Q : α → Shared → Prop} {s : Shared} {o : Obj} {r : Addr → α} (X : K.In s.heap)
    (q : Q (r s.heap.objs.size) { s with heap := s.heap.push o }) :
    ∀ (t : Sem α) (g : Addr → Option α), peek1 K ⟨M.prog, M.w.params⟩ t = some (o, g) → (∀ D, g D = some (r D)) → wpAny M A t Q E s := by
  intro t
  induction t with
  | rule _ k ih => intro g e hg Γ p hΓ; exact ih () g e hg Γ p hΓ
  | point _ k ih => intro g e hg Γ p hΓ; exact ih () g e hg Γ p hΓ
  | ask k ih => intro g e hg Γ p hΓ; exact ih _ g e hg Γ p hΓ
  | load a _ k ih =>
    intro g e hg Γ p hΓ
    simp only [peek1] at e
    split at e
    · rename_i ob ho; exact ⟨ob, X _ _ ho, ih ob g e hg Γ p hΓ⟩
    · cases e
  | alloc ob k _ =>
    intro g e hg
    have e : some (ob, fun D => peek K ⟨M.prog, M.w.params⟩ (k D)) = some (o, g) := e
    obtain ⟨e1, e2⟩ := Prod.mk.inj (Option.some.inj e)
    subst e1
    subst e2
    have X' : K.In (s.heap.push ob) := X.keeps fun b x hb => Heap.get?_push_of_some _ hb
    show wpAny M A (alloc ob >>= k) Q E s
    refine wpAny_bind (wpAny_alloc ?_)
    exact (Looks.of_peek (M := M) (h := s.heap.push ob) X' (hg s.heap.objs.size)).here (s := { s with heap := s.heap.push ob }) q
  | _ => intro g e; cases e

theorem enterP {w : World} {p : Program} {loose : List Str} {mean : ExcName → Option Value} {mg mb : Str → Option Value} {A : Around} {base : Heap} {fr : List Env} {prog : Program} {s : Shared}
    {R : Result → Shared → Prop} {name qual : Str} {params : Arguments} {body : List Stmt} {scope : Scope} {dV kV doc pm cdv ct oc : Value} {an od : Option Addr} {osl : Array (Option Value)} {f : Addr} {args : Args}
    {o : Obj} {r : Addr → List (Str × Value)}
    (H : Amb w p loose mean mg mb A base fr s.heap)
    (ho : (hd.heap_39 w.params).lookup f = some ⟨oc, od, .func (fnOf name qual params body scope dV kV doc pm an cdv ct), osl⟩) (hcd : codeIn (hd.heap_39 w.params) cdv qual = true) (hroom : A.depth < recursionLimit)
    (hpk' : ∀ oc od fd osl, (hd.heap_39 w.params).lookup f = some ⟨oc, od, .func fd, osl⟩ → ∃ g, peek1 (hd.heap_39 w.params) ⟨prog, w.params⟩ (bindArgs fd args) = some (o, g) ∧ ∀ D, g D = some (r D))
    (hof : o.isFreed = false)
    (hloc : ∀ D, ∀ y ∈ r D, scope.names.lookup y.1 = some .local)
    (h : ∀ L' D h₁, Fr s.heap L' h₁ (fun y => (r D).reverse.lookup y) → News s.heap L' h₁ [(D, o)] → D < L' →
      wpAny (model prog w) (A.deeper (envOf qual scope L' f cdv)) (execs body (envOf qual scope L' f cdv))
        (fun fl s' => R (.ok (.ret (match fl with | .ret v => v | _ => .none))) s')
        (fun e s' => wpAny (model prog w) (A.deeper (envOf qual scope L' f cdv)) (leaving (envOf qual scope L' f cdv) e) (fun _ s'' => R (.error e) s'') (fun e' s'' => R (.error e') s'') s')
        { s with heap := h₁, toks := s.toks + (r D).length })
    (hco : scope.isCoroutine = false) (hgen : scope.isGenerator = false) (hk : scope.kind = .function)
    (hcell : ∀ x ∈ scope.names, x.2 ≠ .cell) : codeAny (model prog w) A (.call (.ref f) args) R s := by
  obtain ⟨g, hpk, hg⟩ := hpk' _ _ _ _ ho
  refine codeAny_call_function hroom (H.X _ _ ho) rfl hco hgen rfl (codeRec_of H.X hcd) ?_
  refine wp_of_peek1' H.X ?_ _ _ hpk hg
  refine wpAny_newFunctionEnv hcell (hloc _) (fun h₀ hns₀ hsb₀ => ?_) hk
  have lim : (s.heap.push o).NoLimit := H.T.nolimit.keeps fun b x e => Heap.get?_push_of_some _ e
  refine ⟨lim.fresh _ hsb₀, codeAny_func ?_⟩
  have k1 : ∀ b x, (s.heap.push o).get? b = some x → h₀.get? b = some x := fun b x e => hsb₀.extBut b x (Nat.ne_of_lt (Heap.lt_size e)) (Heap.get?_push_of_some _ e)
  have hsz : (s.heap.push o).objs.size = s.heap.objs.size + 1 := Heap.size_push ..
  refine h _ s.heap.objs.size h₀ ⟨hns₀, fun b x e => k1 b x (Heap.get?_push_of_some _ e), by rw [hsz]; exact Nat.le_succ _⟩ ?_ (by rw [hsz]; exact Nat.lt_succ_self _)
  intro q hq
  obtain rfl := List.mem_singleton.mp hq
  refine ⟨k1 _ _ (Heap.get?_push_size _ hof), ?_, Heap.get?_none_of_le (Nat.le_refl _)⟩
  dsimp only
  rw [hsz]
  exact Nat.ne_of_lt (Nat.lt_succ_self _)

theorem hide1_get {h : Heap} {l b : Addr} {o : Obj} (e : h.get? b = some o) (n : b ≠ l) : (hideAll h [l]).get? b = some o := hideAll_get [l] e (by simpa using n)
theorem hide1_of {h : Heap} {l b : Addr} {o : Obj} (e : (hideAll h [l]).get? b = some o) : h.get? b = some o := of_hideAll [l] e
theorem hide1_none {h : Heap} {l : Addr} : (hideAll h [l]).get? l = none := hideAll_none [l] (by simp)
def openK (names : List Str) (k : N) : Bool := match k with
  | .tok _ _ _ _ => false
  | .tree _ _ _ nm _ => names.any fun y => y == nm
def openL (names : List Str) (ks : List N) : List N := ks.flatMap fun k => if openK names k then k.kids else [k]
theorem range_down (n : Nat) (hn : n ≤ 100000) : Builtin.Range.rangeSize ((n : Int) - 1) (-1) (-1) = n ∧ Builtin.Range.small ((n : Int) - 1) (-1) (-1) = true := by
  have e : Builtin.Range.rangeSize ((n : Int) - 1) (-1) (-1) = n := by
    unfold Builtin.Range.rangeSize
    rw [if_neg (by decide)]
    split
    · rw [show (-(-1) : Int) = 1 from rfl, Int.ediv_one]; omega
    · omega
  refine ⟨e, ?_⟩
  unfold Builtin.Range.small
  rw [e]
  unfold Builtin.Range.rangeFitsLong
  simp
  omega
mutual
theorem TV.on {G G' : View} : ∀ {n : N}, TV G n → (∀ a ∈ n.foot, ∀ o, G a o → G' a o) → TV G' n
  | _, .tok p q, h => .tok (h _ (by simp [N.foot]) _ p) (h _ (by simp [N.foot]) _ q)
  | _, .tree p q r i k, h => .tree (h _ (by simp [N.foot]) _ p) (h _ (by simp [N.foot]) _ q) (h _ (by simp [N.foot]) _ r) i (TVs.on k fun a ha => h a (by simp [N.foot, ha]))
theorem TVs.on {G G' : View} : ∀ {n : List N}, TVs G n → (∀ a ∈ N.feet n, ∀ o, G a o → G' a o) → TVs G' n
  | _, .nil, _ => .nil
  | _, .cons a b, h => .cons (TV.on a fun x hx => h x (by simp [N.feet, hx])) (TVs.on b fun x hx => h x (by simp [N.feet, hx]))
end
theorem feet_mem {n : N} {x : Addr} : ∀ {ks : List N}, n ∈ ks → x ∈ n.foot → x ∈ N.feet ks
  | _ :: _, .head _, h => by simp [N.feet, h]
  | _ :: _, .tail _ m, h => by simp [N.feet, feet_mem m h]
theorem openL_length (names : List Str) : ∀ ks : List N, (openL names ks).length ≤ Row.sizes (N.rows ks)
  | [] => Nat.zero_le _
  | k :: ks => by
    have ih := openL_length names ks
    have hk : (if openK names k then k.kids else [k]).length ≤ k.row.size := by
      split
      · cases k with
        | tok => simp [N.kids]
        | tree a da l nm kk =>
          have := len_sizes (N.rows kk); rw [rows_length] at this
          simp only [N.kids, N.row, Row.size]; omega
      · cases k <;> simp [N.row, Row.size]
    show (List.flatMap _ (k :: ks)).length ≤ k.row.size + Row.sizes (N.rows ks)
    rw [List.flatMap_cons, List.length_append]
    exact Nat.add_le_add hk ih
theorem sizes_drop : ∀ (rs : List Row) (k : Nat), Row.sizes (rs.drop k) ≤ Row.sizes rs
  | [], k => by simp
  | r :: rs, 0 => Nat.le_refl _
  | r :: rs, k + 1 => by have := sizes_drop rs k; simp only [List.drop_succ_cons, Row.sizes]; omega
theorem splice_eq (P : List N) (k : N) (R Q : List N) (j : Nat) (hj : (P.map N.val).length = j) :
    (List.map N.val ((P ++ [k]) ++ R)).toArray.extract 0 j ++ (Q.map N.val).toArray ++ (List.map N.val ((P ++ [k]) ++ R)).toArray.extract (j + 1) (List.map N.val ((P ++ [k]) ++ R)).toArray.size = (List.map N.val (P ++ (Q ++ R))).toArray := by
  subst hj
  apply Array.toList_inj.mp
  simp [List.take_append_of_le_length, List.drop_append]
  rw [List.drop_of_length_le (by simp), List.nil_append, List.take_of_length_le (by simp; omega)]
section
local macro_rules | `(tactic| tm_at "w pyIter ref") => `(tactic| refine stop_here ?_)
local macro_rules | `(tactic| tm_at "w subscriptTail") => `(tactic| ((with_reducible show wpAny _ _ (subscriptTail _ _ (Value.ref _) (Value.int _ _)) _ _ _); refine stop_here ?_))
local macro_rules | `(tactic| tm_at "w compareOp In str ref") => `(tactic| ((with_reducible show wpAny _ _ (compareOp CmpOp.In (Value.str _ _) (Value.ref _)) _ _ _); refine stop_here ?_))
theorem exp_spec {w : World} {p : Program} {loose : List Str} {mean : ExcName → Option Value} {mg mb : Str → Option Value} (names : List Str) (vs : List Value) (a da l : Addr) (nm : Str) (kids : List N) (A : Around) (base : Heap) (fr : List Env) (s : Shared) (E : Value → Shared → Prop)
    (hpk : ∀ oc od fd osl, (hd.heap_39 w.params).lookup 125 = some ⟨oc, od, .func fd, osl⟩ → ∃ g, peek1 (hd.heap_39 w.params) ⟨PySem.Challenge.rw_fi0013_01.row.prog, w.params⟩ (bindArgs fd ⟨.ref a :: vs, []⟩) = some ({ cls := .type "tuple", data := .seq vs.toArray }, g) ∧ ∀ D, g D = (some [(("self" : Str), Value.ref a), ("data_values", .ref D)] : Option (List (Str × Value))))
    (hvs : StrsAre vs names)
    (H : Amb w p loose mean mg mb A base fr s.heap) (XB : (hd.heap_39 w.params).In base) (TB : Top p loose mean mg mb base) (hlb : base.get? l = none) (hlf : l ∉ fr.filterMap (·.frame)) (hv' : TV (hv s.heap) (.tree a da l nm kids)) (hnd : (N.tree a da l nm kids).foot.Nodup)
    (hz : (N.tree a da l nm kids).row.size ≤ 10000) (hd' : A.depth + 10 < recursionLimit) (hu' : A.units + 400 < cLine) :
    wpAny (model PySem.Challenge.rw_fi0013_01.row.prog w) A (call (.ref 125) (.ref a :: vs)) (fun x s' => Opq (∃ h' tk n', s' = { s with heap := h', toks := tk } ∧ (∀ b o, b ≠ l → s.heap.get? b = some o → h'.get? b = some o) ∧
      h'.get? l = some (W.listOf ((openL names kids).map N.val).toArray n') ∧ x = .bool (kids.any (openK names)))) E s := by
  obtain ⟨X, T, B, hh⟩ := id H
  revert X; k_fill; intro X
  obtain ⟨h1, h2, h3, k1, k2, k3, t1, its, ep, ho, hod, hl, hits, hks⟩ := hv'.inv
  refine wpAny_call ?_
  (with_unfolding_all k_dflt refine' (enterP (o := { cls := .type "tuple", data := .seq vs.toArray }) (r := fun D => [("self", .ref a), ("data_values", .ref D)]) ?k0 ?k1 ?k2 ?k3 ?k4 ?kf ?k6 ?_ ?c2 ?c3 ?c4 ?c5))
  case k0 => assumption
  case k1 => k_is
  case k2 => k_is
  case k3 => omega
  case k4 => exact hpk
  case kf => exact rfl
  case k6 => exact fun _ => locs rfl
  case c2 => exact rfl
  case c3 => exact rfl
  case c4 => exact rfl
  case c5 => decide
  intro L' D h₁ F₀ N₀ lD
  have hnf := hnd
  simp only [N.foot, List.nodup_cons, List.mem_cons, not_or] at hnf
  have hal : a ≠ l := hnf.1.2.1
  have hdal : da ≠ l := hnf.2.1.1
  have hlkids : l ∉ N.feet kids := hnf.2.2.1
  have hll : l < s.heap.objs.size := Heap.lt_size hl
  have hLl : l ≠ L' := Nat.ne_of_lt (Nat.lt_of_lt_of_le hll F₀.above)
  have F' : Fr (hideAll s.heap [l]) L' h₁ _ := ⟨F₀.ns, fun b o e => F₀.keep _ _ (hide1_of e), by rw [hideAll_size]; exact F₀.above⟩
  have N' : News (hideAll s.heap [l]) L' h₁ [(D, { cls := .type "tuple", data := .seq vs.toArray }), (l, W.listOf its ep)] := by
    intro q hq
    simp only [List.mem_cons, List.not_mem_nil, or_false] at hq
    rcases hq with rfl | rfl
    · refine ⟨(N₀ _ (.head _)).1, (N₀ _ (.head _)).2.1, ?_⟩
      cases e : (hideAll s.heap [l]).get? D with
      | none => rfl
      | some o => have := hide1_of e; rw [(N₀ _ (.head _)).2.2] at this; cases this
    · exact ⟨F₀.keep _ _ hl, hLl, hide1_none⟩
  have bs : base.StaysIn (hideAll s.heap [l]) := fun b o e => hide1_get (B.stays b o e) (fun q => by rw [q, hlb] at e; cases e)
  have Xg := XB.keeps bs
  have Tg := TB.keeps bs
  have Bg : Below A base fr (hideAll s.heap [l]) := ⟨B.stack, bs, funFrames_hideAll B.frames fun env he b hb hf => by
    obtain rfl := List.mem_singleton.mp hb
    exact hlf (List.mem_filterMap.mpr ⟨env, he, hf⟩)⟩
  have I : InstAt (hideAll s.heap [l]) a (instObj 149 da) 149 (some _) := ⟨hide1_get ho hal, rfl, rfl, hide1_get hod hdal⟩
  have hksg : TVs (hv (hideAll s.heap [l])) kids := hks.on fun x hx o e => hide1_get e (fun q => hlkids (q ▸ hx))
  clear X T B H F₀ N₀
  obtain rfl : its = (kids.map N.val).toArray := by rw [← hits]
  have hsz : (kids.map N.val).toArray.size = kids.length := by simp
  have hkl : kids.length ≤ 10000 := by
    have h2 := len_sizes (N.rows kids); rw [rows_length] at h2
    simp only [N.row, Row.size] at hz; omega
  revert Xg; k_fill; intro Xg
  (try dsimp only); (try k_fold)
  k_steps
  refine ⟨?_⟩
  rename IsRange _ _ _ _ _ _ _ _ => hR
  rename Fr _ _ _ _ => F₂
  rename News _ _ _ _ => N₂
  obtain ⟨hrs, hrm⟩ := range_down kids.length (by omega)
  refine wpAny_pyIter_range hR hrm ?_
  rw [hrs]
  rename_i h₂ tk₂ _ _ _ _
  have hIL : (L' : Nat) < h₂.objs.size := ltN F₂.ns.lt
  have hIl : (l : Nat) < h₂.objs.size := ltN (Heap.lt_size (N₂ _ (.tail _ (.head _))).1)
  have hID : (D : Nat) < h₂.objs.size := ltN (Heap.lt_size (N₂ _ (.head _)).1)
  generalize hI : h₂.objs.size = I at *
  have hits0 : (h₂.push { cls := .type "range_iterator", data := .fields #[rawInt ((kids.length : Int) - 1), rawInt (kids.length : Int), rawInt (-1)] }).get? I = some { cls := .type "range_iterator", data := .fields #[rawInt ((kids.length : Int) - 1), rawInt (kids.length : Int), rawInt (-1)] } := by rw [← hI]; exact Heap.get?_push_size _ rfl
  have hszs : s.heap.objs.size < I := Nat.lt_of_le_of_lt (by have := F₂.above; rw [hideAll_size] at this; exact this) hIL
  have hIn : (hideAll s.heap [l]).get? I = none := by
    cases e : (hideAll s.heap [l]).get? I with
    | none => rfl
    | some o => exact absurd (Heap.lt_size (hide1_of e)) (Nat.lt_asymm hszs)
  refine for_growW (n := kids.length) (cn := "range_iterator") (news := [(D, { cls := .type "tuple", data := .seq vs.toArray }), (l, W.listOf (List.map N.val kids).toArray ep)])
    (fun j m₁ news₁ => m₁ "self" = some (.ref a) ∧ m₁ "data_values" = some (.ref D) ∧ m₁ "changed" = some (.bool ((kids.drop (kids.length - j)).any (openK names))) ∧
      ∃ n', news₁ = [(D, { cls := .type "tuple", data := .seq vs.toArray }), (l, W.listOf ((kids.take (kids.length - j) ++ openL names (kids.drop (kids.length - j))).map N.val).toArray n')])
    (Walks.range (by exact hh) I ((kids.length : Int) - 1) (-1) kids.length) ?_ (fun i h st => ⟨_, st, rfl⟩) (fun h => Nat.ne_of_lt hIL (List.mem_singleton.mp h)) hIn ?_ ?_ (F₂.push _) (fun q hq => ⟨Heap.get?_push_of_some _ (N₂ q hq).1, (N₂ q hq).2⟩) ?_ ?_ ?_
  · show IsRangeIter _ _ _ _ _
    simpa using hits0
  · intro q hq
    simp only [List.mem_cons, List.not_mem_nil, or_false] at hq
    rcases hq with rfl | rfl
    · exact Nat.ne_of_lt hID
    · exact Nat.ne_of_lt hIl
  · rintro i m n ⟨_, _, _, n', rfl⟩ q hq
    simp only [List.mem_cons, List.not_mem_nil, or_false] at hq
    rcases hq with rfl | rfl <;> simp [W.listOf]
  · refine ⟨rfl, rfl, by show some (Value.bool false) = _; simp, ep, ?_⟩
    simp [openL]
  · rintro i v m₁ news₁ h tk own hin ⟨tv, rfl⟩ ⟨hs1, hs2, hs3, n', rfl⟩ hown F₃ N₃
    rw [upd_self hs3, upd_self hs2, upd_self hs1] at F₃
    have hx : ((kids.length : Int) - 1 + (i : Int) * -1) = ((kids.length - 1 - i : Nat) : Int) := by omega
    rw [hx] at F₃
    have hownI : ∀ q ∈ own, q.1 = I := fun q hq => (hown q hq).elim (fun e => e.1) fun e => by simpa using e.2
    clear hown
    k_steps
    obtain ⟨k, hk⟩ : ∃ k, kids[kids.length - 1 - i]? = some k := ⟨kids[kids.length - 1 - i], by simp⟩
    have hl3 := N₃.isList (List.mem_append_right _ (.tail _ (.head _)))
    refine ⟨?_⟩
    refine tail_any hl3.typeIs slot_list_getitem.lookup (wpAny_getItem_list hl3 (by omega) (by omega) (x := k.val) ?_ ?_) (by with_unfolding_all rfl)
    · rw [Int.toNat_natCast]
      simp only [List.getElem?_toArray, List.map_append]
      rw [List.getElem?_append_left (by simp; omega), List.getElem?_map, List.getElem?_take, if_pos (by omega), hk]
      rfl
    have hkv := hksg.get (List.mem_of_getElem? hk)
    have hdr : kids.drop (kids.length - (i + 1)) = k :: kids.drop (kids.length - i) := by
      have e1 : kids.length - (i + 1) = kids.length - 1 - i := by omega
      have e2 : kids.length - i = kids.length - 1 - i + 1 := by omega
      rw [e1, e2]
      obtain ⟨hlt, e3⟩ := List.getElem?_eq_some_iff.mp hk
      rw [List.drop_eq_getElem_cons hlt, e3]
    have htk : kids.take (kids.length - i) = kids.take (kids.length - (i + 1)) ++ [k] := by
      have e1 : kids.length - (i + 1) = kids.length - 1 - i := by omega
      have e2 : kids.length - i = kids.length - 1 - i + 1 := by omega
      rw [e1, e2, take_succ_get hk]
    cases k with
    | tok ak dak ty vk =>
      obtain ⟨da', od', I'⟩ := hkv.inst
      have I' : InstAt (hideAll s.heap [l]) ak (instObj 52 da') 52 (some od') := I'
      show wpAny _ _ (storeName _ _ (.ref ak)) _ _ _
      k_steps
      rename Fr _ _ _ _ => F₄
      rename News _ _ _ _ => N₄
      refine GrowEnd.intro F₄ N₄ (nx := [(D, _), (l, _)]) (fun q hq => List.mem_append_right _ hq) (fun q hq => List.mem_append_left _ hq) ⟨rfl, rfl, ?_, n', ?_⟩
      · show some (Value.bool _) = some (Value.bool _)
        rw [hdr, List.any_cons]; rfl
      · rw [hdr, htk, openL, openL, List.flatMap_cons, List.append_assoc]; rfl
    | tree ak dak lk nmk kk =>
      obtain ⟨_, _, _, _, _, _, _, itk, epk, hok, hodk, hlk, hitk, hkk⟩ := hkv.inv
      have Ik : InstAt (hideAll s.heap [l]) ak (instObj 149 dak) 149 (some _) := ⟨hok, rfl, rfl, hodk⟩
      have Lk : (hideAll s.heap [l]).IsList lk (kk.map N.val).toArray := ⟨_, hlk, rfl, _, by rw [← hitk]⟩
      show wpAny _ _ (storeName _ _ (.ref ak)) _ _ _
      k_steps
      rename Fr _ _ _ _ => F₄
      rename News _ _ _ _ => N₄
      refine ⟨?_⟩
      refine in_tuple_strs (ys := names) (items := vs.toArray) ⟨_, (N₄ _ (List.mem_append_right _ (.head _))).1, rfl, _, rfl⟩ (by simpa using hvs) ?_
      cases hin : (names.any fun y => y == nmk) with
      | false =>
        k_steps
        rename Fr _ _ _ _ => F₄
        rename News _ _ _ _ => N₄
        refine GrowEnd.intro F₄ N₄ (nx := [(D, _), (l, _)]) (fun q hq => List.mem_append_right _ hq) (fun q hq => List.mem_append_left _ hq) ⟨rfl, rfl, ?_, n', ?_⟩
        · show some (Value.bool _) = some (Value.bool _)
          rw [hdr, List.any_cons]
          show some (Value.bool _) = some (Value.bool ((names.any fun y => y == nmk) || _))
          rw [hin]; rfl
        · rw [hdr, htk, openL, openL, List.flatMap_cons, List.append_assoc]
          rw [if_neg (show ¬ openK names (N.tree ak dak lk nmk kk) = true by rw [Bool.not_eq_true]; exact hin)]
      | true =>
        k_steps
        rename Fr _ _ _ _ => F₄
        rename News _ _ _ _ => N₄
        have hlm : (l, W.listOf (List.map N.val (kids.take (kids.length - i) ++ openL names (kids.drop (kids.length - i)))).toArray n') ∈ own ++ [(D, ({ cls := .type "tuple", data := .seq vs.toArray } : Obj)), (l, W.listOf (List.map N.val (kids.take (kids.length - i) ++ openL names (kids.drop (kids.length - i)))).toArray n')] := List.mem_append_right _ (.tail _ (.head _))
        have hne : l ≠ lk := fun q => hlkids (by
          have : lk ∈ (N.tree ak dak lk nmk kk).foot := by simp [N.foot]
          rw [q]; exact feet_mem (List.mem_of_getElem? hk) this)
        refine setItem_slice (Heap.get?_push_of_some _ (N₄ _ hlm).1) ((F₄.lst Lk).at fun o e => Heap.get?_push_of_some _ e) (Heap.IsSliceOf.new ..) (.int _ _) (.int _ _) ?_ hne ?_ fun h₇ n₇ hs₇ ho₇ => ?_
        · simp; omega
        · have e1 := openL_length names (kids.drop (kids.length - i))
          have e2 := sizes_drop (N.rows kids) (kids.length - i)
          have e3 : N.rows (kids.drop (kids.length - i)) = (N.rows kids).drop (kids.length - i) := by rw [rows_eq, rows_eq, List.map_drop]
          rw [e3] at e1
          have e4 := size_mem (List.mem_of_getElem? (rows_get hk))
          have e5 := len_sizes (N.rows kk)
          rw [rows_length] at e5
          simp only [N.row, Row.size] at hz e4
          rw [sizeLine_eq]
          simp only [List.size_toArray, List.length_map, List.length_append, List.length_take]
          omega
        have hnI : ∀ q ∈ own, q.1 ≠ l := fun q hq e => Nat.ne_of_lt hIl ((hownI q hq) ▸ e.symm)
        have hDl : D ≠ l := fun e => by
          have := (N₄ _ (List.mem_append_right own (.head _))).1
          rw [e, (N₄ _ hlm).1] at this
          simp [W.listOf] at this
        have F₇ : Fr (hideAll s.heap [l]) L' h₇ _ := ⟨(F₄.push { cls := .type "slice", data := .fields #[_, _, .none] }).ns.sameBut hs₇ (Ne.symm hLl), fun b o e => (hs₇.2 b (fun q => by rw [q, hide1_none] at e; cases e)).trans ((F₄.push _).keep b o e), F₄.above⟩
        have hnew : (List.map N.val (kids.take (kids.length - i) ++ openL names (kids.drop (kids.length - i)))).toArray.extract 0 (kids.length - 1 - i) ++ (kk.map N.val).toArray ++ (List.map N.val (kids.take (kids.length - i) ++ openL names (kids.drop (kids.length - i)))).toArray.extract (kids.length - 1 - i + 1) (List.map N.val (kids.take (kids.length - i) ++ openL names (kids.drop (kids.length - i)))).toArray.size =
            (List.map N.val (kids.take (kids.length - (i + 1)) ++ openL names (kids.drop (kids.length - (i + 1))))).toArray := by
          rw [hdr, htk]
          have ej : kids.length - (i + 1) = kids.length - 1 - i := by omega
          have eo : openL names (N.tree ak dak lk nmk kk :: kids.drop (kids.length - i)) = kk ++ openL names (kids.drop (kids.length - i)) := by
            rw [openL, openL, List.flatMap_cons, if_pos (show openK names (N.tree ak dak lk nmk kk) = true from hin)]; rfl
          rw [eo, ej]
          exact splice_eq _ _ _ _ _ (by rw [List.length_map, List.length_take]; omega)
        rw [hnew] at ho₇
        have N₇ : News (hideAll s.heap [l]) L' h₇ (own ++ [(D, ({ cls := .type "tuple", data := .seq vs.toArray } : Obj)), (l, W.listOf (List.map N.val (kids.take (kids.length - (i + 1)) ++ openL names (kids.drop (kids.length - (i + 1))))).toArray n₇)]) := by
          intro q hq
          rcases List.mem_append.mp hq with hq | hq
          · have := N₄ q (List.mem_append_left _ hq)
            exact ⟨(hs₇.2 _ (hnI q hq)).trans (Heap.get?_push_of_some _ this.1), this.2⟩
          · simp only [List.mem_cons, List.not_mem_nil, or_false] at hq
            rcases hq with rfl | rfl
            · have := N₄ _ (List.mem_append_right own (.head _))
              exact ⟨(hs₇.2 _ hDl).trans (Heap.get?_push_of_some _ this.1), this.2⟩
            · exact ⟨ho₇, (N₄ _ hlm).2⟩
        clear F₄ N₄ hlm
        k_steps
        rename Fr _ _ _ _ => F₈
        rename News _ _ _ _ => N₈
        refine GrowEnd.intro F₈ N₈ (nx := [(D, _), (l, _)]) (fun q hq => List.mem_append_right _ hq) (fun q hq => List.mem_append_left _ hq) ⟨rfl, rfl, ?_, n₇, rfl⟩
        show some (Value.bool _) = some (Value.bool _)
        rw [hdr, List.any_cons]
        show some (Value.bool _) = some (Value.bool ((names.any fun y => y == nmk) || _))
        rw [hin]; rfl
  · rintro m₁ news₁ h tk ⟨hs1, hs2, hs3, n', rfl⟩ F₃ N₃
    rw [upd_self hs3, upd_self hs2, upd_self hs1] at F₃
    k_steps
    show Opq _
    refine ⟨_, _, n', rfl, fun b o hb e => F₃.keep b o (hide1_get e hb), ?_, by simp⟩
    have := (N₃ _ (.tail _ (.head _))).1
    simpa using this
end
end Mine
end
/-! part V3 -/
section
open PySem PySem.W PyProof.Rows PySem.Spec PySem.Calls
set_option maxRecDepth 100000
set_option maxHeartbeats 4000000
namespace Mine
theorem fn_case {w : World} {f : Addr} {Goal : FuncData → Prop} {name qual : Str} {params : Arguments} {body : List Stmt} {scope : Scope} {dV kV doc pm cdv ct oc : Value} {an od : Option Addr} {osl : Array (Option Value)}
    (ho : (hd.heap_39 w.params).lookup f = some ⟨oc, od, .func (fnOf name qual params body scope dV kV doc pm an cdv ct), osl⟩) (h : Goal (fnOf name qual params body scope dV kV doc pm an cdv ct)) :
    ∀ oc od fd osl, (hd.heap_39 w.params).lookup f = some ⟨oc, od, .func fd, osl⟩ → Goal fd := by
  intro oc' od' fd' osl' hl
  rw [ho] at hl
  cases hl
  exact h
theorem exp1 {w : World} {p : Program} {loose : List Str} {mean : ExcName → Option Value} {mg mb : Str → Option Value} (x : Str) (tx : Tok) (a da l : Addr) (nm : Str) (kids : List N) (A : Around) (base : Heap) (fr : List Env) (s : Shared) (E : Value → Shared → Prop)
    (H : Amb w p loose mean mg mb A base fr s.heap) (XB : (hd.heap_39 w.params).In base) (TB : Top p loose mean mg mb base) (hlb : base.get? l = none) (hlf : l ∉ fr.filterMap (·.frame)) (hv' : TV (hv s.heap) (.tree a da l nm kids)) (hnd : (N.tree a da l nm kids).foot.Nodup)
    (hz : (N.tree a da l nm kids).row.size ≤ 10000) (hd' : A.depth + 10 < recursionLimit) (hu' : A.units + 400 < cLine) :
    wpAny (model PySem.Challenge.rw_fi0013_01.row.prog w) A (call (.ref 125) [.ref a, .str x tx]) (fun v s' => Opq (∃ h' tk n', s' = { s with heap := h', toks := tk } ∧ (∀ b o, b ≠ l → s.heap.get? b = some o → h'.get? b = some o) ∧
      h'.get? l = some (W.listOf ((openL [x] kids).map N.val).toArray n') ∧ v = .bool (kids.any (openK [x])))) E s := by
  refine exp_spec [x] [.str x tx] a da l nm kids A base fr s E ?_ (.cons _ _ .nil) H XB TB hlb hlf hv' hnd hz hd' hu'
  obtain ⟨X, _, _, _⟩ := id H
  revert X; k_fill; intro X
  (with_unfolding_all k_dflt refine' (fn_case ?e ?h))
  case e => k_is
  case h => exact ⟨_, rfl, fun _ => rfl⟩
theorem exp2 {w : World} {p : Program} {loose : List Str} {mean : ExcName → Option Value} {mg mb : Str → Option Value} (x y : Str) (tx ty : Tok) (a da l : Addr) (nm : Str) (kids : List N) (A : Around) (base : Heap) (fr : List Env) (s : Shared) (E : Value → Shared → Prop)
    (H : Amb w p loose mean mg mb A base fr s.heap) (XB : (hd.heap_39 w.params).In base) (TB : Top p loose mean mg mb base) (hlb : base.get? l = none) (hlf : l ∉ fr.filterMap (·.frame)) (hv' : TV (hv s.heap) (.tree a da l nm kids)) (hnd : (N.tree a da l nm kids).foot.Nodup)
    (hz : (N.tree a da l nm kids).row.size ≤ 10000) (hd' : A.depth + 10 < recursionLimit) (hu' : A.units + 400 < cLine) :
    wpAny (model PySem.Challenge.rw_fi0013_01.row.prog w) A (call (.ref 125) [.ref a, .str x tx, .str y ty]) (fun v s' => Opq (∃ h' tk n', s' = { s with heap := h', toks := tk } ∧ (∀ b o, b ≠ l → s.heap.get? b = some o → h'.get? b = some o) ∧
      h'.get? l = some (W.listOf ((openL [x, y] kids).map N.val).toArray n') ∧ v = .bool (kids.any (openK [x, y])))) E s := by
  refine exp_spec [x, y] [.str x tx, .str y ty] a da l nm kids A base fr s E ?_ (.cons _ _ (.cons _ _ .nil)) H XB TB hlb hlf hv' hnd hz hd' hu'
  obtain ⟨X, _, _, _⟩ := id H
  revert X; k_fill; intro X
  (with_unfolding_all k_dflt refine' (fn_case ?e ?h))
  case e => k_is
  case h => exact ⟨_, rfl, fun _ => rfl⟩
end Mine
end
/-! part S1 -/
section
open PySem PySem.W PyProof.Rows PySem.Spec PySem.Calls
set_option maxRecDepth 100000
set_option maxHeartbeats 1000000
namespace Mine
section
variable {M : Model} {A : Around} {R : GenEnd} {Y : Protocol} {n : Nat} {s₀ : Shared} {c : Code} {fs : List Frame} {s : Shared} {env : Env}
  {K : Flow → Sem PySem.Fin} {H : Value → Sem PySem.Fin} {gd : Bool → Bool} {lv : List Value → List Value}
theorem holding_wrap {α β : Type} (vs : List Value) (m : Sem α) (f : α → Sem β) : ∃ lv', (holding vs m).wrap f .raise id id = m.wrap f .raise id lv' := by
  unfold holding
  split
  · exact ⟨id, rfl⟩
  · exact ⟨_, by rw [Sem.keep_eq_wrap, Sem.wrap_wrap]; rfl⟩
/-- what stands behind a loop's own call -/
def loopRet (env : Env) (K : Flow → Sem PySem.Fin) (H : Value → Sem PySem.Fin) (gd : Bool → Bool) (lv : List Value → List Value) (r : Result) : Sem PySem.Fin :=
  ((match r with | .ok f => (.pure f : Sem Flow) | .error e => .raise e).onRaise fun (x : Value) => do
        if (← field x 1) == Value.none then unsupported "frame.own-activation:exception-without-traceback"
        setFlight x env.frame).wrap K H gd lv
theorem seg_For {target iter : Expr} {body orelse : List Stmt} {pos : Pos} (hs : ∀ x, foldedSetIterable iter env x = pure x)
    (h : wpAny M (A.over c fs) (eval iter env) (fun x s₁ => wpAny M (A.over c fs) (pyIter x) (fun it s₂ => ∀ p lv',
        Seg M A R Y n s₀ (.forLoop target it body orelse env) (M.den (.forLoop target it body orelse env)) (.ret (loopRet env K H gd lv') none (gd false) (lv' []) c p [] :: fs) s₂)
        (fun x s' => Seg M A R Y n s₀ c (H x) fs s') s₁) (fun x s' => Seg M A R Y n s₀ c (H x) fs s') s) :
    Seg M A R Y n s₀ c ((exec (.For target iter body orelse pos) env).wrap K H gd lv) fs s := by
  rw [exec_For]
  show Seg M A R Y n s₀ c (.at pos fun _ => ((eval iter env >>= fun v => foldedSetIterable iter env v >>= fun x => standAt iter.pos >>= fun _ =>
    holding [x] (pyIter x) >>= fun it => runOwn (.forLoop target it body orelse env) env)).wrap K H gd lv) fs s
  refine seg_at ?_
  rw [Sem.bind_eq_wrap', Sem.wrap_wrap]
  refine seg_wrap (wpAny_mono h (fun x s₁ h₁ => ?_) fun _ _ e => e)
  rw [hs x]
  show Seg M A R Y n s₀ c (.at iter.pos fun _ => (holding [x] (pyIter x) >>= fun it => runOwn (.forLoop target it body orelse env) env).wrap K H gd lv) fs s₁
  refine seg_at ?_
  obtain ⟨lv', e⟩ := holding_wrap [x] (pyIter x) (fun it => runOwn (.forLoop target it body orelse env) env)
  rw [Sem.bind_eq_wrap', e, Sem.wrap_wrap]
  refine seg_wrap (wpAny_mono h₁ (fun it s₂ h₂ => ?_) fun _ _ e => e)
  exact seg_call fun p => h₂ p lv
end
section
variable {prog : Program} {w : World} {A : Around} {R : GenEnd} {Y : Protocol} {n : Nat} {s₀ : Shared} {fs : List Frame} {s : Shared} {env : Env}
def loopEnd (target : Expr) (it : Value) (body orelse : List Stmt) (env : Env) (f : Flow) : Sem PySem.Fin := match f with
  | .next => .pure (.again (.forLoop target it body orelse env))
  | .cont => .pure (.again (.forLoop target it body orelse env))
  | .brk => .pure (.done .next)
  | .ret v => .pure (.done (.ret v))
theorem seg_forLoop {target : Expr} {it : Value} {body orelse : List Stmt} (ht : ∀ v, letOwnedTupleGo target it v = pure ())
    (h : wpAny (model prog w) (A.over (.forLoop target it body orelse env) fs) (pyNext it) (fun r s₁ => match r with
      | none => Seg (model prog w) A R Y n s₀ (.block orelse env) ((model prog w).den (.block orelse env)) fs s₁
      | some v => wpAny (model prog w) (A.over (.forLoop target it body orelse env) fs) (assign target env v) (fun _ s₂ =>
          ∀ H', Seg (model prog w) A R Y n s₀ (.forLoop target it body orelse env) ((execs body env).wrap (loopEnd target it body orelse env) H' id id) fs s₂) (fun _ _ => False) s₁) (fun _ _ => False) s) :
    Seg (model prog w) A R Y n s₀ (.forLoop target it body orelse env) ((model prog w).den (.forLoop target it body orelse env)) fs s := by
  show Seg _ A R Y n s₀ _ ((forTurn target it body orelse env).onRaise (fun x => do noteFrame x env; theTreesLotGoes x)) fs s
  rw [Sem.onRaise_eq_wrap]
  unfold forTurn
  show Seg _ A R Y n s₀ _ (.at target.pos fun _ => ((pyNext it).onRaise (fun _ => standAt { target.pos with line := 0 }) >>= fun r => match r with
    | none => again (.block orelse env)
    | some v => letOwnedTupleGo target it v >>= fun _ => assign target env v >>= fun _ => execs body env >>= fun f => match f with
      | .next | .cont => again (.forLoop target it body orelse env)
      | .brk => pure (.done .next)
      | .ret v => pure (.done (.ret v))).wrap .pure _ id id) fs s
  refine seg_at ?_
  rw [Sem.bind_eq_wrap', Sem.onRaise_eq_wrap, Sem.wrap_wrap, Sem.wrap_wrap]
  refine seg_wrap (wpAny_mono h (fun r s₁ h₁ => ?_) fun _ _ e => e.elim)
  cases r with
  | none => exact seg_again rfl h₁
  | some v =>
    show Seg _ A R Y n s₀ _ ((letOwnedTupleGo target it v >>= fun _ => assign target env v >>= fun _ => execs body env >>= fun f => match f with
      | .next | .cont => again (.forLoop target it body orelse env)
      | .brk => pure (.done .next)
      | .ret v => pure (.done (.ret v))).wrap .pure _ id id) fs s₁
    rw [ht v]
    show Seg _ A R Y n s₀ _ ((assign target env v >>= fun _ => execs body env >>= fun f => match f with
      | .next | .cont => again (.forLoop target it body orelse env)
      | .brk => pure (.done .next)
      | .ret v => pure (.done (.ret v))).wrap .pure _ id id) fs s₁
    rw [Sem.bind_eq_wrap', Sem.wrap_wrap]
    refine seg_wrap (wpAny_mono h₁ (fun _ s₂ h₂ => ?_) fun _ _ e => e.elim)
    rw [Sem.bind_eq_wrap', Sem.wrap_wrap, Sem.wrap_congr (execs body env) _ _ (K' := loopEnd target it body orelse env) (H' := _) (fun f => by cases f <;> rfl) (fun e => rfl)]
    exact h₂ _
theorem seg_block_nil {p₁ : Pos} {c₁ : Code} {k : Result → Sem PySem.Fin} {g : Bool} {l : List Value}
    (h : Seg (model prog w) A R Y n s₀ c₁ (k (.ok .next)) fs s) :
    Seg (model prog w) A R Y n s₀ (.block [] env) ((model prog w).den (.block [] env)) (.ret k none g l c₁ p₁ [] :: fs) s := by
  show Seg _ A R Y n s₀ _ (leafOf (.ok .next)) (.ret k none g l c₁ p₁ [] :: fs) s
  exact seg_leaf (.ok .next) h
theorem loopRet_next {K : Flow → Sem PySem.Fin} {H : Value → Sem PySem.Fin} {gd : Bool → Bool} {lv : List Value → List Value} : loopRet env K H gd lv (.ok .next) = K .next := rfl
end
section
variable {M : Model} {A : Around} {R : GenEnd} {Y : Protocol} {n : Nat} {s₀ : Shared} {c : Code} {fs : List Frame} {s : Shared} {env : Env}
  {K : Flow → Sem PySem.Fin} {H : Value → Sem PySem.Fin} {gd : Bool → Bool} {lv : List Value → List Value}
theorem seg_If {test : Expr} {body orelse : List Stmt} {pos : Pos}
    (h : wpAny M (A.over c fs) (isTrue test env (eval test env)) (fun b s' =>
      if b = true then Seg M A R Y n s₀ c ((execs body env).wrap K H gd lv) fs s' else Seg M A R Y n s₀ c ((execs orelse env).wrap K H gd lv) fs s') (fun _ _ => False) s) :
    Seg M A R Y n s₀ c ((exec (.If test body orelse pos) env).wrap K H gd lv) fs s := by
  rw [exec_If]
  show Seg M A R Y n s₀ c (.at pos fun _ => (isTrue test env (eval test env) >>= fun b => if b = true then execs body env else execs orelse env).wrap K H gd lv) fs s
  refine seg_at ?_
  rw [Sem.bind_eq_wrap', Sem.wrap_wrap]
  refine seg_wrap (wpAny_mono h (fun b s' hb => ?_) fun _ _ e => e.elim)
  cases b with
  | true => rw [if_pos rfl] at hb ⊢; exact hb
  | false => rw [if_neg Bool.false_ne_true] at hb ⊢; exact hb
end
end Mine
end
/-! part S2 -/
section
open PySem PySem.W PyProof.Rows PySem.Spec PySem.Calls
set_option maxRecDepth 100000
set_option maxHeartbeats 1000000
namespace Mine
/-! ## what a generator's step may do, and what may happen while it sleeps -/
def stepCls (o : Obj) : Prop := o.cls = .type "frame" ∨ o.cls = .type "list_iterator"
def sleepCls (o : Obj) : Prop := o.cls = .type "frame" ∨ o.cls = .type "list_iterator" ∨ o.cls = .type "generator"
structure Gua (N₀ g : Nat) (s s' : Shared) : Prop where
  heap : ∀ b o, s.heap.get? b = some o → (b < N₀ ∨ ¬ stepCls o) → s'.heap.get? b = some o
  gens : ∀ i, i < g → s'.gens[i]? = s.gens[i]?
  drawn : s'.drawn = s.drawn
  os : s'.os = s.os
  toks : s.toks ≤ s'.toks
theorem Gua.refl {N₀ g : Nat} (s : Shared) : Gua N₀ g s s := ⟨fun _ _ e _ => e, fun _ _ => rfl, rfl, rfl, Nat.le_refl _⟩
theorem Gua.trans {N₀ g : Nat} {s s' s'' : Shared} (x : Gua N₀ g s s') (y : Gua N₀ g s' s'') : Gua N₀ g s s'' :=
  ⟨fun b o e h => y.heap b o (x.heap b o e h) h, fun i h => (y.gens i h).trans (x.gens i h), y.drawn.trans x.drawn, y.os.trans x.os, Nat.le_trans x.toks y.toks⟩
theorem Gua.weak {N₀ N₁ g g₁ : Nat} {s s' : Shared} (x : Gua N₁ g₁ s s') (hN : N₀ ≤ N₁) (hg : g ≤ g₁) : Gua N₀ g s s' :=
  ⟨fun b o e h => x.heap b o e (h.imp (fun h => Nat.lt_of_lt_of_le h hN) id), fun i h => x.gens i (Nat.lt_of_lt_of_le h hg), x.drawn, x.os, x.toks⟩
structure Rely (N₀ g : Nat) (hB : Heap) (s s' : Shared) : Prop where
  base : hB.StaysIn s'.heap
  heap : ∀ b o, N₀ ≤ b → s.heap.get? b = some o → sleepCls o → s'.heap.get? b = some o
  gens : ∀ i, g < i → s'.gens[i]? = s.gens[i]?
  gsize : s.gens.size = s'.gens.size
theorem Rely.weak {N₀ N₁ g g₁ : Nat} {hB : Heap} {s s' : Shared} (x : Rely N₀ g hB s s') (hN : N₀ ≤ N₁) (hg : g ≤ g₁) : Rely N₁ g₁ hB s s' :=
  ⟨x.base, fun b o h e c => x.heap b o (Nat.le_trans hN h) e c, fun i h => x.gens i (Nat.lt_of_le_of_lt hg h), x.gsize⟩
/-- how a generator ends, what it hands out -/
def AllFin (g : Nat) (s : Shared) : Prop := ∀ i x, g ≤ i → s.gens[i]? = some x → x = .finished
def gR (N₀ g : Nat) : GenEnd := fun k s r s' => r = .ok (.ret .none) ∧ k = 0 ∧ Gua N₀ (g + 1) s s' ∧ AllFin (g + 1) s'
def gY (N₀ g : Nat) (hB : Heap) (vals : List N) : Protocol := fun k s v s' kap => (∃ t, vals.reverse[k]? = some t ∧ v = t.val) ∧ Gua N₀ (g + 1) s s' ∧ ∀ s'', Rely N₀ g hB s' s'' → kap (.send .none) s''
structure GenAt (prog : Program) (w : World) (A : Around) (a : Addr) (N₀ g : Nat) (hB : Heap) (vals : List N) (n : Nat) (s : Shared) : Prop where
  gen : s.heap.IsGen a g
  above : N₀ ≤ a
  low : hB.objs.size ≤ N₀
  base : hB.StaysIn s.heap
  goes : ∃ gs, s.gens[g]? = some gs ∧ ∀ s', Rely N₀ g hB s s' → gs.Goes (model prog w) A.in1 (gR N₀ g) (gY N₀ g hB vals) n (.send .none) (s'.setGen g .running)
section
variable {prog : Program} {w : World} {A : Around} {E : Value → Shared → Prop} {s : Shared} {a : Addr} {N₀ g n : Nat} {hB : Heap} {vals : List N} {Q : Option Value → Shared → Prop}
theorem GenAt.sleep (G : GenAt prog w A a N₀ g hB vals n s) {s' : Shared} (r : Rely N₀ g hB s s') (hg : s'.gens[g]? = s.gens[g]?) : GenAt prog w A a N₀ g hB vals n s' := by
  obtain ⟨gs, h1, h2⟩ := G.goes
  refine ⟨?_, G.above, G.low, r.base, gs, hg.trans h1, fun s'' r' => h2 s'' ⟨r'.base, fun b o hb e c => r'.heap b o hb (r.heap b o hb e c) c, fun i hi => (r'.gens i hi).trans (r.gens i hi), r.gsize.trans r'.gsize⟩⟩
  obtain ⟨o, nm, qn, ho, hc, hd, hs⟩ := G.gen
  exact ⟨o, nm, qn, r.heap a o G.above ho (.inr (.inr hc)), hc, hd, hs⟩
theorem genAt_next (hh : A.handled = none) (hl : s.heap.NoLimit) (hroom : A.depth < recursionLimit) (G : GenAt prog w A a N₀ g hB vals n s)
    (hY : ∀ m t s', n = m + 1 → vals.reverse[m]? = some t → Gua N₀ g s s' → GenAt prog w A a N₀ g hB vals m s' → Q (some t.val) s')
    (hP : n = 0 → ∀ s', Gua N₀ g s s' → AllFin g s' → Q none s') : wpAny (model prog w) A (pyNext (.ref a)) Q E s := by
  obtain ⟨gs, hgs, hgo⟩ := G.goes
  have hself : Rely N₀ g hB s s := ⟨G.base, fun _ _ _ e _ => e, fun _ _ => rfl, rfl⟩
  refine wpAny_pyNext_gen (P := fun k s₀ s₁ => k = 0 ∧ Gua N₀ (g + 1) s₀ s₁ ∧ AllFin (g + 1) s₁) (Y := gY N₀ g hB vals) (n := n) hh hl hroom G.gen hgs (hgo s hself) (fun v s₁ gs' hy => ?_) (fun s₁ hp h' hk => ?_)
  · obtain ⟨⟨t, ht, rfl⟩, gu, next⟩ := hy
    have hsz : g < s₁.gens.size := by
      have h1 := gu.gens g (Nat.lt_succ_self g)
      rw [setGen_self hgs] at h1
      exact (Array.getElem?_eq_some_iff.mp h1).1
    have gc : Gua N₀ g s (s₁.setGen g gs') := ⟨fun b o e h => gu.heap b o e h, fun i hi => by
        show (s₁.gens.setIfInBounds g gs')[i]? = _
        rw [Array.getElem?_setIfInBounds_ne (Nat.ne_of_gt hi), gu.gens i (Nat.lt_succ_of_lt hi)]
        exact Array.getElem?_setIfInBounds_ne (Nat.ne_of_gt hi), gu.drawn, gu.os, gu.toks⟩
    have bs : hB.StaysIn s₁.heap := fun b o e => gu.heap b o (G.base b o e) (.inl (Nat.lt_of_lt_of_le (Heap.lt_size e) G.low))
    cases n with
    | zero => exact (next s₁ ⟨bs, fun _ _ _ e _ => e, fun _ _ => rfl, rfl⟩).elim
    | succ m =>
      refine hY m t _ rfl ht gc ⟨?_, G.above, G.low, bs, gs', ?_, fun s' r => next _ ⟨r.base, fun b o hb e c => r.heap b o hb e c, fun i hi => ?_, ?_⟩⟩
      · obtain ⟨o, nm, qn, ho, hc, hd, hs⟩ := G.gen
        exact ⟨o, nm, qn, gu.heap a o ho (.inr (by rintro (h | h) <;> (rw [hc] at h; revert h; decide))), hc, hd, hs⟩
      · show (s₁.gens.setIfInBounds g gs')[g]? = _
        rw [Array.getElem?_setIfInBounds_self, if_pos hsz]
      · show (s'.gens.setIfInBounds g _)[i]? = _
        rw [Array.getElem?_setIfInBounds_ne (Nat.ne_of_lt hi), r.gens i hi]
        exact Array.getElem?_setIfInBounds_ne (Nat.ne_of_lt hi)
      · have := r.gsize
        show s₁.gens.size = (s'.gens.setIfInBounds g _).size
        rw [Array.size_setIfInBounds, ← this]
        exact (Array.size_setIfInBounds ..).symm
  · obtain ⟨rfl, gu, af⟩ := hp
    have hsz : g < s₁.gens.size := by
      have h1 := gu.gens g (Nat.lt_succ_self g)
      rw [setGen_self hgs] at h1
      exact (Array.getElem?_eq_some_iff.mp h1).1
    refine hP rfl _ ⟨fun b o e h => hk b o (gu.heap b o e h), fun i hi => ?_, gu.drawn, gu.os, gu.toks⟩ ?_
    · show (s₁.gens.setIfInBounds g _)[i]? = _
      rw [Array.getElem?_setIfInBounds_ne (Nat.ne_of_gt hi), gu.gens i (Nat.lt_succ_of_lt hi)]
      exact Array.getElem?_setIfInBounds_ne (Nat.ne_of_gt hi)
    · intro i x hi e
      have e : (s₁.gens.setIfInBounds g .finished)[i]? = some x := e
      by_cases q : i = g
      · subst q
        rw [Array.getElem?_setIfInBounds_self, if_pos hsz] at e
        exact (Option.some.inj e).symm
      · rw [Array.getElem?_setIfInBounds_ne (fun h => q h.symm)] at e
        exact af i x (Nat.lt_of_le_of_ne hi (fun h => q h.symm)) e
end
theorem over_func (A : Around) (body : List Stmt) (env : Env) : A.over (.func body env) [] = A.deeper env := by
  obtain ⟨a, b, c, d, e⟩ := A
  cases c <;> cases d <;> rfl
theorem over_for1 (A : Around) (body : List Stmt) (env env' : Env) (t : Expr) (it : Value) (b o : List Stmt) (k : Result → Sem PySem.Fin) (g : Bool) (l : List Value) (p : Pos) (kp : List Value) :
    A.over (.forLoop t it b o env') [.ret k none g l (.func body env) p kp] = A.deeper env := by
  obtain ⟨a, b, c, d, e⟩ := A
  cases c <;> cases d <;> rfl
theorem over_for2 (A : Around) (body : List Stmt) (env env' env'' : Env) (t t' : Expr) (it it' : Value) (b b' o o' : List Stmt) (k k' : Result → Sem PySem.Fin) (g g' : Bool) (l l' : List Value) (p p' : Pos) (kp kp' : List Value) :
    A.over (.forLoop t it b o env') [.ret k' none g' l' (.forLoop t' it' b' o' env'') p' kp', .ret k none g l (.func body env) p kp] = A.deeper env := by
  obtain ⟨a, b, c, d, e⟩ := A
  cases c <;> cases d <;> rfl
end Mine
end
/-! part T1 -/
section
open PySem PySem.W PyProof.Rows PySem.Spec PySem.Calls
set_option maxRecDepth 100000
set_option maxHeartbeats 1000000
namespace Mine
/-! ## a store into a frame keeps the frame's class -/
section
variable {M : Model} {A : Around} {E : Value → Shared → Prop} {s : Shared}
def HasCls (h : Heap) (a : Addr) (c : Value) : Prop := ∃ o, h.get? a = some o ∧ o.cls = c
theorem putName_cls (x : Str) (h : Int) (key v : Value) (o : Obj) : (Obj.putName x h key v o).cls = o.cls := by
  rw [Obj.putName_eq]
  obtain ⟨c, d, dt, sl⟩ := o
  unfold Obj.putNameByArray
  cases dt <;> try rfl
  dsimp only
  split <;> rfl
theorem wpAny_nsSetC {a : Addr} {m} {name : Str} {v : Value} {c : Value} {Q : Unit → Shared → Prop} (hn : s.heap.Ns a m) (hc : HasCls s.heap a c)
    (h : ∀ h', h'.Ns a (fun x => if x = name then some v else m x) → Heap.SameBut a s.heap h' → HasCls h' a c → Q () { s with heap := h', toks := s.toks + 1 }) :
    wpAny M A (nsSet a name v) Q E s := by
  intro Γ p _
  have h1 := Sem.wp_nsSet M Γ (fun e _ s' => E e s') p s hn name v (fun _ _ s' => s'.heap.Ns a (fun x => if x = name then some v else m x) ∧ Heap.SameBut a s.heap s'.heap) (fun h' hn hs => ⟨hn, hs⟩)
  obtain ⟨o, es, ep, ho, hd, hk, hm⟩ := hn
  obtain ⟨o', ho', hc'⟩ := hc
  rw [ho] at ho'; cases ho'
  have hany : es.any (·.refKey) = false := by
    rw [Array.any_eq_false']; intro e he; obtain ⟨n, t, h⟩ := hk e he; simp [DictEntry.refKey, h]
  simp only [nsSet, strHash, Sem.wp_bind', Sem.wp_cmd_ask, Sem.wp_pure', Sem.wp_cmd_mkText] at h1 ⊢
  rw [Sem.wp_loadPart_of M Γ _ p { s with toks := s.toks + 1 } (o := o) _ ho] at h1 ⊢
  simp only [hd, aRefKeyMayBeTheName_eq, aRefKeyMayBeTheNameByArray, hany, Bool.and_false, Bool.false_eq_true, if_false, Sem.wp_cmd_updatePart] at h1 ⊢
  obtain ⟨h2, h3, h4⟩ := h1
  exact ⟨h2, h _ h3 h4 ⟨_, Heap.get?_update_self _ ho (by rw [Obj.putName_eq]; obtain ⟨c, d, dt, sl⟩ := o; subst hd; unfold Obj.putNameByArray; dsimp only; split <;> rfl), by rw [putName_cls]; exact hc'⟩⟩
theorem stC {x : Str} {v : Value} {c : Value} {env : Env} {m : Str → Option Value} {Q : Unit → Shared → Prop} (hl : env.kindOf x = some .local) (hn : s.heap.Ns env.locals m) (hc : HasCls s.heap env.locals c)
    (h : ∀ h', h'.Ns env.locals (fun y => if y = x then some v else m y) → Heap.SameBut env.locals s.heap h' → HasCls h' env.locals c → Q () { s with heap := h', toks := s.toks + 1 })
    (hp : (env.scope.kind == .class || (env.scope.kind == .module && env.locals != env.globals)) = false := by rfl) : wpAny M A (storeName env x v) Q E s := by
  rw [storeName_local hl hp]; exact wpAny_nsSetC hn hc h
/-- a new frame with two bound names -/
theorem newEnv2 {scope : Scope} {globals : Addr} {qual : Str} {func : Option Addr} {code : Value} {builtins : Addr} {x₁ x₂ : Str} {v₁ v₂ : Value} {Q : Env → Shared → Prop}
    (hcl : ∀ x ∈ scope.names, x.2 ≠ .cell) (h1 : scope.names.lookup x₁ = some .local) (h2 : scope.names.lookup x₂ = some .local) (hk : scope.kind = .function)
    (hQ : ∀ h', h'.Ns s.heap.objs.size (fun y => [(x₂, v₂), (x₁, v₁)].lookup y) → Heap.SameBut s.heap.objs.size (s.heap.push { cls := .type "frame", data := .dict #[] }) h' → HasCls h' s.heap.objs.size (.type "frame") →
      Q (newEnv scope s.heap.objs.size globals [] qual func code none builtins) { s with heap := h', toks := s.toks + 1 + 1 }) :
    wpAny M A (newFunctionEnv scope globals [] [(x₁, v₁), (x₂, v₂)] qual func code none builtins) Q E s := by
  simp only [newFunctionEnv, Option.isSome_none, Bool.false_eq_true, if_false]
  simp only [newEnv] at hQ
  refine wpAny_bind (wpAny_alloc ?_)
  rw [forIn_yield_id [] (fun x hx c => by
    obtain ⟨name, kind⟩ := x
    have : (kind == NameKind.cell) = false := by simpa using hcl _ hx
    simp only [this, Bool.false_eq_true, if_false])]
  refine wpAny_bind (wpAny_pure (wpAny_bind ?_))
  have kd : ∀ y, scope.names.lookup y = some .local → Env.kindOf { scope, locals := s.heap.objs.size, globals, cells := [], qual, func, code, frame := some s.heap.objs.size, builtins } y = some .local := fun y hy => hy
  have hp : (({ scope, locals := s.heap.objs.size, globals, cells := [], qual, func, code, frame := some s.heap.objs.size, builtins } : Env).scope.kind == .class || (({ scope, locals := s.heap.objs.size, globals, cells := [], qual, func, code, frame := some s.heap.objs.size, builtins } : Env).scope.kind == .module &&
      ({ scope, locals := s.heap.objs.size, globals, cells := [], qual, func, code, frame := some s.heap.objs.size, builtins } : Env).locals != ({ scope, locals := s.heap.objs.size, globals, cells := [], qual, func, code, frame := some s.heap.objs.size, builtins } : Env).globals)) = false := by
    show (scope.kind == .class || (scope.kind == .module && _)) = false
    rw [hk]; rfl
  simp only [List.forIn_cons, List.forIn_nil]
  simp only [storeName_local (kd _ h1) hp, storeName_local (kd _ h2) hp]
  refine wpAny_bind (wpAny_bind (wpAny_nsSetC (Heap.Ns.new s.heap (.type "frame")) ⟨_, Heap.get?_push_size _ rfl, rfl⟩ fun h₁ n₁ b₁ c₁ => wpAny_pure ?_))
  dsimp only
  refine wpAny_bind (wpAny_bind (wpAny_nsSetC n₁ c₁ fun h₂ n₂ b₂ c₂ => wpAny_pure ?_))
  dsimp only
  refine wpAny_pure (wpAny_pure (hQ h₂ ?_ (b₁.trans b₂) c₂))
  refine Eq.mp (congrArg (h₂.Ns s.heap.objs.size) (funext fun y => ?_)) n₂
  simp only [List.lookup]
  by_cases e2 : y = x₂
  · subst e2; simp
  · rw [if_neg e2, show (y == x₂) = false from by simpa using e2]
    by_cases e1 : y = x₁
    · subst e1; simp
    · rw [if_neg e1, show (y == x₁) = false from by simpa using e1]
end
/-! ## the heap below a frame; what stands above it, as a ledger -/
def cutH (h : Heap) (n : Nat) : Heap := ⟨h.objs.extract 0 n, h.life⟩
theorem cut_get {h : Heap} {n b : Nat} {o : Obj} : (cutH h n).get? b = some o ↔ b < n ∧ h.get? b = some o := by
  unfold Heap.get? cutH
  dsimp only
  by_cases hb : b < n
  · rw [show (h.objs.extract 0 n)[b]? = h.objs[b]? by
      rw [Array.getElem?_extract]
      split
      · simp
      · rename_i q
        symm; apply Array.getElem?_eq_none; omega]
    simp [hb]
  · rw [show (h.objs.extract 0 n)[b]? = none by apply Array.getElem?_eq_none; simp; omega]
    simp [hb]
theorem cut_size {h : Heap} {n : Nat} (hn : n ≤ h.objs.size) : (cutH h n).objs.size = n := by simp [cutH]; omega
def restH (h : Heap) (n : Nat) : List (Addr × Obj) := (List.range h.objs.size).filterMap fun a => if n < a then (h.get? a).map fun o => (a, o) else none
theorem mem_rest {h : Heap} {n : Nat} {a : Addr} {o : Obj} : (a, o) ∈ restH h n ↔ n < a ∧ h.get? a = some o := by
  unfold restH
  rw [List.mem_filterMap]
  constructor
  · rintro ⟨b, hb, e⟩
    split at e
    · rename_i hle
      obtain ⟨o', ho', e'⟩ := Option.map_eq_some_iff.mp e
      cases e'; exact ⟨hle, ho'⟩
    · cases e
  · rintro ⟨hle, ho⟩
    exact ⟨a, List.mem_range.mpr (Heap.lt_size ho), by rw [if_pos hle, ho]; rfl⟩
theorem cut_fr {h : Heap} {L : Addr} {m : Str → Option Value} (hns : h.Ns L m) : Fr (cutH h L) L h m ∧ News (cutH h L) L h (restH h L) := by
  refine ⟨⟨hns, fun b o e => (cut_get.mp e).2, Nat.le_of_eq (cut_size (Nat.le_of_lt hns.lt))⟩, ?_⟩
  rintro ⟨a, o⟩ hq
  obtain ⟨hl, ho⟩ := mem_rest.mp hq
  refine ⟨ho, Nat.ne_of_gt hl, ?_⟩
  cases e : (cutH h L).get? a with
  | none => rfl
  | some o' => exact absurd (cut_get.mp e).1 (Nat.lt_asymm hl)
theorem cut_back {h h' : Heap} {L : Addr} {m' : Str → Option Value} {Z : List (Addr × Obj)} (F : Fr (cutH h L) L h' m') (N : News (cutH h L) L h' Z) (hZ : ∀ q ∈ restH h L, q ∈ Z) :
    ∀ b o, b ≠ L → h.get? b = some o → h'.get? b = some o := by
  intro b o hb e
  rcases Nat.lt_trichotomy b L with hl | hl | hl
  · exact F.keep b o (cut_get.mpr ⟨hl, e⟩)
  · exact absurd hl hb
  · exact (N _ (hZ _ (mem_rest.mpr ⟨hl, e⟩))).1
theorem cut_stays {hB h : Heap} {L : Addr} (bs : hB.StaysIn h) (hL : hB.objs.size ≤ L) : hB.StaysIn (cutH h L) := fun b o e => cut_get.mpr ⟨Nat.lt_of_lt_of_le (Heap.lt_size e) hL, bs b o e⟩
end Mine
end
/-! part S3 -/
section
open PySem PySem.W PyProof.Rows PySem.Spec PySem.Calls
set_option maxRecDepth 100000
set_option maxHeartbeats 4000000
namespace Mine
mutual
def N.toks : N → List N
  | .tok a da ty v => [.tok a da ty v]
  | .tree _ _ _ _ ks => N.tokss ks
def N.tokss : List N → List N
  | [] => []
  | k :: ks => k.toks ++ N.tokss ks
end
def bodyOf (fd : FuncData) : List Stmt := match fd.body with
  | .stmts b => b
  | _ => []
/-- what the pred is: a call that changes nothing of what stands -/
def PredOk (prog : Program) (w : World) (hB : Heap) (pf : Addr) (pr : N → Bool) : Prop :=
  ∀ (A : Around) (s : Shared) (E : Value → Shared → Prop) (k : N), A.handled = none → A.depth + 10 < recursionLimit → A.units + 100 < cLine → hB.StaysIn s.heap → TV (hv hB) k → k.isTree = false →
    wpAny (model prog w) A (call (.ref pf) [k.val]) (fun x s' => Keeps s s' ∧ s.toks ≤ s'.toks ∧ x = .bool (pr k)) E s
def ScanGoal (w : World) (hB : Heap) (pf : Addr) (pr : N → Bool) (n : Nat) (fd : FuncData) : Prop :=
  ∀ (t : N), t.row.size < n → t.isTree = true → TV (hv hB) t → ∀ (A : Around) (s : Shared) (N₀ g L : Nat) (m : Str → Option Value), A.handled = none → A.depth + 4 * t.row.hgt + 30 < recursionLimit → A.units + 40 * t.row.hgt + 300 < cLine →
    hB.objs.size ≤ N₀ → N₀ ≤ L → HasCls s.heap L (.type "frame") → hB.StaysIn s.heap → s.heap.Ns L m → m "self" = some t.val → m "pred" = some (.ref pf) → s.gens.size = g + 1 →
    Seg (model PySem.Challenge.rw_fi0013_01.row.prog w) A (gR N₀ g) (gY N₀ g hB (t.toks.filter pr)) (t.toks.filter pr).length s (.func (bodyOf fd) (envOf fd.qualname fd.scope L 132 fd.code)) ((model PySem.Challenge.rw_fi0013_01.row.prog w).den (.func (bodyOf fd) (envOf fd.qualname fd.scope L 132 fd.code))) [] s
def ScanRes (w : World) (hB : Heap) (pr : N → Bool) (t : N) (s : Shared) (x : Value) (s' : Shared) : Prop :=
  ∃ a, x = .ref a ∧ s.heap.objs.size ≤ a ∧ (∀ b o, s.heap.get? b = some o → s'.heap.get? b = some o) ∧ s'.drawn = s.drawn ∧ s'.os = s.os ∧ s.toks ≤ s'.toks ∧ (∃ gs, s'.gens = s.gens.push gs) ∧
    ∀ A' : Around, A'.handled = none → A'.depth + 4 * t.row.hgt + 30 < recursionLimit → A'.units + 40 * t.row.hgt + 301 < cLine →
      GenAt PySem.Challenge.rw_fi0013_01.row.prog w A' a s.heap.objs.size s.gens.size hB (t.toks.filter pr) (t.toks.filter pr).length s'
theorem fn_use {w : World} {f : Addr} {P : FuncData → Prop} {Goal : Prop} {name qual : Str} {params : Arguments} {body : List Stmt} {scope : Scope} {dV kV doc pm cdv ct oc : Value} {an od : Option Addr} {osl : Array (Option Value)}
    (go : ∀ oc od fd osl, (hd.heap_39 w.params).lookup f = some ⟨oc, od, .func fd, osl⟩ → P fd) (ho : (hd.heap_39 w.params).lookup f = some ⟨oc, od, .func (fnOf name qual params body scope dV kV doc pm an cdv ct), osl⟩)
    (h : P (fnOf name qual params body scope dV kV doc pm an cdv ct) → Goal) : Goal := h (go _ _ _ _ ho)
theorem enterG {w : World} {p : Program} {loose : List Str} {mean : ExcName → Option Value} {mg mb : Str → Option Value} {A : Around} {prog : Program} {s : Shared}
    {R : Result → Shared → Prop} {name qual : Str} {params : Arguments} {body : List Stmt} {scope : Scope} {dV kV doc pm cdv ct oc : Value} {an od : Option Addr} {osl : Array (Option Value)} {f : Addr} {args : Args} {x₁ x₂ : Str} {v₁ v₂ : Value}
    (X : (hd.heap_39 w.params).In s.heap) (T : Top p loose mean mg mb s.heap)
    (ho : (hd.heap_39 w.params).lookup f = some ⟨oc, od, .func (fnOf name qual params body scope dV kV doc pm an cdv ct), osl⟩) (hcd : codeIn (hd.heap_39 w.params) cdv qual = true) (hroom : A.depth < recursionLimit)
    (hbind : BindsTo s (fnOf name qual params body scope dV kV doc pm an cdv ct) args [(x₁, v₁), (x₂, v₂)])
    (h1 : scope.names.lookup x₁ = some .local) (h2 : scope.names.lookup x₂ = some .local)
    (h : ∀ h₁ o, h₁.Ns s.heap.objs.size (fun y => [(x₂, v₂), (x₁, v₁)].lookup y) → Heap.SameBut s.heap.objs.size (s.heap.push { cls := .type "frame", data := .dict #[] }) h₁ → HasCls h₁ s.heap.objs.size (.type "frame") →
      o.cls = .type "generator" → (∃ t1 t2, o.data = .fields #[.int s.gens.size 0, .str name t1, .str qual t2]) → o.slots = #[] →
      R (.ok (.ret (.ref h₁.objs.size))) { s with gens := s.gens.push (.fresh (.func body (envOf qual scope s.heap.objs.size f cdv))), toks := s.toks + 1 + 1 + 1 + 1, heap := h₁.push o })
    (hco : scope.isCoroutine = false) (hgen : scope.isGenerator = true) (hk : scope.kind = .function)
    (hcell : ∀ x ∈ scope.names, x.2 ≠ .cell) : codeAny (model prog w) A (.call (.ref f) args) R s := by
  refine codeAny_call_generator hroom (X _ _ ho) rfl hco hgen rfl (codeRec_of X hcd) (hbind _ _ _ _ (newEnv2 hcell h1 h2 hk fun h₁ hns hsb hc => ⟨?_, ?_⟩))
  · exact T.nolimit.fresh _ hsb
  · exact h h₁ _ hns hsb hc rfl ⟨_, _, rfl⟩ rfl
theorem scan_call {w : World} {p : Program} {loose : List Str} {mean : ExcName → Option Value} {mg mb : Str → Option Value} {hB : Heap} {pf : Addr} {pr : N → Bool} {n : Nat} {t : N} {A : Around} {s : Shared} {E : Value → Shared → Prop}
    (X : (hd.heap_39 w.params).In s.heap) (T : Top p loose mean mg mb s.heap)
    (go : ∀ oc od fd osl, (hd.heap_39 w.params).lookup 132 = some ⟨oc, od, .func fd, osl⟩ → ScanGoal w hB pf pr n fd) (hn : t.row.size < n) (ht : t.isTree = true) (tv : TV (hv hB) t)
    (hroom : A.depth < recursionLimit) (bs : hB.StaysIn s.heap) (hsB : hB.objs.size ≤ s.heap.objs.size) :
    wpAny (model PySem.Challenge.rw_fi0013_01.row.prog w) A (call (.ref 132) [t.val, .ref pf]) (fun x s' => Opq (ScanRes w hB pr t s x s')) E s := by
  revert X; k_fill; intro X
  refine wpAny_call ?_
  (with_unfolding_all k_dflt refine' (enterG ?k0 ?kT ?k1 ?k2 ?k3 ?k4 ?k5 ?k6 ?_ ?c2 ?c3 ?c4 ?c5))
  case k0 => exact X
  case kT => exact T
  case k1 => k_is
  case k2 => k_is
  case k3 => exact hroom
  case k4 => exact BindsTo.of_eq rfl
  case k5 => exact rfl
  case k6 => exact rfl
  case c2 => exact rfl
  case c3 => exact rfl
  case c4 => exact rfl
  case c5 => decide
  intro h₁ o hns hsb hcl hoc ⟨t1, t2, hod⟩ hos
  show Opq _
  (with_unfolding_all k_dflt refine' (fn_use go ?e ?h))
  case e => k_is
  case h =>
  intro go'
  have hne : ∀ b o, s.heap.get? b = some o → h₁.get? b = some o := fun b o e => hsb.extBut b o (Nat.ne_of_lt (Heap.lt_size e)) (Heap.get?_push_of_some _ e)
  have hsz : h₁.objs.size = s.heap.objs.size + 1 := hsb.1.trans (Heap.size_push ..)
  have hst : ∀ b o', h₁.get? b = some o' → (h₁.push o).get? b = some o' := fun b o' e => Heap.get?_push_of_some _ e
  have hof : o.isFreed = false := by obtain ⟨c, d, dt, sl⟩ := o; subst hod; rfl
  refine ⟨h₁.objs.size, rfl, by rw [hsz]; exact Nat.le_succ _, fun b o' e => hst b o' (hne b o' e), rfl, rfl, by show _ ≤ s.toks + 1 + 1 + 1 + 1; omega, ⟨_, rfl⟩, fun A' hh hd hu => ?_⟩
  refine ⟨⟨_, _, _, Heap.get?_push_size _ hof, hoc, hod, hos⟩, by rw [hsz]; exact Nat.le_succ _, hsB, fun b o' e => hst b o' (hne b o' (bs b o' e)), _, Array.getElem?_push_size, fun s' r => ⟨rfl, ?_⟩⟩
  have hLs : s'.heap.Ns s.heap.objs.size (fun y => [(("pred" : Str), Value.ref pf), ("self", t.val)].lookup y) := by
    obtain ⟨oL, hoL, hcL⟩ := hcl
    exact (Heap.Ns.at' hns fun o' e => r.heap _ o' (Nat.le_refl _) (hst _ _ e) (by rw [hoL] at e; cases e; exact .inl hcL))
  refine go' t hn ht tv A'.in1 (s'.setGen s.gens.size .running) s.heap.objs.size s.gens.size s.heap.objs.size _ hh hd (by show A'.units + 1 + _ + _ < _; omega) hsB (Nat.le_refl _) ?_ r.base hLs rfl rfl ?_
  · obtain ⟨oL, hoL, hcL⟩ := hcl
    exact ⟨oL, r.heap _ oL (Nat.le_refl _) (hst _ _ hoL) (.inl hcL), hcL⟩
  · show (s'.gens.setIfInBounds _ _).size = _
    rw [Array.size_setIfInBounds, ← r.gsize]
    exact Array.size_push ..
end Mine
end
/-! part S5 -/
section
open PySem PySem.W PyProof.Rows PySem.Spec PySem.Calls
set_option maxRecDepth 100000
set_option maxHeartbeats 4000000
namespace Mine
theorem Gua.step {N₀ g a : Nat} {s : Shared} {h' : Heap} {tk : Nat} (hs : Heap.ExtBut a s.heap h') (ha : N₀ ≤ a) (hc : ∀ o, s.heap.get? a = some o → stepCls o) (htk : s.toks ≤ tk) : Gua N₀ g s { s with heap := h', toks := tk } :=
  ⟨fun b o e h => by
    by_cases q : b = a
    · subst q
      rcases h with h | h
      · exact absurd h (Nat.not_lt.mpr ha)
      · exact absurd (hc o e) h
    · exact hs b o q e, fun _ _ => rfl, rfl, rfl, htk⟩
theorem Gua.keeps {N₀ g : Nat} {s s' : Shared} (k : Keeps s s') (htk : s.toks ≤ s'.toks) : Gua N₀ g s s' := by
  obtain ⟨h', tk, rfl, k⟩ := k
  exact ⟨fun b o e _ => k b o e, fun _ _ => rfl, rfl, rfl, htk⟩
theorem HasCls.at {h h' : Heap} {a : Addr} {c : Value} (x : HasCls h a c) (k : ∀ o, h.get? a = some o → o.cls = c → h'.get? a = some o) : HasCls h' a c := let ⟨o, e, hc⟩ := x; ⟨o, k o e hc, hc⟩
theorem ntokss_append : ∀ (xs ys : List N), N.tokss (xs ++ ys) = N.tokss xs ++ N.tokss ys
  | [], _ => rfl
  | x :: xs, ys => by simp [N.tokss, ntokss_append xs ys]
theorem rely_frame {N₀ g L I l i : Nat} {hB : Heap} {s s' : Shared} {m : Str → Option Value} (r : Rely N₀ g hB s s') (hL : N₀ ≤ L) (hI : N₀ ≤ I) (n : s.heap.Ns L m) (hf : HasCls s.heap L (.type "frame"))
    (hit : s.heap.IsListIter I l i) (hg : g < s.gens.size) : s'.heap.Ns L m ∧ HasCls s'.heap L (.type "frame") ∧ s'.heap.IsListIter I l i ∧ g < s'.gens.size := by
  obtain ⟨oL, hoL, hcL⟩ := id hf
  obtain ⟨oI, hoI, hcI, _⟩ := id hit
  exact ⟨n.at' fun o e => r.heap _ o hL e (by rw [hoL] at e; cases e; exact .inl hcL), ⟨oL, r.heap _ _ hL hoL (.inl hcL), hcL⟩, hit.at fun o e => r.heap _ o hI e (by rw [hoI] at e; cases e; exact .inr (.inl hcI)),
    r.gsize ▸ hg⟩
theorem AllFin.rely {N₀ g : Nat} {hB : Heap} {s s' : Shared} (r : Rely N₀ g hB s s') (af : AllFin (g + 1) s) : AllFin (g + 1) s' := fun j x hj e => af j x hj (by rw [← r.gens j hj]; exact e)
theorem gua_frame {N₁ g₁ g L I l i : Nat} {hB : Heap} {s s' : Shared} {m : Str → Option Value} (r : Gua N₁ g₁ s s') (hb : hB.objs.size ≤ N₁) (hL : L < N₁) (hI : I < N₁) (hgg : g < g₁) (bs : hB.StaysIn s.heap) (n : s.heap.Ns L m) (hf : HasCls s.heap L (.type "frame"))
    (hit : s.heap.IsListIter I l i) (hg : g < s.gens.size) : hB.StaysIn s'.heap ∧ s'.heap.Ns L m ∧ HasCls s'.heap L (.type "frame") ∧ s'.heap.IsListIter I l i ∧ g < s'.gens.size := by
  refine ⟨fun b o e => r.heap b o (bs b o e) (.inl (Nat.lt_of_lt_of_le (Heap.lt_size e) hb)), n.at' fun o e => r.heap _ o e (.inl hL), hf.at fun o e _ => r.heap _ o e (.inl hL), hit.at fun o e => r.heap _ o e (.inl hI), ?_⟩
  have h1 := r.gens g hgg
  rw [Array.getElem?_eq_getElem hg] at h1
  exact (Array.getElem?_eq_some_iff.mp h1).1
theorem push_lt' {α : Type} {xs : Array α} {x : α} {i : Nat} (h : i < xs.size) : (xs.push x)[i]? = xs[i]? := by
  rw [Array.getElem?_push]; split
  · omega
  · rfl
theorem pyIter_genA {prog : Program} {w : World} {A : Around} {E Q : Value → Shared → Prop} {s : Shared} {a : Addr} {N₀ g n d u : Nat} {hB : Heap} {vals : List N}
    (GA : ∀ A' : Around, A'.handled = none → A'.depth + d + 30 < recursionLimit → A'.units + u + 301 < cLine → GenAt prog w A' a N₀ g hB vals n s) (h1 : A.handled = none) (h2 : A.depth + d + 30 < recursionLimit) (h3 : A.units + u + 301 < cLine)
    (h : GenAt prog w A a N₀ g hB vals n s → Q (.ref a) s) : wpAny (model prog w) A (pyIter (.ref a)) Q E s := wpAny_pyIter_gen (GA A h1 h2 h3).gen (h (GA A h1 h2 h3))
local macro_rules | `(tactic| tm_at "w pyIter ref") => `(tactic| refine stop_here ?_)
local macro_rules | `(tactic| tm_at "w call ref") => `(tactic| refine stop_here ?_)
local macro_rules | `(tactic| tm_at "w callWith ref") => `(tactic| first | ((with_reducible show wpAny _ _ (callWith _ (Value.ref _) _ (backTo _ (starEach (_ :: _) _)) []) _ _ _); k_dflt (refine' callWith_K ?k1 ?k2 ?_; (case k1 => k_asm); (case k2 => k_is); k_whole)) | refine stop_here ?_)
theorem scan_go {w : World} {p : Program} {loose : List Str} {mean : ExcName → Option Value} {mg mb : Str → Option Value} {hB : Heap} (X : (hd.heap_39 w.params).In hB) (T : Top p loose mean mg mb hB) {pf : Addr} {pr : N → Bool}
    (PO : PredOk PySem.Challenge.rw_fi0013_01.row.prog w hB pf pr) (PF : FnAt pf hB) : ∀ n, ∀ oc od fd osl, (hd.heap_39 w.params).lookup 132 = some ⟨oc, od, .func fd, osl⟩ → ScanGoal w hB pf pr n fd := by
  have X0 := X
  revert PO X; k_fill; intro X PO
  intro n
  induction n with
  | zero => intro _ _ _ _ _ t h; exact absurd h (Nat.not_lt_zero _)
  | succ n ih =>
    (with_unfolding_all k_dflt refine' (fn_case ?e ?h))
    case e => k_is
    case h =>
      intro t hn ht tv A s N₀ g L m hh hdp hun hN hL hfr hst hns hms hmp hg
      dsimp only [bodyOf]
      have Fr0 : Fr hB L s.heap m := ⟨hns, hst, Nat.le_trans hN hL⟩
      obtain ⟨a, da, l, nm, kids, rfl⟩ : ∃ a da l nm kids, t = .tree a da l nm kids := by
        cases t with
        | tok => cases ht
        | tree => exact ⟨_, _, _, _, _, rfl⟩
      obtain ⟨h1, h2, h3, k1, k2, k3, t1, its, ep, ho, hod, hl, hits, hks⟩ := tv.inv
      have I : InstAt hB a (instObj 149 da) 149 (some _) := ⟨ho, rfl, rfl, hod⟩
      obtain rfl : its = (kids.map N.val).toArray := by rw [← hits]
      have hLst : hB.IsList l (kids.map N.val).toArray := ⟨_, hl, rfl, ep, rfl⟩
      refine seg_func ?_
      show Seg _ _ _ _ _ _ _ ((execs (_ :: []) _).wrap _ _ _ _) _ _
      refine seg_execs_cons ?_
      refine seg_For (fun _ => rfl) ?_
      rw [over_func]
      rw [upd_self hmp, upd_self hms] at Fr0
      (try k_fold)
      k_steps
      refine ⟨?_⟩
      refine wpAny_pyIter_list (Fr0.lst hLst) ?_
      intro p0 lv0
      have hIL := ltN hns.lt
      have hItget : (s.heap.push { cls := .type "list_iterator", data := .fields #[.ref l, .int 0 0] }).get? s.heap.objs.size = some { cls := .type "list_iterator", data := .fields #[.ref l, .int 0 0] } := Heap.get?_push_size _ rfl
      have hIN : N₀ ≤ s.heap.objs.size := Nat.le_of_lt (Nat.lt_of_le_of_lt hL hIL)
      generalize hI : s.heap.objs.size = I at *
      generalize hcd : Code.forLoop _ (Value.ref I) _ _ _ = cd
      generalize hfs : [Frame.ret _ _ _ _ _ _ _] = fs
      have hhg : Row.hgts (N.rows kids) < (N.tree a da l nm kids).row.hgt := by simp [N.row, Row.hgt]
      have loop : ∀ (ks pre : List N), kids = pre ++ ks → ∀ (s₀ s₁ : Shared) (m₁ : Str → Option Value), Gua N₀ (g + 1) s₀ s₁ → hB.StaysIn s₁.heap → s₁.heap.Ns L m₁ → m₁ "self" = some (.ref a) → m₁ "pred" = some (.ref pf) → HasCls s₁.heap L (.type "frame") →
          s₁.heap.IsListIter I l pre.length → g < s₁.gens.size → AllFin (g + 1) s₁ →
          Seg (model PySem.Challenge.rw_fi0013_01.row.prog w) A (gR N₀ g) (gY N₀ g hB ((N.tree a da l nm kids).toks.filter pr)) ((N.tokss ks).filter pr).length s₀ cd ((model PySem.Challenge.rw_fi0013_01.row.prog w).den cd) fs s₁ := by
        intro ks
        induction ks with
        | nil =>
          intro pre hks s₀ s₁ m₁ gu bs₁ n₁ hm1 hm2 hf1 hit hg1 af
          subst hcd
          subst hfs
          refine seg_forLoop (fun _ => rfl) ?_
          rw [over_for1]
          have hl1 := hLst.at fun o e => bs₁ _ o e
          refine wpAny_pyNext_list_end (by exact hh) hit hl1 (by rw [hks]; simp) fun h₂ hs₂ => ?_
          refine seg_block_nil ?_
          refine seg_end (.ok (.ret .none)) ⟨rfl, by simp [N.tokss], gu.trans (Gua.step hs₂ hIN (fun o e => by obtain ⟨o', ho', hc', _⟩ := hit; rw [ho'] at e; cases e; exact .inr hc') (Nat.le_refl _)), af⟩
        | cons k ks ihk =>
          intro pre hks s₀ s₁ m₁ gu bs₁ n₁ hm1 hm2 hf1 hit hg1 af
          have hl1 := hLst.at fun o e => bs₁ _ o e
          have hLI : (L : Nat) ≠ I := Nat.ne_of_lt hIL
          have hlB : ∀ b o, hB.get? b = some o → b ≠ L ∧ b ≠ I := fun b o e => by
            have h1 : (b : Nat) < L := Nat.lt_of_lt_of_le (Heap.lt_size e) (Nat.le_trans hN hL)
            exact ⟨Nat.ne_of_lt h1, Nat.ne_of_lt (Nat.lt_trans h1 hIL)⟩
          have hfsd := hfs
          have hcdd := hcd
          subst hcd
          subst hfs
          refine seg_forLoop (fun _ => rfl) ?_
          rw [over_for1]
          refine wpAny_pyNext_list_item hit hl1 (x := k.val) (by rw [hks]; simp) fun h₂ hit₂ hs₂ => ?_
          have n₂ := n₁.sameBut hs₂ hLI
          have hf₂ : HasCls h₂ L (.type "frame") := hf1.at fun o e _ => hs₂.extBut L o hLI e
          refine wpAny_assign_Name (stC rfl n₂ hf₂ (fun h₃ n₃ b₃ hf₃ => ?_) rfl)
          intro H'
          replace n₃ : h₃.Ns L (fun (y : Str) => if y = "c" then some (Value.ref k.addr) else m₁ y) := n₃
          replace b₃ : Heap.SameBut L h₂ h₃ := b₃
          replace hf₃ : HasCls h₃ L (.type "frame") := hf₃
          have bs₃ : hB.StaysIn h₃ := fun b o e => b₃.extBut b o (hlB b o e).1 (hs₂.extBut b o (hlB b o e).2 (bs₁ b o e))
          have hit₃ : h₃.IsListIter I l (pre.length + 1) := hit₂.at fun o e => b₃.extBut I o (Ne.symm hLI) e
          have gu₃ : Gua N₀ (g + 1) s₀ { s₁ with heap := h₃, toks := s₁.toks + 1 } := gu.trans ((Gua.step (g := g + 1) hs₂.extBut hIN (fun o e => by obtain ⟨o', ho', hc', _⟩ := hit; rw [ho'] at e; cases e; exact .inr hc') (Nat.le_refl _)).trans
            (Gua.step (s := { s₁ with heap := h₂ }) b₃.extBut hL (fun o e => by obtain ⟨o', ho', hc'⟩ := hf₂; rw [show h₂.get? L = some o from e] at ho'; cases ho'; exact .inl hc') (Nat.le_succ _)))
          clear gu hit bs₁ n₁ hf1 hl1 hit₂ n₂ hf₂
          refine seg_execs_cons (seg_If ?_)
          rw [over_for1]
          obtain ⟨F₃, N₃⟩ := cut_fr n₃
          have cs := cut_stays bs₃ (Nat.le_trans hN hL)
          have X₃ := X.keeps cs
          have T₃ := T.keeps cs
          have hZ : ∀ q ∈ restH h₃ L, q ∈ restH h₃ L := fun q hq => hq
          have hback := fun (h' : Heap) (m' : Str → Option Value) (Z : List (Addr × Obj)) => cut_back (h := h₃) (h' := h') (L := L) (m' := m') (Z := Z)
          have hcb := fun b o => cut_get (h := h₃) (n := L) (b := b) (o := o)
          generalize restH h₃ L = Z at N₃ hZ hback
          generalize cutH h₃ L = hC at *
          have hkv : TV (hv hC) k := (TVs.get ‹TVs _ kids› (by rw [hks]; simp)).mono cs
          clear X
          have hm₃ : (fun (y : Str) => if y = "c" then some (Value.ref k.addr) else m₁ y) = (fun (y : Str) => if y = "c" then some (Value.ref k.addr) else if y = "self" then some (.ref a) else if y = "pred" then some (.ref pf) else m₁ y) := by
            funext y; split; rfl; split; (rename_i h; rw [h, hm1]); split; (rename_i h; rw [h, hm2]); rfl
          have F₃ : Fr hC L h₃ (fun (y : Str) => if y = "c" then some (Value.ref k.addr) else if y = "self" then some (.ref a) else if y = "pred" then some (.ref pf) else m₁ y) := hm₃ ▸ F₃
          have PF₃ : FnAt pf h₃ := let ⟨a1, a2, a3, a4, e⟩ := PF; ⟨a1, a2, a3, a4, bs₃ _ _ e⟩
          have hlen : (N.tokss kids).length = 0 → True := fun _ => trivial
          cases k with
          | tok ak dak tyk vk =>
            obtain ⟨da', od', I'⟩ := hkv.inst
            have I' : InstAt hC ak (instObj 52 da') 52 (some od') := I'
            k_steps
            refine seg_execs_cons (seg_If ?_)
            rw [over_for1]
            k_steps
            refine ⟨?_⟩
            refine callWith_F PF₃ ?_ rfl rfl
            k_steps
            · exact PF₃
            refine ⟨?_⟩
            show wpAny _ _ (call (.ref pf) [.ref ak]) _ _ _
            refine wpAny_mono (PO _ _ (fun _ _ => False) (.tok ak dak tyk vk) hh (by show A.depth + 1 + 10 < _; omega) (by show A.units + 3 + 100 < _; omega) bs₃ (TVs.get ‹TVs _ kids› (by rw [hks]; simp)) rfl) (fun x s₄ h₄ => ?_) fun _ _ e => e
            obtain ⟨⟨h₄, tk₄, rfl, hk₄⟩, htk₄, rfl⟩ := h₄
            have gu₄ : Gua N₀ (g + 1) s₀ { s₁ with heap := h₄, toks := tk₄ } := gu₃.trans ⟨fun b o e _ => hk₄ b o e, fun _ _ => rfl, rfl, rfl, Nat.le_trans (Nat.le_succ _) htk₄⟩
            have bs₄ : hB.StaysIn h₄ := fun b o e => hk₄ b o (bs₃ b o e)
            have n₄ := n₃.keeps hk₄
            have hf₄ : HasCls h₄ L (.type "frame") := hf₃.at fun o e _ => hk₄ _ o e
            have hit₄ : h₄.IsListIter I l (pre.length + 1) := hit₃.at fun o e => hk₄ _ o e
            refine wpAny_truthy_bool ?_
            cases hpr : pr (.tok ak dak tyk vk) with
            | false =>
              rw [if_neg (by decide)]
              refine seg_again rfl ?_
              have e : ((N.tokss (N.tok ak dak tyk vk :: ks)).filter pr).length = ((N.tokss ks).filter pr).length := by simp [N.tokss, N.toks, hpr]
              rw [e]
              exact ihk (pre ++ [N.tok ak dak tyk vk]) (hks.trans (by simp)) s₀ _ _ gu₄ bs₄ n₄ hm1 hm2 hf₄ (by simpa using hit₄) hg1 af
            | true =>
              rw [if_pos rfl]
              have e : ((N.tokss (N.tok ak dak tyk vk :: ks)).filter pr).length = ((N.tokss ks).filter pr).length + 1 := by simp [N.tokss, N.toks, hpr]
              rw [e]
              refine seg_execs_cons (seg_Expr_Yield rfl rfl rfl ?_ rfl rfl)
              rw [over_for1]
              refine wpAny_Name (wpAny_loadName_local rfl rfl n₄ rfl ?_) rfl
              intro kap hkap
              refine ⟨⟨.tok ak dak tyk vk, ?_, rfl⟩, gu₄, fun s₅ r => hkap .none s₅ ?_⟩
              · rw [show (N.tree a da l nm kids).toks = N.tokss kids from rfl, hks, ntokss_append]
                simp [N.tokss, N.toks, hpr]
              · obtain ⟨hr1, hr2, hr3, hr4⟩ := rely_frame r hL hIN n₄ hf₄ hit₄ hg1
                refine seg_again rfl ?_
                exact ihk (pre ++ [N.tok ak dak tyk vk]) (hks.trans (by simp)) s₅ s₅ _ (Gua.refl _) r.base hr1 hm1 hm2 hr2 (by simpa using hr3) hr4 (af.rely r)
          | tree ak dak lk nmk kk =>
            obtain ⟨_, _, _, _, _, _, _, itk, epk, hok, hodk, hlk, hitk, hkk⟩ := hkv.inv
            have Ik : InstAt hC ak (instObj 149 dak) 149 (some _) := ⟨hok, rfl, rfl, hodk⟩
            k_steps
            refine seg_execs_cons (seg_For (fun _ => rfl) ?_)
            rw [over_for1]
            k_steps
            refine ⟨?_⟩
            have tvk : TV (hv hB) (.tree ak dak lk nmk kk) := TVs.get ‹TVs _ kids› (by rw [hks]; simp)
            have hks1 : (N.tree ak dak lk nmk kk).row.size < n := by
              have h1 := size_mem (show (N.tree ak dak lk nmk kk).row ∈ N.rows kids by rw [rows_eq]; exact List.mem_map_of_mem (by rw [hks]; simp))
              simp only [N.row, Row.size] at h1 hn ⊢; omega
            have hkh : (N.tree ak dak lk nmk kk).row.hgt + 1 ≤ (N.tree a da l nm kids).row.hgt := by
              have h1 := hgt_mem (show (N.tree ak dak lk nmk kk).row ∈ N.rows kids by rw [rows_eq]; exact List.mem_map_of_mem (by rw [hks]; simp))
              simp only [N.row, Row.hgt] at h1 hhg ⊢; omega
            have hLs : (L : Nat) < h₃.objs.size := n₃.lt
            refine wpAny_mono (scan_call (X0.keeps bs₃) (T.keeps bs₃) ih hks1 rfl tvk (by show A.depth + 1 < _; omega) bs₃ (Nat.le_of_lt (Nat.lt_of_le_of_lt (Nat.le_trans hN hL) hLs))) (fun x s₅ h₅ => ?_) fun _ _ e => e
            obtain ⟨ag, rfl, hag, hk₅, hdr, hos, htk, ⟨gs, hgs⟩, GA⟩ := h₅
            refine pyIter_genA GA hh (by show A.depth + 1 + _ + _ < _; omega) (by show A.units + 3 + _ + _ < _; omega) fun GA₅ => ?_
            intro p1 lv1
            clear GA
            have bs₅ : hB.StaysIn s₅.heap := fun b o e => hk₅ b o (bs₃ b o e)
            have n₅ := n₃.keeps hk₅
            have hf₅ : HasCls s₅.heap L (.type "frame") := hf₃.at fun o e _ => hk₅ _ o e
            have hit₅ : s₅.heap.IsListIter I l (pre.length + 1) := hit₃.at fun o e => hk₅ _ o e
            have gu₅ : Gua N₀ (g + 1) s₀ s₅ := gu₃.trans ⟨fun b o e _ => hk₅ b o e, fun i hi => by rw [hgs]; exact push_lt' (Nat.lt_of_lt_of_le hi hg1), hdr, hos, Nat.le_trans (Nat.le_refl _) htk⟩
            have hNN : N₀ ≤ h₃.objs.size := Nat.le_of_lt (Nat.lt_of_le_of_lt hL hLs)
            have hIs : (I : Nat) < h₃.objs.size := let ⟨_, e, _⟩ := hit₃; Heap.lt_size e
            have hg5 : g < s₅.gens.size := by rw [hgs, Array.size_push]; exact Nat.lt_succ_of_lt hg1
            have af₅ : ∀ i x, g + 1 ≤ i → i < s₁.gens.size → s₅.gens[i]? = some x → x = .finished := fun i x h1 h2 e => af i x h1 (by rw [hgs] at e; rwa [push_lt' h2] at e)
            dsimp only at GA₅
            generalize hN1 : h₃.objs.size = N₁ at *
            generalize hg1' : s₁.gens.size = g₁ at *
            clear hk₅ hgs htk hos hdr gu₃ bs₃ n₃ hf₃ hit₃ af F₃ N₃ hback hcb T₃ X₃ cs hkv hok hodk hlk Ik
            generalize hcd2 : Code.forLoop _ (Value.ref ag) _ _ _ = cd2
            generalize hfs2 : (Frame.ret _ _ _ _ _ _ _ :: [Frame.ret _ _ _ _ _ _ _]) = fs2
            have hvl : ((N.tokss (N.tree ak dak lk nmk kk :: ks)).filter pr).length = ((N.tree ak dak lk nmk kk).toks.filter pr).length + ((N.tokss ks).filter pr).length := by
              simp [N.tokss]
            rw [hvl]
            revert GA₅
            generalize hAe : A.deeper (envOf _ _ _ _ _) = Ae
            intro GA₅
            have inner : ∀ (j : Nat), ∀ (s₆ s₇ : Shared) (m₇ : Str → Option Value), Gua N₀ (g + 1) s₆ s₇ → hB.StaysIn s₇.heap → s₇.heap.Ns L m₇ → m₇ "self" = some (.ref a) → m₇ "pred" = some (.ref pf) → HasCls s₇.heap L (.type "frame") →
                s₇.heap.IsListIter I l (pre.length + 1) → g < s₇.gens.size → (∀ i x, g + 1 ≤ i → i < g₁ → s₇.gens[i]? = some x → x = .finished) →
                GenAt PySem.Challenge.rw_fi0013_01.row.prog w Ae ag N₁ g₁ hB ((N.tree ak dak lk nmk kk).toks.filter pr) j s₇ →
                Seg (model PySem.Challenge.rw_fi0013_01.row.prog w) A (gR N₀ g) (gY N₀ g hB ((N.tree a da l nm kids).toks.filter pr)) (j + ((N.tokss ks).filter pr).length) s₆ cd2 ((model PySem.Challenge.rw_fi0013_01.row.prog w).den cd2) fs2 s₇ := by
              intro j
              induction j with
              | zero =>
                intro s₆ s₇ m₇ gu₇ bs₇ n₇ hm1 hm2 hf₇ hit₇ hg₇ af₇ GA₇
                subst hcd2
                subst hfs2
                refine seg_forLoop (fun _ => rfl) ?_
                rw [over_for2, hAe]
                refine genAt_next (by rw [← hAe]; exact hh) (T.nolimit.keeps bs₇) (by rw [← hAe]; show A.depth + 1 < _; omega) GA₇ (fun m t s' hj => nomatch hj) fun _ s₈ gu₈ af₈ => ?_
                obtain ⟨bs₈, n₈, hf₈, hit₈, hg₈⟩ := gua_frame gu₈ (Nat.le_trans hN hNN) hLs hIs hg1 bs₇ n₇ hf₇ hit₇ hg₇
                refine seg_block_nil ?_
                refine seg_again rfl ?_
                rw [Nat.zero_add]
                refine ihk (pre ++ [N.tree ak dak lk nmk kk]) (hks.trans (by simp)) s₆ s₈ _ (gu₇.trans (gu₈.weak hNN hg1)) bs₈ n₈ hm1 hm2 hf₈ (by simpa using hit₈) hg₈ fun i x hi e => ?_
                by_cases q : i < g₁
                · exact af₇ i x hi q (by rw [← gu₈.gens i q]; exact e)
                · exact af₈ i x (Nat.le_of_not_lt q) e
              | succ j ihj =>
                intro s₆ s₇ m₇ gu₇ bs₇ n₇ hm1 hm2 hf₇ hit₇ hg₇ af₇ GA₇
                subst hcd2
                subst hfs2
                refine seg_forLoop (fun _ => rfl) ?_
                rw [over_for2, hAe]
                refine genAt_next (by rw [← hAe]; exact hh) (T.nolimit.keeps bs₇) (by rw [← hAe]; show A.depth + 1 < _; omega) GA₇ (fun m t s₈ hj ht gu₈ GA₈ => ?_) fun hj => nomatch hj
                obtain rfl : j = m := Nat.succ.inj hj
                obtain ⟨bs₈, n₈, hf₈, hit₈, hg₈⟩ := gua_frame gu₈ (Nat.le_trans hN hNN) hLs hIs hg1 bs₇ n₇ hf₇ hit₇ hg₇
                show wpAny _ _ (assign _ _ (.ref t.addr)) _ _ _
                refine wpAny_assign_Name (stC rfl n₈ hf₈ (fun h₉ n₉ b₉ hf₉ => ?_) rfl)
                intro H''
                replace n₉ : h₉.Ns L (fun (y : Str) => if y = "t" then some (Value.ref t.addr) else m₇ y) := n₉
                replace b₉ : Heap.SameBut L s₈.heap h₉ := b₉
                replace hf₉ : HasCls h₉ L (.type "frame") := hf₉
                have bs₉ : hB.StaysIn h₉ := fun b o e => b₉.extBut b o (hlB b o e).1 (bs₈ b o e)
                have hit₉ : h₉.IsListIter I l (pre.length + 1) := hit₈.at fun o e => b₉.extBut I o (Ne.symm hLI) e
                have GA₉ := GA₈.sleep (s' := { s₈ with heap := h₉, toks := s₈.toks + 1 }) ⟨bs₉, fun b o hb e _ => b₉.extBut b o (Nat.ne_of_gt (Nat.lt_of_lt_of_le hLs hb)) e, fun _ _ => rfl, rfl⟩ rfl
                have gu₉ : Gua N₀ (g + 1) s₆ { s₈ with heap := h₉, toks := s₈.toks + 1 } := (gu₇.trans (gu₈.weak hNN hg1)).trans
                  (Gua.step b₉.extBut hL (fun o e => by obtain ⟨o', ho', hc'⟩ := hf₈; rw [show s₈.heap.get? L = some o from e] at ho'; cases ho'; exact .inl hc') (Nat.le_succ _))
                rw [show j + 1 + ((N.tokss ks).filter pr).length = (j + ((N.tokss ks).filter pr).length) + 1 by omega]
                refine seg_execs_cons (seg_Expr_Yield rfl rfl rfl ?_ rfl rfl)
                rw [over_for2]
                refine wpAny_Name (wpAny_loadName_local rfl rfl n₉ rfl ?_) rfl
                intro kap hkap
                refine ⟨⟨t, ?_, rfl⟩, gu₉, fun s' r => hkap .none s' ?_⟩
                · rw [show (N.tree a da l nm kids).toks = N.tokss kids from rfl, hks, ntokss_append]
                  simp only [N.tokss, List.filter_append, List.reverse_append, List.append_assoc]
                  rw [List.getElem?_append_right (by simp)]
                  rw [List.getElem?_append_left (by have := (List.getElem?_eq_some_iff.mp ht).1; simpa using this)]
                  simpa using ht
                · obtain ⟨hr1, hr2, hr3, hr4⟩ := rely_frame r hL hIN n₉ hf₉ hit₉ hg₈
                  refine seg_again rfl ?_
                  exact ihj s' s' _ (Gua.refl _) r.base hr1 hm1 hm2 hr2 hr3 hr4 (fun i x h1 h2 e => af₇ i x h1 h2 (by rw [← gu₈.gens i h2]; rw [r.gens i h1] at e; exact e)) (GA₉.sleep (r.weak hNN (Nat.le_of_lt hg1)) (r.gens g₁ hg1))
            exact inner _ _ _ _ gu₅ bs₅ n₅ hm1 hm2 hf₅ hit₅ hg5 af₅ GA₅
      refine loop kids [] rfl s _ m ?_ ?_ ?_ hms hmp ?_ ?_ ?_ ?_
      · exact ⟨fun b o e _ => Heap.get?_push_of_some _ e, fun _ _ => rfl, rfl, rfl, by dsimp only; omega⟩
      · exact fun b o e => Heap.get?_push_of_some _ (hst b o e)
      · exact hns.keeps fun b o e => Heap.get?_push_of_some _ e
      · exact hfr.at fun o e _ => Heap.get?_push_of_some _ e
      · exact ⟨_, hItget, rfl, rfl⟩
      · show g < s.gens.size; omega
      · intro i x hi e
        have : i < s.gens.size := (Array.getElem?_eq_some_iff.mp e).1
        omega
end Mine
end
/-! part T2 -/
section
open PySem PySem.W PyProof.Rows PySem.Spec PySem.Calls
set_option maxRecDepth 100000
set_option maxHeartbeats 1000000
namespace Mine
section
variable {prog : Program} {w : World} {A : Around} {E : Value → Shared → Prop} {s s₁ : Shared} {env : Env}
/-- a comprehension, its base any state -/
theorem comp1S {elt iter : Expr} {x : Str} {px : Pos} {ifs : List Expr} {scope : Scope} {pos : Pos} {cl : List (Str × Addr)} {Q : Value → Shared → Prop}
    (hclos : closureFor scope env = pure cl) (hpc : ∀ h, pushCells h scope.names = h) (hcf : ∀ n, cellsFrom n scope.names cl = cl)
    (hkind : scope.kind = .function) (hnames : ∀ y ∈ scope.names, y.2 = .local → scope.names.lookup y.1 = some .local) (hx : scope.names.lookup x = some .local)
    (h : wpAny (model prog w) A (eval iter env) (fun xv s₁ => Opq (∃ s₀, CompIn prog w A s₀ env scope cl x ifs elt Q xv s₁)) E s)
    (hs : ∀ x, foldedSetIterable iter env x = pure x := by intro _; rfl) :
    wpAny (model prog w) A (eval (.ListComp elt [⟨.Name x px, iter, ifs, 0⟩] scope pos) env) Q E s := by
  refine comp1L hclos hpc hcf hkind hnames hx (wpAny_mono h (fun xv s₁ h₁ => ?_) fun _ _ e => e) hs
  obtain ⟨s₀, h₁⟩ := h₁
  obtain ⟨hk₁, hsz₁, n, P, src, hn, Inv, hmono, hlen, h0, turn, hfin⟩ := h₁.out
  refine src _ _ fun I s₂ fp St hk₂ hI W hfp hlive hst => ?_
  have hk := keeps_trans hk₁ hk₂
  have hIlt : ∀ b ∈ [I], b < s₂.heap.objs.size := fun b hb => hfp b (W.sub b hb)
  have old2 : ∀ b, b < s₀.heap.objs.size → b ∉ [I] := fun b hb h => by obtain rfl := List.mem_singleton.mp h; exact absurd hb (Nat.not_lt.mpr hI)
  have hs2 : s₀.heap.objs.size ≤ s₂.heap.objs.size := Nat.le_trans hI (Nat.le_of_lt (hIlt I (List.mem_singleton.mpr rfl)))
  have mkK : ∀ s₃, Moved [I] (fun a b => b = a) s₂ s₃ → Keeps s₀ s₃ := by
    intro s₃ hM
    obtain ⟨h', tk, rfl, kk⟩ := hk
    refine ⟨s₃.heap, s₃.toks, ?_, fun b o e => hM.heap b o (old2 b (Heap.lt_size e)) (kk b o e)⟩
    obtain ⟨a1, a2, a3, a4, a5⟩ := s₃
    have e1 := hM.gens; have e2 := hM.drawn; have e3 := hM.os
    dsimp only at e1 e2 e3
    subst e1; subst e2; subst e3; rfl
  refine ⟨I, fp, [I], _, n, P, St, rfl, W, hn, hst, hfp, (fun i s' st b hb => by obtain rfl := List.mem_singleton.mp hb; exact hlive i s' st), Inv, hmono, hlen, hmono _ _ _ _ (fun a o e => ⟨old2 a (Heap.lt_size e), kold hk a o e⟩) h0, ?_, ?_⟩
  · intro C D j v ys s₃ m₃ E' hC hD2 hDlt hj hPv hns hm hM hI'
    obtain ⟨oC, es, ep, hoC, r⟩ := id hns
    have hD1 : s₀.heap.objs.size ≤ D := Nat.le_trans hs2 hD2
    refine turn C (D :: C :: [I]) j v ys s₃ oC m₃ E' (Nat.le_trans hs2 hC) hDlt ?_ hj hPv hoC (fun h e => ⟨oC, es, ep, e, r⟩) hm (mkK s₃ hM) hI'
    · intro b hb
      simp only [List.mem_cons, List.not_mem_nil, or_false] at hb
      rcases hb with rfl | rfl | rfl
      · exact hD1
      · exact Nat.le_trans hs2 hC
      · exact hI
  · intro D C s' ys hD hC _ hl hi hM
    refine hfin D (D :: C :: [I]) s' ys (Nat.le_trans hs2 hD) ?_ hl hi (mkK s' hM)
    intro b hb
    simp only [List.mem_cons, List.not_mem_nil, or_false] at hb
    rcases hb with rfl | rfl | rfl
    · exact Nat.le_trans hs2 hD
    · exact Nat.le_trans hs2 hC
    · exact hI
end
end Mine
end
/-! part L1 -/
section
open PySem PySem.W PyProof.Rows PySem.Spec PySem.Calls
set_option maxRecDepth 100000
set_option maxHeartbeats 1000000
namespace Mine
/-! ## the law's state between its statements -/
def mutL (L : Nat) : List Nat := [L, L + 1, L + 1 + 1, L + 1 + 1 + 1, L + 1 + 1 + 1 + 1, L + 1 + 1 + 1 + 1 + 1, 194]
def gv (hG : Heap) (L : Nat) (h : Heap) : View := fun a o => hG.get? a = none ∧ a ∉ mutL L ∧ h.get? a = some o
theorem gv_hv {hG h : Heap} {L : Nat} : vle (gv hG L h) (hv h) := fun _ _ e => e.2.2
theorem gv_hvx {hG h : Heap} {L : Nat} : vle (gv hG L h) (hvx [L] h) := fun a _ e => ⟨fun q => e.2.1 (by rw [List.mem_singleton.mp q]; exact .head _), e.2.2⟩
def zOf (hG : Heap) (L : Nat) (h : Heap) : List (Addr × Obj) := (List.range h.objs.size).filterMap fun a => if (hG.get? a).isNone && !(mutL L).contains a then (h.get? a).map fun o => (a, o) else none
theorem mem_zOf {hG h : Heap} {L : Nat} {a : Addr} {o : Obj} : (a, o) ∈ zOf hG L h ↔ gv hG L h a o := by
  unfold zOf gv
  rw [List.mem_filterMap]
  constructor
  · rintro ⟨b, hb, e⟩
    split at e
    · rename_i hle
      obtain ⟨o', ho', e'⟩ := Option.map_eq_some_iff.mp e
      cases e'
      simp only [Bool.and_eq_true, Option.isNone_iff_eq_none, Bool.not_eq_true', List.contains_eq_mem, decide_eq_false_iff_not] at hle
      exact ⟨hle.1, hle.2, ho'⟩
    · cases e
  · rintro ⟨h1, h2, ho⟩
    refine ⟨a, List.mem_range.mpr (Heap.lt_size ho), ?_⟩
    rw [if_pos (by simp only [Bool.and_eq_true, Option.isNone_iff_eq_none, Bool.not_eq_true', List.contains_eq_mem, decide_eq_false_iff_not]; exact ⟨h1, h2⟩), ho]; rfl
def CellAt (h : Heap) (c : Addr) (v : Option Value) : Prop := ∃ o, h.get? c = some o ∧ o.data = .cell v
structure LSt (hG : Heap) (L : Nat) (m : Str → Option Value) (vT vN vO vH vA : Option Value) (ps : Array Value) (h : Heap) : Prop where
  F : Fr hG L h m
  tree : CellAt h (L + 1) vT
  names : CellAt h (L + 1 + 1) vN
  told : CellAt h (L + 1 + 1 + 1) vO
  there : CellAt h (L + 1 + 1 + 1 + 1) vH
  again : CellAt h (L + 1 + 1 + 1 + 1 + 1) vA
  tab : h.get? 194 = some (tabObj ps)
  g194 : hG.get? 194 = none
  lt194 : (194 : Nat) < L
section
variable {hG h h' : Heap} {L : Nat} {m m' : Str → Option Value} {vT vN vO vH vA : Option Value} {ps : Array Value} {X : List (Addr × Obj)}
theorem ne_add (L i : Nat) : L + (i + 1) ≠ L := by omega
theorem LSt.l194 (S : LSt hG L m vT vN vO vH vA ps h) : (194 : Nat) ≠ L := Nat.ne_of_lt S.lt194
theorem zne {Z : List (Addr × Obj)} (hZ : ∀ a o, gv hG L h a o ↔ (a, o) ∈ Z) (c : Nat) (hc : c ∈ mutL L) : ∀ p ∈ Z, p.1 ≠ c := fun p hp e => ((hZ p.1 p.2).mpr hp).2.1 (e ▸ hc)
theorem LSt.above {i : Nat} (S : LSt hG L m vT vN vO vH vA ps h) : hG.get? (L + i) = none := Heap.get?_none_of_le (Nat.le_trans S.F.above (Nat.le_add_right _ _))
theorem LSt.news (S : LSt hG L m vT vN vO vH vA ps h) : ∃ o5 o4 o3 o2 o1 Z, o1.data = .cell vT ∧ o2.data = .cell vN ∧ o3.data = .cell vO ∧ o4.data = .cell vH ∧ o5.data = .cell vA ∧
    News hG L h ((L + 1 + 1 + 1 + 1 + 1, o5) :: (L + 1 + 1 + 1 + 1, o4) :: (L + 1 + 1 + 1, o3) :: (L + 1 + 1, o2) :: (L + 1, o1) :: (194, tabObj ps) :: Z) ∧ (∀ a o, gv hG L h a o ↔ (a, o) ∈ Z) := by
  obtain ⟨o1, e1, d1⟩ := S.tree
  obtain ⟨o2, e2, d2⟩ := S.names
  obtain ⟨o3, e3, d3⟩ := S.told
  obtain ⟨o4, e4, d4⟩ := S.there
  obtain ⟨o5, e5, d5⟩ := S.again
  refine ⟨o5, o4, o3, o2, o1, zOf hG L h, d1, d2, d3, d4, d5, ?_, fun a o => mem_zOf.symm⟩
  have ab : ∀ i : Nat, hG.get? (L + i) = none := fun i => S.above
  intro q hq
  simp only [List.mem_cons] at hq
  rcases hq with rfl | rfl | rfl | rfl | rfl | rfl | hq
  · exact ⟨e5, ne_add L 4, ab 5⟩
  · exact ⟨e4, ne_add L 3, ab 4⟩
  · exact ⟨e3, ne_add L 2, ab 3⟩
  · exact ⟨e2, ne_add L 1, ab 2⟩
  · exact ⟨e1, ne_add L 0, ab 1⟩
  · exact ⟨S.tab, S.l194, S.g194⟩
  · obtain ⟨a, o⟩ := q
    have g := mem_zOf.mp hq
    exact ⟨g.2.2, fun e => g.2.1 (by dsimp only at e; rw [e]; exact .head _), g.1⟩
theorem gv_step (N' : News hG L h' X) (hZ : ∀ a o, gv hG L h a o → (a, o) ∈ X) : vle (gv hG L h) (gv hG L h') := fun a o e => ⟨e.1, e.2.1, (N' _ (hZ a o e)).1⟩
theorem gv_keeps (hk : ∀ b o, h.get? b = some o → h'.get? b = some o) : vle (gv hG L h) (gv hG L h') := fun a o e => ⟨e.1, e.2.1, hk _ _ e.2.2⟩
theorem CellAt.keeps {c : Addr} {v : Option Value} (hk : ∀ b o, h.get? b = some o → h'.get? b = some o) : CellAt h c v → CellAt h' c v
  | ⟨o, e, d⟩ => ⟨o, hk _ _ e, d⟩
theorem LSt.keeps (S : LSt hG L m vT vN vO vH vA ps h) (hk : ∀ b o, h.get? b = some o → h'.get? b = some o) : LSt hG L m vT vN vO vH vA ps h' :=
  ⟨S.F.keeps hk, S.tree.keeps hk, S.names.keeps hk, S.told.keeps hk, S.there.keeps hk, S.again.keeps hk, hk _ _ S.tab, S.g194, S.lt194⟩
theorem LSt.mut_some (S : LSt hG L m vT vN vO vH vA ps h) : ∀ a ∈ mutL L, ∃ o, h.get? a = some o := by
  intro a ha
  simp only [mutL, List.mem_cons, List.not_mem_nil, or_false] at ha
  rcases ha with rfl | rfl | rfl | rfl | rfl | rfl | rfl
  · obtain ⟨o, _, _, e, _⟩ := S.F.ns; exact ⟨o, e⟩
  · obtain ⟨o, e, _⟩ := S.tree; exact ⟨o, e⟩
  · obtain ⟨o, e, _⟩ := S.names; exact ⟨o, e⟩
  · obtain ⟨o, e, _⟩ := S.told; exact ⟨o, e⟩
  · obtain ⟨o, e, _⟩ := S.there; exact ⟨o, e⟩
  · obtain ⟨o, e, _⟩ := S.again; exact ⟨o, e⟩
  · exact ⟨_, S.tab⟩
theorem LSt.frv (S : LSt hG L m vT vN vO vH vA ps h) : vle (FrV h h') (gv hG L h') := fun a o e => by
  refine ⟨?_, fun q => ?_, e.2⟩
  · cases q : hG.get? a with
    | none => rfl
    | some o' => have := S.F.keep _ _ q; rw [e.1] at this; cases this
  · obtain ⟨o', e'⟩ := S.mut_some a q
    rw [e.1] at e'; cases e'
theorem LSt.of_news {o1 o2 o3 o4 o5 : Obj} (F : Fr hG L h m) (N : News hG L h X) (h5 : (L + 1 + 1 + 1 + 1 + 1, o5) ∈ X) (h4 : (L + 1 + 1 + 1 + 1, o4) ∈ X) (h3 : (L + 1 + 1 + 1, o3) ∈ X) (h2 : (L + 1 + 1, o2) ∈ X) (h1 : (L + 1, o1) ∈ X)
    (ht : (194, tabObj ps) ∈ X) (d1 : o1.data = .cell vT) (d2 : o2.data = .cell vN) (d3 : o3.data = .cell vO) (d4 : o4.data = .cell vH) (d5 : o5.data = .cell vA) (hlt : (194 : Nat) < L) : LSt hG L m vT vN vO vH vA ps h :=
  ⟨F, ⟨_, N.get h1, d1⟩, ⟨_, N.get h2, d2⟩, ⟨_, N.get h3, d3⟩, ⟨_, N.get h4, d4⟩, ⟨_, N.get h5, d5⟩, N.get ht, (N _ ht).2.2, hlt⟩
theorem LSt.turned {s s' : Shared} (S : LSt hG L m vT vN vO vH vA ps s.heap) (T : Turned [L] s s') : ∃ h' tk, s' = { s with heap := h', toks := tk } ∧ LSt hG L m vT vN vO vH vA ps h' ∧ vle (gv hG L s.heap) (gv hG L h') := by
  obtain ⟨h', tk, rfl, k1, k2⟩ := T
  have hk : ∀ b o, b ≠ L → s.heap.get? b = some o → h'.get? b = some o := fun b o n e => k1 b o e (by simpa using n)
  obtain ⟨o, es, ep, ho, hd, r1, r2⟩ := S.F.ns
  obtain ⟨sl, hsl⟩ := k2 _ _ ho (List.mem_singleton.mpr rfl)
  have ck : ∀ i v, CellAt s.heap (L + (i + 1)) v → CellAt h' (L + (i + 1)) v := fun i v ⟨o, e, d⟩ => ⟨o, hk _ _ (ne_add L i) e, d⟩
  refine ⟨h', tk, rfl, ⟨⟨⟨_, es, ep, hsl, hd, r1, r2⟩, fun b o e => hk b o (Nat.ne_of_lt (Nat.lt_of_lt_of_le (Heap.lt_size e) S.F.above)) (S.F.keep b o e), S.F.above⟩,
    ck 0 _ S.tree, ck 1 _ S.names, ck 2 _ S.told, ck 3 _ S.there, ck 4 _ S.again, hk _ _ S.l194 S.tab, S.g194, S.lt194⟩, fun a o e => ⟨e.1, e.2.1, hk a o (fun q => e.2.1 (by rw [q]; exact .head _)) e.2.2⟩⟩
theorem News.expose {a : Addr} {o : Obj} (g : gv hG L h a o) (N : News hG L h X) : News hG L h ((a, o) :: X) := fun q hq => by
  rcases List.mem_cons.mp hq with rfl | hq
  · exact ⟨g.2.2, fun e => g.2.1 (by dsimp only at e; rw [e]; exact .head _), g.1⟩
  · exact N q hq
end
def lawEnv (fd : FuncData) (L : Nat) : Env := envOfC fd.qualname fd.scope L 197 fd.code
def stmtAt (fd : FuncData) (k : Nat) : Stmt := ((bodyOf fd)[k]?).getD (.Pass default)
/-- the ground of the law -/
structure LG (w : World) (p : Program) (loose : List Str) (mean : ExcName → Option Value) (mg mb : Str → Option Value) (A : Around) (hG : Heap) : Prop where
  X : (hd.heap_39 w.params).In hG
  T : Top p loose mean mg mb hG
  B : Below A hG [] hG
  hh : A.handled = none
  dep : A.depth + 690 < recursionLimit
  uni : A.units + 9800 < cLine
  C : CodeHd hG 196 194
theorem LG.amb {w : World} {p : Program} {loose : List Str} {mean : ExcName → Option Value} {mg mb : Str → Option Value} {A : Around} {hG h : Heap} {L : Nat} {m : Str → Option Value} {env : Env} (G : LG w p loose mean mg mb A hG) (F : Fr hG L h m)
    (hf : env.frame = some L) (hk : env.scope.kind = .function) : Amb w p loose mean mg mb (A.deeper env) hG [env] h :=
  amb_of G.B F G.X G.T (Around.frames_deeper G.B.stack) hf hk G.hh
end Mine
end
/-! part L2 -/
section
open PySem PySem.W PyProof.Rows PySem.Spec PySem.Calls
set_option maxRecDepth 100000
set_option maxHeartbeats 4000000
namespace Mine
section
variable {w : World} {p : Program} {loose : List Str} {mean : ExcName → Option Value} {mg mb : Str → Option Value} {A : Around} {hG : Heap} {L sc : Nat} {m : Str → Option Value} {vs : List Value} {ns : List Int} {s : Shared} {E : Value → Shared → Prop} {Q : Flow → Shared → Prop}
/-- a list of ints, made by the law -/
def IsInts (hG : Heap) (L : Nat) (h : Heap) (l : Addr) (xs : List Int) : Prop := ∃ vs n, gv hG L h l (listOf (vs : List Value).toArray n) ∧ IntsAre vs xs
theorem gv_new {h' : Heap} {X : List (Addr × Obj)} {D : Addr} {o : Obj} (N : News hG L h' X) (hm : (D, o) ∈ X) (h5 : L + 1 + 1 + 1 + 1 + 1 < D) (h4 : 194 < D) : gv hG L h' D o := by
  refine ⟨(N _ hm).2.2, fun q => ?_, (N _ hm).1⟩
  have e := (N _ hm).2.1
  have h5 : (L + 1 + 1 + 1 + 1 + 1 : Nat) < D := h5
  have h4 : (194 : Nat) < D := h4
  simp only [mutL, List.mem_cons, List.not_mem_nil, or_false] at q
  rcases q with q | q | q | q | q | q | q
  · exact e q
  all_goals (have q' : @Eq Nat D _ := q; omega)
theorem st0 (G : LG w p loose mean mg mb A hG) (hsc : m "script" = some (.ref sc)) (hl : hG.IsList sc vs.toArray) (hi : IntsAre vs ns) (hz : ns.length ≤ 63)
    (S : LSt hG L m none none none none none #[] s.heap) : ∀ oc od fd osl, (hd.heap_39 w.params).lookup 197 = some ⟨oc, od, .func fd, osl⟩ → ∀ rest,
    (∀ h' tk' t m', LSt hG L m' none none none none none #[] h' → m' "script" = some (.ref sc) → m' "head" = some (.int (ns.headD 1) t) →
      wpAny (model PySem.Challenge.rw_fi0013_01.row.prog w) (A.deeper (lawEnv fd L)) (execs rest (lawEnv fd L)) Q E { s with heap := h', toks := tk' }) →
    wpAny (model PySem.Challenge.rw_fi0013_01.row.prog w) (A.deeper (lawEnv fd L)) (execs (stmtAt fd 0 :: rest) (lawEnv fd L)) Q E s := by
  obtain ⟨X, T, B, hh, hdp, hun, C⟩ := G
  revert X; k_fill; intro X
  (with_unfolding_all k_dflt refine' (fn_case ?e ?h))
  case e => k_is
  case h =>
  intro rest K
  conv => arg 3; arg 1; arg 1; whnf
  dsimp only [lawEnv] at K ⊢
  obtain ⟨o5, o4, o3, o2, o1, Z, d1, d2, d3, d4, d5, N, hZ⟩ := S.news
  have h194 := S.lt194
  have F := S.F
  rw [upd_self hsc] at F
  clear S
  (try k_fold)
  cases hi with
  | nil =>
    k_steps
    rename Fr _ _ _ _ => F'
    rename News _ _ _ _ => N'
    exact K _ _ _ _ (.of_news F' N' (by k_mem) (by k_mem) (by k_mem) (by k_mem) (by k_mem) (by k_mem) d1 d2 d3 d4 d5 h194) rfl rfl
  | cons n t hi =>
    k_steps
    · rename decide (_ = _) = true => q; simp at q
    · rename Fr _ _ _ _ => F'
      rename News _ _ _ _ => N'
      exact K _ _ _ _ (.of_news F' N' (by k_mem) (by k_mem) (by k_mem) (by k_mem) (by k_mem) (by k_mem) d1 d2 d3 d4 d5 h194) rfl rfl
theorem st1 (G : LG w p loose mean mg mb A hG) (hsc : m "script" = some (.ref sc)) {hd0 : Int} {t0 : Tok} (hhd : m "head" = some (.int hd0 t0)) (hl : hG.IsList sc vs.toArray) (hi : IntsAre vs ns) (hz : ns.length ≤ 63)
    (S : LSt hG L m none none none none none #[] s.heap) : ∀ oc od fd osl, (hd.heap_39 w.params).lookup 197 = some ⟨oc, od, .func fd, osl⟩ → ∀ rest,
    (∀ h' tk' m' ln xs, LSt hG L m' none none none none none #[] h' → m' "head" = some (.int hd0 t0) → m' "numbers" = some (.ref ln) → IsInts hG L h' ln xs → 1 ≤ xs.length → xs.length ≤ 12 →
      wpAny (model PySem.Challenge.rw_fi0013_01.row.prog w) (A.deeper (lawEnv fd L)) (execs rest (lawEnv fd L)) Q E { s with heap := h', toks := tk' }) →
    wpAny (model PySem.Challenge.rw_fi0013_01.row.prog w) (A.deeper (lawEnv fd L)) (execs (stmtAt fd 1 :: rest) (lawEnv fd L)) Q E s := by
  obtain ⟨X, T, B, hh, hdp, hun, C⟩ := G
  revert X; k_fill; intro X
  (with_unfolding_all k_dflt refine' (fn_case ?e ?h))
  case e => k_is
  case h =>
  intro rest K
  conv => arg 3; arg 1; arg 1; whnf
  dsimp only [lawEnv] at K ⊢
  obtain ⟨o5, o4, o3, o2, o1, Z, d1, d2, d3, d4, d5, N, hZ⟩ := S.news
  have h194 := S.lt194
  have F := S.F
  rw [upd_self hsc, upd_self hhd] at F
  clear S
  (try k_fold)
  k_steps
  · rename Fr _ _ _ _ => F'
    rename News _ _ _ _ => N'
    rename (L + 1 + 1 + 1 + 1 + 1 < _ ∧ _) => l1
    rename IntsAre _ (List.take _ _) => hI
    rename List.length _ = min _ _ => hC
    exact K _ _ _ _ _ (.of_news F' N' (by k_mem) (by k_mem) (by k_mem) (by k_mem) (by k_mem) (by k_mem) d1 d2 d3 d4 d5 h194) rfl rfl ⟨_, _, gv_new N' (.head _) l1.1 l1.2.2.2.2.2.1, hI⟩ (by omega) (by omega)
  · rename Fr _ _ _ _ => F'
    rename News _ _ _ _ => N'
    rename (L + 1 + 1 + 1 + 1 + 1 < _ ∧ _) => l1
    exact K _ _ _ _ [0, 3, 7, 4, 0] (.of_news F' N' (by k_mem) (by k_mem) (by k_mem) (by k_mem) (by k_mem) (by k_mem) d1 d2 d3 d4 d5 h194) rfl rfl ⟨_, _, gv_new N' (.head _) l1.1 l1.2.2.2.2.2.1, .cons _ _ (.cons _ _ (.cons _ _ (.cons _ _ (.cons _ _ .nil))))⟩ (by decide) (by decide)
local macro_rules | `(tactic| kmk_nums) => `(tactic| with_reducible exact kmk_all (by l_ints))
theorem st23 (G : LG w p loose mean mg mb A hG) {hd0 : Int} {t0 : Tok} (hhd : m "head" = some (.int hd0 t0)) {ln : Addr} {xs : List Int} (hnm : m "numbers" = some (.ref ln)) (hxs : IsInts hG L s.heap ln xs) (h1 : 1 ≤ xs.length) (h12 : xs.length ≤ 12)
    (S : LSt hG L m none none none none none #[] s.heap) : ∀ oc od fd osl, (hd.heap_39 w.params).lookup 197 = some ⟨oc, od, .func fd, osl⟩ → ∀ rest,
    (∀ h' tk' m' lo ys, LSt hG L m' none none none none none #[] h' → m' "head" = some (.int hd0 t0) → m' "numbers" = some (.ref ln) → m' "others" = some (.ref lo) → IsInts hG L h' ln xs → IsInts hG L h' lo ys → ys.length = xs.length →
      wpAny (model PySem.Challenge.rw_fi0013_01.row.prog w) (A.deeper (lawEnv fd L)) (execs rest (lawEnv fd L)) Q E { s with heap := h', toks := tk' }) →
    wpAny (model PySem.Challenge.rw_fi0013_01.row.prog w) (A.deeper (lawEnv fd L)) (execs (stmtAt fd 2 :: stmtAt fd 3 :: rest) (lawEnv fd L)) Q E s := by
  obtain ⟨X, T, B, hh, hdp, hun, C⟩ := G
  revert X; k_fill; intro X
  (with_unfolding_all k_dflt refine' (fn_case ?e ?h))
  case e => k_is
  case h =>
  intro rest K
  conv => arg 3; arg 1; arg 1; whnf
  conv => arg 3; arg 1; arg 2; arg 1; whnf
  dsimp only [lawEnv] at K ⊢
  obtain ⟨o5, o4, o3, o2, o1, Z, d1, d2, d3, d4, d5, N, hZ⟩ := S.news
  have h194 := S.lt194
  have F := S.F
  rw [upd_self hnm, upd_self hhd] at F
  obtain ⟨vs, n0, gln, hiv⟩ := hxs
  have N := News.expose gln N
  clear S
  (try k_fold)
  k_steps
  rename Fr _ _ _ _ => F'
  rename News _ _ _ _ => N'
  rename (ln < _ ∧ _) => l1
  rename IntsAre (List.set _ _ _) _ => hI
  rename List.length _ = List.length _ => hC
  exact K _ _ _ _ _ (.of_news F' N' (by k_mem) (by k_mem) (by k_mem) (by k_mem) (by k_mem) (by k_mem) d1 d2 d3 d4 d5 h194) rfl rfl rfl ⟨_, _, ⟨gln.1, gln.2.1, (N' _ (.tail _ (.head _))).1⟩, hiv⟩ ⟨_, _, gv_new N' (.head _) l1.2.1 l1.2.2.2.2.2.2.1, hI⟩ hC
end
end Mine
end
/-! part L3 -/
section
open PySem PySem.W PyProof.Rows PySem.Spec PySem.Calls
set_option maxRecDepth 100000
set_option maxHeartbeats 4000000
namespace Mine
section
local macro_rules | `(tactic| tm_at "w assign Tuple") => `(tactic| ((with_reducible show wpAny _ _ (assign (PySem.Expr.Tuple _ _ _) _ (Value.ref _)) _ _ _); k_dflt (refine' unpackN_ ?F ?N ?ht ?hh ?hn ?hs ?_; (case F => k_asm); (case N => k_asm); (case ht => exact News.isTup (by k_asm) (by k_mem)); (case hh => assumption); (case hn => rfl); (case hs => rfl); k_whole); intro _ _ _))
local macro_rules | `(tactic| tm_at "w call ref") => `(tactic| ((with_reducible show wpAny _ _ (call (Value.ref 160) _ _) _ _ _); refine stop_here ?_))
variable {w : World} {p : Program} {loose : List Str} {mean : ExcName → Option Value} {mg mb : Str → Option Value} {A : Around} {hG : Heap} {L : Nat} {m : Str → Option Value} {s : Shared} {E : Value → Shared → Prop} {Q : Flow → Shared → Prop}
theorem IsInts.mono {h h' : Heap} {l : Addr} {xs : List Int} (v : vle (gv hG L h) (gv hG L h')) : IsInts hG L h l xs → IsInts hG L h' l xs
  | ⟨vs, n, g, i⟩ => ⟨vs, n, v _ _ g, i⟩
theorem st4 (G : LG w p loose mean mg mb A hG) {hd0 : Int} {t0 : Tok} (hhd : m "head" = some (.int hd0 t0)) {ln lo : Addr} {xs ys : List Int} (hnm : m "numbers" = some (.ref ln)) (hot : m "others" = some (.ref lo)) (hxs : IsInts hG L s.heap ln xs) (hys : IsInts hG L s.heap lo ys) (h12 : xs.length ≤ 12) (h12' : ys.length ≤ 12)
    (S : LSt hG L m none none none none none #[] s.heap) : ∀ oc od fd osl, (hd.heap_39 w.params).lookup 197 = some ⟨oc, od, .func fd, osl⟩ → ∀ rest,
    (∀ h' tk' m' (t1 t2 : N), LSt hG L m' (some t1.val) none none none none #[] h' → m' "head" = some (.int hd0 t0) → m' "numbers" = some (.ref ln) → m' "others" = some (.ref lo) → m' "other" = some t2.val → IsInts hG L h' ln xs → IsInts hG L h' lo ys →
      TV (gv hG L h') t1 → TV (gv hG L h') t2 → t1.isTree = true → t2.isTree = true → t1.row = planned xs → t2.row = planned ys → t1.foot.Nodup → t2.foot.Nodup → (∀ a ∈ t1.foot, a ∉ t2.foot) →
      wpAny (model PySem.Challenge.rw_fi0013_01.row.prog w) (A.deeper (lawEnv fd L)) (execs rest (lawEnv fd L)) Q E { s with heap := h', toks := tk' }) →
    wpAny (model PySem.Challenge.rw_fi0013_01.row.prog w) (A.deeper (lawEnv fd L)) (execs (stmtAt fd 4 :: rest) (lawEnv fd L)) Q E s := by
  have G0 := G
  obtain ⟨X, T, B, hh, hdp, hun, C⟩ := G
  revert X; k_fill; intro X
  (with_unfolding_all k_dflt refine' (fn_case ?e ?h))
  case e => k_is
  case h =>
  intro rest K
  conv => arg 3; arg 1; arg 1; whnf
  dsimp only [lawEnv] at K ⊢
  obtain ⟨o5, o4, o3, o2, o1, Z, d1, d2, d3, d4, d5, N, hZ⟩ := S.news
  have h194 := S.lt194
  have F := S.F
  rw [upd_self hnm, upd_self hot, upd_self hhd] at F
  (try k_fold)
  k_steps
  refine ⟨?_⟩
  obtain ⟨vs, n0, gln, hiv⟩ := id hxs
  refine wpAny_mono (built_spec _ hG _ _ ln vs xs _ (G0.amb F rfl rfl) ⟨_, gln.2.2, rfl, _, rfl⟩ hiv (by omega) (by show A.depth + 1 + 20 < _; omega) (by show A.units + 3 + 400 < _; omega)) (fun x s₁ h₁ => ?_) fun _ _ e => e
  obtain ⟨⟨h₁, tk₁, rfl, hk₁⟩, t1, rfl, ht1, tv1, hr1, nd1⟩ := h₁
  have F₁ := F.keeps hk₁
  have N₁ := N.grown hk₁
  have S₁ := S.keeps hk₁
  have tv1' := tv1.mono S.frv
  clear F N
  k_steps
  refine ⟨?_⟩
  obtain ⟨vs', n0', glo, hiv'⟩ := id hys
  refine wpAny_mono (built_spec _ hG _ _ lo vs' ys _ (G0.amb F₁ rfl rfl) ⟨_, hk₁ _ _ glo.2.2, rfl, _, rfl⟩ hiv' (by omega) (by show A.depth + 1 + 20 < _; omega) (by show A.units + 3 + 400 < _; omega)) (fun x s₁ h₁ => ?_) fun _ _ e => e
  obtain ⟨⟨h₂, tk₂, rfl, hk₂⟩, t2, rfl, ht2, tv2, hr2, nd2⟩ := h₁
  have S₂ := S₁.keeps hk₂
  have tv2' := tv2.mono S₁.frv
  have v12 : vle (gv hG L h₁) (gv hG L h₂) := gv_keeps hk₂
  have v02 : vle (gv hG L s.heap) (gv hG L h₂) := fun a o e => v12 a o (gv_keeps hk₁ a o e)
  have dj : ∀ a ∈ t1.foot, a ∉ t2.foot := fun a h1 h2 => by
    obtain ⟨o, _, e1⟩ := tv1.foot_mem a h1
    obtain ⟨o', e2, _⟩ := tv2.foot_mem a h2
    rw [show h₁.get? a = none from e2] at e1; cases e1
  have F₂ := F₁.keeps hk₂
  clear N₁ F₁ hZ d1 d2 d3 d4 d5
  obtain ⟨o5, o4, o3, o2, o1, Z, d1, d2, d3, d4, d5, N₂, hZ⟩ := S₂.news
  have z1 := zne hZ (L + 1) (by simp [mutL])
  k_steps
  rename Fr _ _ _ _ => F'
  rename News _ _ _ _ => N'
  have v2' := gv_step N' (fun a o g => by have := (hZ a o).mp g; simp only [List.mem_cons, this, or_true])
  rename PySem.Obj.data _ = PySem.Data.cell (some _) => d1'
  refine K _ _ _ t1 t2 (.of_news F' N' (by k_mem) (by k_mem) (by k_mem) (by k_mem) (by k_mem) (by k_mem) d1' d2 d3 d4 d5 h194) rfl rfl rfl rfl (hxs.mono fun a o g => v2' a o (v02 a o g)) (hys.mono fun a o g => v2' a o (v02 a o g))
    ((tv1'.mono v12).mono v2') (tv2'.mono v2') ht1 ht2 hr1 hr2 nd1 nd2 dj
end
end Mine
end
/-! part L4 -/
section
open PySem PySem.W PyProof.Rows PySem.Spec PySem.Calls
set_option maxRecDepth 100000
set_option maxHeartbeats 4000000
namespace Mine
theorem sizes_app : ∀ a b : List Row, Row.sizes (a ++ b) = Row.sizes a + Row.sizes b
  | [], b => by simp [Row.sizes]
  | r :: rs, b => by simp only [List.cons_append, Row.sizes, sizes_app rs b]; omega
theorem pstep_sizes (st : List Row) (n : Int) : Row.sizes (pstep st n) = Row.sizes st + 1 := by
  unfold pstep
  split
  · simp [sizes_app, Row.sizes, Row.size]
  · rw [sizes_app]
    simp only [Row.sizes, Row.size]
    have := sizes_app (st.take (st.length - cnt n st.length)) (st.drop (st.length - cnt n st.length))
    rw [List.take_append_drop] at this
    omega
theorem planned_size (ns : List Int) : (planned ns).size = ns.length + 1 := by
  have : ∀ (ns : List Int) st, Row.sizes (ns.foldl pstep st) = Row.sizes st + ns.length := by
    intro ns
    induction ns with
    | nil => simp
    | cons n ns ih => intro st; rw [List.foldl_cons, ih, pstep_sizes, List.length_cons]; omega
  simp only [planned, Row.size, this, Row.sizes]; omega
mutual
theorem hgt_size : ∀ r : Row, r.hgt ≤ r.size
  | .tok _ _ => by simp [Row.hgt, Row.size]
  | .tree _ ks => by have := hgts_sizes ks; simp only [Row.hgt, Row.size]; omega
theorem hgts_sizes : ∀ r : List Row, Row.hgts r ≤ Row.sizes r
  | [] => by simp [Row.hgts, Row.sizes]
  | r :: rs => by have h1 := hgt_size r; have h2 := hgts_sizes rs; simp only [Row.hgts, Row.sizes]; omega
end
/-- what stays known of the two trees and their rows -/
structure Fx (G : View) (t1 t2 : N) (rv sv : Addr) : Prop where
  tv1 : TV G t1
  tv2 : TV G t2
  rr : RV G (.ref rv) t1.row
  rs : RV G (.ref sv) t2.row
theorem RV.ref {G : View} {v : Value} {r : Row} (h : RV G v r) : ∃ a, v = .ref a := by cases h <;> exact ⟨_, rfl⟩
theorem Fx.mono {G G' : View} (v : vle G G') {t1 t2 : N} {rv sv : Addr} (x : Fx G t1 t2 rv sv) : Fx G' t1 t2 rv sv := ⟨x.tv1.mono v, x.tv2.mono v, x.rr.mono v, x.rs.mono v⟩
/-- the pure facts -/
structure Pu (xs ys : List Int) (t1 t2 : N) : Prop where
  i1 : t1.isTree = true
  i2 : t2.isTree = true
  r1 : t1.row = planned xs
  r2 : t2.row = planned ys
  n1 : t1.foot.Nodup
  n2 : t2.foot.Nodup
  dj : ∀ a ∈ t1.foot, a ∉ t2.foot
  x1 : 1 ≤ xs.length
  x2 : xs.length ≤ 12
  xy : ys.length = xs.length
section
variable {xs ys : List Int} {t1 t2 : N}
theorem Pu.s1 (P : Pu xs ys t1 t2) : t1.row.size ≤ 13 := by rw [P.r1, planned_size]; have := P.x2; omega
theorem Pu.s2 (P : Pu xs ys t1 t2) : t2.row.size ≤ 13 := by rw [P.r2, planned_size]; have := P.x2; have := P.xy; omega
theorem Pu.h1 (P : Pu xs ys t1 t2) : t1.row.hgt ≤ 13 := Nat.le_trans (hgt_size _) P.s1
theorem Pu.h2 (P : Pu xs ys t1 t2) : t2.row.hgt ≤ 13 := Nat.le_trans (hgt_size _) P.s2
end
section
local macro_rules | `(tactic| tm_at "w assign Tuple") => `(tactic| ((with_reducible show wpAny _ _ (assign (PySem.Expr.Tuple _ _ _) _ (Value.ref _)) _ _ _); k_dflt (refine' unpackN_ ?F ?N ?ht ?hh ?hn ?hs ?_; (case F => k_asm); (case N => k_asm); (case ht => exact News.isTup (by k_asm) (by k_mem)); (case hh => assumption); (case hn => rfl); (case hs => rfl); k_whole); intro _ _ _))
local macro_rules | `(tactic| tm_at "w unpackItems ref") => `(tactic| (k_dflt (refine' unpackItemsN_ ?F ?N ?ht ?hh ?hn ?_; (case F => k_asm); (case N => k_asm); (case ht => exact News.isTup (by k_asm) (by k_mem)); (case hh => assumption); (case hn => rfl); k_whole); intro _ _ _))
local macro_rules | `(tactic| tm_at "w call ref") => `(tactic| ((with_reducible show wpAny _ _ (call (Value.ref 172) _ _) _ _ _); refine stop_here ?_))
variable {w : World} {p : Program} {loose : List Str} {mean : ExcName → Option Value} {mg mb : Str → Option Value} {A : Around} {hG : Heap} {L : Nat} {m : Str → Option Value} {s : Shared} {E : Value → Shared → Prop} {Q : Flow → Shared → Prop}
theorem st5 (G : LG w p loose mean mg mb A hG) {hd0 : Int} {t0 : Tok} (hhd : m "head" = some (.int hd0 t0)) {ln lo : Addr} {xs ys : List Int} (hnm : m "numbers" = some (.ref ln)) (hot : m "others" = some (.ref lo)) (hxs : IsInts hG L s.heap ln xs) (hys : IsInts hG L s.heap lo ys)
    {t1 t2 : N} (hoth : m "other" = some t2.val) (P : Pu xs ys t1 t2) (tv1 : TV (gv hG L s.heap) t1) (tv2 : TV (gv hG L s.heap) t2)
    (S : LSt hG L m (some t1.val) none none none none #[] s.heap) : ∀ oc od fd osl, (hd.heap_39 w.params).lookup 197 = some ⟨oc, od, .func fd, osl⟩ → ∀ rest,
    (∀ h' tk' m' rv sv, LSt hG L m' (some t1.val) none none none none #[] h' → m' "head" = some (.int hd0 t0) → m' "numbers" = some (.ref ln) → m' "others" = some (.ref lo) → m' "other" = some t2.val → m' "row" = some (.ref rv) → m' "second" = some (.ref sv) → IsInts hG L h' ln xs → IsInts hG L h' lo ys →
      Fx (gv hG L h') t1 t2 rv sv →
      wpAny (model PySem.Challenge.rw_fi0013_01.row.prog w) (A.deeper (lawEnv fd L)) (execs rest (lawEnv fd L)) Q E { s with heap := h', toks := tk' }) →
    wpAny (model PySem.Challenge.rw_fi0013_01.row.prog w) (A.deeper (lawEnv fd L)) (execs (stmtAt fd 5 :: rest) (lawEnv fd L)) Q E s := by
  have G0 := G
  obtain ⟨X, T, B, hh, hdp, hun, C⟩ := G
  revert X; k_fill; intro X
  (with_unfolding_all k_dflt refine' (fn_case ?e ?h))
  case e => k_is
  case h =>
  intro rest K
  conv => arg 3; arg 1; arg 1; whnf
  dsimp only [lawEnv] at K ⊢
  obtain ⟨o5, o4, o3, o2, o1, Z, d1, d2, d3, d4, d5, N, hZ⟩ := S.news
  have F := S.F
  rw [upd_self hnm, upd_self hot, upd_self hhd, upd_self hoth] at F
  (try k_fold)
  have hs1 := P.s1
  have hs2 := P.s2
  have hh1 := P.h1
  have hh2 := P.h2
  k_steps
  refine ⟨?_⟩
  refine wpAny_mono (row_spec 14 t1 (by omega) _ hG _ _ _ (G0.amb F rfl rfl) (tv1.mono gv_hv) (by omega) (by show A.depth + 1 + _ < _; omega) (by show A.units + 3 + _ < _; omega)) (fun x s₁ h₁ => ?_) fun _ _ e => e
  obtain ⟨⟨h₁, tk₁, rfl, hk₁⟩, rv1⟩ := h₁
  obtain ⟨ra, rfl⟩ := rv1.ref
  have F₁ := F.keeps hk₁
  have N₁ := N.grown hk₁
  have S₁ := S.keeps hk₁
  have rv1' := rv1.mono S.frv
  clear F N
  k_steps
  refine ⟨?_⟩
  have v01 : vle (gv hG L s.heap) (gv hG L h₁) := gv_keeps hk₁
  refine wpAny_mono (row_spec 14 t2 (by omega) _ hG _ _ _ (G0.amb F₁ rfl rfl) ((tv2.mono v01).mono gv_hv) (by omega) (by show A.depth + 1 + _ < _; omega) (by show A.units + 3 + _ < _; omega)) (fun x2 s₁ h₁ => ?_) fun _ _ e => e
  obtain ⟨⟨h₂, tk₂, rfl, hk₂⟩, rv2⟩ := h₁
  obtain ⟨sa, rfl⟩ := rv2.ref
  have S₂ := S₁.keeps hk₂
  have rv2' := rv2.mono S₁.frv
  have v12 : vle (gv hG L h₁) (gv hG L h₂) := gv_keeps hk₂
  have v02 : vle (gv hG L s.heap) (gv hG L h₂) := fun a o e => v12 a o (v01 a o e)
  have F₂ := F₁.keeps hk₂
  clear N₁ F₁ hZ d1 d2 d3 d4 d5
  obtain ⟨o5, o4, o3, o2, o1, Z, d1, d2, d3, d4, d5, N₂, hZ⟩ := S₂.news
  have h194 := S₂.lt194
  k_steps
  rename Fr _ _ _ _ => F'
  rename News _ _ _ _ => N'
  have v2' := gv_step N' (fun a o g => by have := (hZ a o).mp g; simp only [List.mem_cons, this, or_true])
  have v0' : vle (gv hG L s.heap) (gv hG L _) := fun a o g => v2' a o (v02 a o g)
  exact K _ _ _ _ _ (.of_news F' N' (by k_mem) (by k_mem) (by k_mem) (by k_mem) (by k_mem) (by k_mem) d1 d2 d3 d4 d5 h194) rfl rfl rfl rfl rfl rfl (hxs.mono v0') (hys.mono v0') ⟨tv1.mono v0', tv2.mono v0', (rv1'.mono v12).mono v2', rv2'.mono v2'⟩
end
end Mine
end
/-! part P1 -/
section
open PySem PySem.W PyProof.Rows PySem.Spec PySem.Calls
set_option maxRecDepth 100000
set_option maxHeartbeats 4000000
namespace Mine
mutual
def Row.ok : Row → Bool
  | .tok t _ => PyData.strOk t
  | .tree n ks => PyData.strOk n && Row.oks ks
def Row.oks : List Row → Bool
  | [] => true
  | r :: rs => r.ok && Row.oks rs
end
mutual
theorem row_lay : ∀ r : Row, r.ok = true → r.d.canLay0 = true
  | .tok t v, h => by simp only [Row.ok] at h; simp [Row.d, PyData.canLay0, PyData.canLayAll0, h]; decide +kernel
  | .tree n ks, h => by
    simp only [Row.ok, Bool.and_eq_true] at h
    have := rows_lay ks h.2
    simp [Row.d, PyData.canLay0, PyData.canLayAll0, h.1, this]; decide +kernel
theorem rows_lay : ∀ r : List Row, Row.oks r = true → PyData.canLayAll0 (Row.ds r) = true
  | [], _ => rfl
  | r :: rs, h => by
    simp only [Row.oks, Bool.and_eq_true] at h
    simp [Row.ds, PyData.canLayAll0, row_lay r h.1, rows_lay rs h.2]
end
mutual
theorem row_depth : ∀ r : Row, r.d.depth ≤ 2 * r.hgt + 1
  | .tok t v => by simp [Row.d, PyData.depth, PyData.depthAll, Row.hgt]
  | .tree n ks => by
    have := rows_depth ks
    simp [Row.d, PyData.depth, PyData.depthAll, Row.hgt]; omega
theorem rows_depth : ∀ r : List Row, PyData.depthAll (Row.ds r) ≤ 2 * Row.hgts r + 1
  | [] => by simp [Row.ds, PyData.depthAll]
  | r :: rs => by
    have h1 := row_depth r
    have h2 := rows_depth rs
    simp [Row.ds, PyData.depthAll, Row.hgts]; omega
end
mutual
theorem row_eqv : ∀ a b : Row, PyData.eqv a.d b.d = rowEq a b
  | .tok t v, .tok t' v' => by simp [Row.d, PyData.eqv, PyData.eqvAll, rowEq]
  | .tree n k, .tree n' k' => by simp [Row.d, PyData.eqv, PyData.eqvAll, rowEq, rows_eqv k k']
  | .tok _ _, .tree _ _ => by simp [Row.d, PyData.eqv, PyData.eqvAll, rowEq]
  | .tree _ _, .tok _ _ => by simp [Row.d, PyData.eqv, PyData.eqvAll, rowEq]
theorem rows_eqv : ∀ a b : List Row, PyData.eqvAll (Row.ds a) (Row.ds b) = rowsEq a b
  | [], [] => rfl
  | a :: as, b :: bs => by simp [Row.ds, PyData.eqvAll, rowsEq, row_eqv a b, rows_eqv as bs]
  | [], _ :: _ => by simp [Row.ds, PyData.eqvAll, rowsEq]
  | _ :: _, [] => by simp [Row.ds, PyData.eqvAll, rowsEq]
end
section
variable {prog : Program} {w : World} {A : Around} {E : Value → Shared → Prop} {s : Shared} {a b : Value} {ra rb : Row} {Q : Value → Shared → Prop}
theorem cmpEq_row (ha : RV (hv s.heap) a ra) (hb : RV (hv s.heap) b rb) (ka : ra.ok = true) (kb : rb.ok = true) (hu : A.units + 2 * ra.hgt + 1 < cLine) (h : Q (.bool (rowEq ra rb)) s) : wpAny (model prog w) A (compareOp .Eq a b) Q E s :=
  SeqAt.compareEq_reads ha.reads hb.reads (row_lay _ ka) (row_lay _ kb) (by have := row_depth ra; omega) (by rw [row_eqv]; exact h)
theorem cmpNe_row (ha : RV (hv s.heap) a ra) (hb : RV (hv s.heap) b rb) (ka : ra.ok = true) (kb : rb.ok = true) (hu : A.units + 2 * ra.hgt + 1 < cLine) (h : Q (.bool (!rowEq ra rb)) s) : wpAny (model prog w) A (compareOp .NotEq a b) Q E s :=
  SeqAt.compareNe_reads ha.reads hb.reads (row_lay _ ka) (row_lay _ kb) (by have := row_depth ra; omega) (by rw [row_eqv]; exact h)
end
theorem oks_app : ∀ a b : List Row, Row.oks (a ++ b) = (Row.oks a && Row.oks b)
  | [], b => by simp [Row.oks]
  | r :: rs, b => by simp [Row.oks, oks_app rs b, Bool.and_assoc]
theorem pstep_ok (st : List Row) (n : Int) (h : Row.oks st = true) : Row.oks (pstep st n) = true := by
  unfold pstep
  split
  · rw [oks_app, h]
    simp only [Row.oks, Row.ok, kindS]
    split <;> decide +kernel
  · have := oks_app (st.take (st.length - cnt n st.length)) (st.drop (st.length - cnt n st.length))
    rw [List.take_append_drop, h] at this
    have h2 := Bool.and_eq_true_iff.mp this.symm
    rw [oks_app, h2.1]
    simp only [Row.oks, Row.ok, nameS, h2.2]
    split <;> decide +kernel
theorem planned_ok (ns : List Int) : (planned ns).ok = true := by
  have : ∀ (ns : List Int) st, Row.oks st = true → Row.oks (ns.foldl pstep st) = true := by
    intro ns
    induction ns with
    | nil => exact fun _ h => h
    | cons n ns ih => intro st h; rw [List.foldl_cons]; exact ih _ (pstep_ok _ _ h)
  simp only [planned, Row.ok, this ns [] rfl, Bool.and_true]; decide +kernel
theorem Pu.k1 {xs ys : List Int} {t1 t2 : N} (P : Pu xs ys t1 t2) : t1.row.ok = true := by rw [P.r1]; exact planned_ok _
theorem Pu.k2 {xs ys : List Int} {t1 t2 : N} (P : Pu xs ys t1 t2) : t2.row.ok = true := by rw [P.r2]; exact planned_ok _
theorem TV.invG {G : View} {a da l : Addr} {nm : Str} {kids : List N} (t : TV G (.tree a da l nm kids)) : ∃ h1 h2 h3 k1 k2 k3 t1 its ep, G a (instObj 149 da) ∧
    G da (dictOf [⟨h1, .str "data" k1, .str nm t1⟩, ⟨h2, .str "children" k2, .ref l⟩, ⟨h3, .str "_meta" k3, .none⟩] 3) ∧ G l (W.listOf its ep) ∧ its.toList = kids.map N.val ∧ TVs G kids := by
  cases t with
  | tree p q r i k => exact ⟨_, _, _, _, _, _, _, _, _, p, q, r, i, k⟩
end Mine
end
/-! part L6 -/
section
open PySem PySem.W PyProof.Rows PySem.Spec PySem.Calls
set_option maxRecDepth 100000
set_option maxHeartbeats 4000000
namespace Mine
section
local macro_rules | `(tactic| tm_at "w call ref") => `(tactic| ((with_reducible show wpAny _ _ (call (Value.ref 167) _ _) _ _ _); refine stop_here ?_))
local macro_rules | `(tactic| tm_at "w compareOp NotEq ref ref") => `(tactic| refine stop_here ?_)
variable {w : World} {p : Program} {loose : List Str} {mean : ExcName → Option Value} {mg mb : Str → Option Value} {A : Around} {hG : Heap} {L : Nat} {m : Str → Option Value} {s : Shared} {E : Value → Shared → Prop} {Q : Flow → Shared → Prop}
theorem st6 (G : LG w p loose mean mg mb A hG) {ln lo ra sa : Addr} {xs ys : List Int} (hnm : m "numbers" = some (.ref ln)) (hot : m "others" = some (.ref lo)) (hxs : IsInts hG L s.heap ln xs) (hys : IsInts hG L s.heap lo ys)
    {t1 t2 : N} (hrow : m "row" = some (.ref ra)) (hsec : m "second" = some (.ref sa)) (P : Pu xs ys t1 t2) (x : Fx (gv hG L s.heap) t1 t2 ra sa)
    (S : LSt hG L m (some t1.val) none none none none #[] s.heap) : ∀ oc od fd osl, (hd.heap_39 w.params).lookup 197 = some ⟨oc, od, .func fd, osl⟩ → ∀ rest,
    (∀ h' tk', LSt hG L m (some t1.val) none none none none #[] h' → vle (gv hG L s.heap) (gv hG L h') →
      wpAny (model PySem.Challenge.rw_fi0013_01.row.prog w) (A.deeper (lawEnv fd L)) (execs rest (lawEnv fd L)) Q E { s with heap := h', toks := tk' }) →
    wpAny (model PySem.Challenge.rw_fi0013_01.row.prog w) (A.deeper (lawEnv fd L)) (execs (stmtAt fd 6 :: rest) (lawEnv fd L)) Q E s := by
  have G0 := G
  obtain ⟨X, T, B, hh, hdp, hun, C⟩ := G
  revert X; k_fill; intro X
  (with_unfolding_all k_dflt refine' (fn_case ?e ?h))
  case e => k_is
  case h =>
  intro rest K
  conv => arg 3; arg 1; arg 1; whnf
  dsimp only [lawEnv] at K ⊢
  obtain ⟨o5, o4, o3, o2, o1, Z, d1, d2, d3, d4, d5, N, hZ⟩ := S.news
  have F := S.F
  have hs1 := P.s1
  have hs2 := P.s2
  have hh1 := P.h1
  have hh2 := P.h2
  have hx2 := P.x2
  have hxy := P.xy
  have F := S.F
  rw [upd_self hnm, upd_self hot, upd_self hrow, upd_self hsec] at F
  (try k_fold)
  k_steps
  refine ⟨?_⟩
  obtain ⟨vs, n0, gln, hiv⟩ := id hxs
  refine wpAny_mono (planned_spec _ hG _ _ ln vs xs _ (G0.amb F rfl rfl) ⟨_, gln.2.2, rfl, _, rfl⟩ hiv (by omega) (by show A.depth + 1 + 20 < _; omega) (by show A.units + 3 + 400 < _; omega)) (fun y s₁ h₁ => ?_) fun _ _ e => e
  obtain ⟨⟨h₁, tk₁, rfl, hk₁⟩, rv1⟩ := h₁
  obtain ⟨pa, rfl⟩ := rv1.ref
  have F₁ := F.keeps hk₁
  have N₁ := N.grown hk₁
  have S₁ := S.keeps hk₁
  have rv1' := rv1.mono S.frv
  have v01 : vle (gv hG L s.heap) (gv hG L h₁) := gv_keeps hk₁
  clear F N
  k_steps
  refine ⟨?_⟩
  refine cmpNe_row ((x.rr.mono v01).mono gv_hv) (rv1'.mono gv_hv) P.k1 (planned_ok _) (by show A.units + 3 + _ + _ < _; omega) ?_
  rw [show (!rowEq t1.row (planned xs)) = false by rw [P.r1, (rowEq_iff _ _).mpr rfl]; rfl]
  k_steps
  refine ⟨?_⟩
  obtain ⟨vs', n0', glo, hiv'⟩ := id hys
  refine wpAny_mono (planned_spec _ hG _ _ lo vs' ys _ (G0.amb F₁ rfl rfl) ⟨_, hk₁ _ _ glo.2.2, rfl, _, rfl⟩ hiv' (by omega) (by show A.depth + 1 + 20 < _; omega) (by show A.units + 3 + 400 < _; omega)) (fun y s₁ h₁ => ?_) fun _ _ e => e
  obtain ⟨⟨h₂, tk₂, rfl, hk₂⟩, rv2⟩ := h₁
  obtain ⟨pa2, rfl⟩ := rv2.ref
  have F₂ := F₁.keeps hk₂
  have N₂ := N₁.grown hk₂
  have S₂ := S₁.keeps hk₂
  have rv2' := rv2.mono S₁.frv
  have v12 : vle (gv hG L h₁) (gv hG L h₂) := gv_keeps hk₂
  have v02 : vle (gv hG L s.heap) (gv hG L h₂) := fun a o e => v12 a o (v01 a o e)
  clear F₁ N₁
  k_steps
  refine ⟨?_⟩
  refine cmpNe_row ((x.rs.mono v02).mono gv_hv) (rv2'.mono gv_hv) P.k2 (planned_ok _) (by show A.units + 3 + _ + _ < _; omega) ?_
  rw [show (!rowEq t2.row (planned ys)) = false by rw [P.r2, (rowEq_iff _ _).mpr rfl]; rfl]
  k_steps
  exact K _ _ S₂ v02
end
end Mine
end
/-! part L7 -/
section
open PySem PySem.W PyProof.Rows PySem.Spec PySem.Calls
set_option maxRecDepth 100000
set_option maxHeartbeats 4000000
namespace Mine
section
variable {w : World} {p : Program} {loose : List Str} {mean : ExcName → Option Value} {mg mb : Str → Option Value} {A : Around} {hG : Heap} {L : Nat} {m : Str → Option Value} {s : Shared} {E Q : Value → Shared → Prop} {env : Env} {vT vN vO vH vA : Option Value} {ps : Array Value} {t1 t2 : N}
theorem law_eq (G : LG w p loose mean mg mb A hG) (S : LSt hG L m vT vN vO vH vA ps s.heap) (hf : env.frame = some L) (hk : env.scope.kind = .function) (i1 : t1.isTree = true) (i2 : t2.isTree = true) (v1 : TV (gv hG L s.heap) t1) (v2 : TV (gv hG L s.heap) t2) (hz : t1.row.size ≤ 100)
    (h : ∀ h' tk', LSt hG L m vT vN vO vH vA ps h' → vle (gv hG L s.heap) (gv hG L h') → Q (.bool (rowEq t1.row t2.row)) { s with heap := h', toks := tk' }) :
    wpAny (model PySem.Challenge.rw_fi0013_01.row.prog w) (A.deeper env) (compareOp .Eq t1.val t2.val) Q E s := by
  obtain ⟨da₁, od₁, I₁⟩ := (v1.mono gv_hv).inst
  obtain ⟨da₂, od₂, I₂⟩ := (v2.mono gv_hv).inst
  obtain ⟨hs, hfn, hn⟩ := eq_facts w.params t1 t2
  have hd := G.dep
  have hu := G.uni
  have hh1 := hgt_size t1.row
  have hfs : [env].filterMap (·.frame) = [L] := by simp [hf]
  refine cmp_ofEq (cmp_K ?_ S.F G.X I₁ I₂.type hn hs hfn ?_)
  · show A.units + 3 < _; omega
  refine wpAny_mono (eq_spec (t1.row.size + 1) t1 t2 (Nat.lt_succ_self _) _ hG [env] _ _ (G.amb S.F hf hk) G.X G.T (by rw [hfs]; exact v1.mono gv_hvx) (by rw [hfs]; exact v2.mono gv_hvx) (by omega) (by show A.depth + 1 + _ < _; omega) (by show A.units + 3 + _ < _; omega)) (fun y s₁ h₁ => ?_) fun _ _ e => e
  obtain ⟨hT, rfl⟩ := h₁
  rw [hfs] at hT
  obtain ⟨h', tk', rfl, S', v'⟩ := S.turned hT
  exact h h' tk' S' v'
theorem law_ne (G : LG w p loose mean mg mb A hG) (S : LSt hG L m vT vN vO vH vA ps s.heap) (hf : env.frame = some L) (hk : env.scope.kind = .function) (i1 : t1.isTree = true) (i2 : t2.isTree = true) (v1 : TV (gv hG L s.heap) t1) (v2 : TV (gv hG L s.heap) t2) (hz : t1.row.size ≤ 100)
    (h : ∀ h' tk', LSt hG L m vT vN vO vH vA ps h' → vle (gv hG L s.heap) (gv hG L h') → Q (.bool (!rowEq t1.row t2.row)) { s with heap := h', toks := tk' }) :
    wpAny (model PySem.Challenge.rw_fi0013_01.row.prog w) (A.deeper env) (compareOp .NotEq t1.val t2.val) Q E s := by
  obtain ⟨da₁, od₁, I₁⟩ := (v1.mono gv_hv).inst
  obtain ⟨da₂, od₂, I₂⟩ := (v2.mono gv_hv).inst
  rw [show t1.cls = 149 by simp [N.cls, i1]] at I₁
  rw [show t2.cls = 149 by simp [N.cls, i2]] at I₂
  have hd := G.dep
  have hu := G.uni
  have hh1 := hgt_size t1.row
  have hfs : [env].filterMap (·.frame) = [L] := by simp [hf]
  refine cmp_ofNotEq (cmp_K ?_ S.F G.X I₁ I₂.type (k_nf1 w.params) (k_ne149 w.params) (k_fn85 w.params) ?_)
  · show A.units + 3 < _; omega
  refine wpAny_mono (ne_spec t1 t2 i1 _ hG [env] _ _ (G.amb S.F hf hk) G.X G.T (by rw [hfs]; exact v1.mono gv_hvx) (by rw [hfs]; exact v2.mono gv_hvx) (by omega) (by show A.depth + 1 + _ + _ < _; omega) (by show A.units + 3 + _ + _ < _; omega)) (fun y s₁ h₁ => ?_) fun _ _ e => e
  obtain ⟨hT, rfl⟩ := h₁
  rw [hfs] at hT
  obtain ⟨h', tk', rfl, S', v'⟩ := S.turned hT
  exact h h' tk' S' v'
end
theorem rowEq_symm (a b : Row) : rowEq a b = rowEq b a := by
  rw [Bool.eq_iff_iff, rowEq_iff, rowEq_iff]; exact eq_comm
section
local macro_rules | `(tactic| tm_at "w compareOp Eq ref ref") => `(tactic| ((with_reducible show wpAny _ _ (compareOp _ (Value.ref _) (Value.ref _)) _ _ _); refine stop_here ?_))
local macro_rules | `(tactic| tm_at "w compareOp NotEq ref ref") => `(tactic| ((with_reducible show wpAny _ _ (compareOp _ (Value.ref _) (Value.ref _)) _ _ _); refine stop_here ?_))
variable {w : World} {p : Program} {loose : List Str} {mean : ExcName → Option Value} {mg mb : Str → Option Value} {A : Around} {hG : Heap} {L : Nat} {m : Str → Option Value} {s : Shared} {E : Value → Shared → Prop} {Q : Flow → Shared → Prop}
theorem st7 (G : LG w p loose mean mg mb A hG) {ra sa : Addr} {xs ys : List Int}
    {t1 t2 : N} (hoth : m "other" = some t2.val) (hrow : m "row" = some (.ref ra)) (hsec : m "second" = some (.ref sa)) (P : Pu xs ys t1 t2) (x : Fx (gv hG L s.heap) t1 t2 ra sa)
    (S : LSt hG L m (some t1.val) none none none none #[] s.heap) : ∀ oc od fd osl, (hd.heap_39 w.params).lookup 197 = some ⟨oc, od, .func fd, osl⟩ → ∀ rest,
    (∀ h' tk', LSt hG L m (some t1.val) none none none none #[] h' → vle (gv hG L s.heap) (gv hG L h') →
      wpAny (model PySem.Challenge.rw_fi0013_01.row.prog w) (A.deeper (lawEnv fd L)) (execs rest (lawEnv fd L)) Q E { s with heap := h', toks := tk' }) →
    wpAny (model PySem.Challenge.rw_fi0013_01.row.prog w) (A.deeper (lawEnv fd L)) (execs (stmtAt fd 7 :: rest) (lawEnv fd L)) Q E s := by
  have G0 := G
  obtain ⟨X, T, B, hh, hdp, hun, C⟩ := G
  revert X; k_fill; intro X
  (with_unfolding_all k_dflt refine' (fn_case ?e ?h))
  case e => k_is
  case h =>
  intro rest K
  conv => arg 3; arg 1; arg 1; whnf
  dsimp only [lawEnv] at K ⊢
  have hs1 := P.s1
  have hs2 := P.s2
  have hh1 := P.h1
  have hh2 := P.h2
  obtain ⟨o5, o4, o3, o2, o1, Z, d1, d2, d3, d4, d5, N, hZ⟩ := S.news
  have F := S.F
  rw [upd_self hoth, upd_self hrow, upd_self hsec] at F
  (try k_fold)
  k_steps
  refine ⟨law_eq G0 S rfl rfl P.i1 P.i2 x.tv1 x.tv2 (by omega) fun h₁ tk₁ S₁ v₁ => ?_⟩
  clear F N hZ d1 d2 d3 d4 d5
  have x := x.mono v₁
  obtain ⟨o5, o4, o3, o2, o1, Z, d1, d2, d3, d4, d5, N, hZ⟩ := S₁.news
  have F := S₁.F
  rw [upd_self hoth, upd_self hrow, upd_self hsec] at F
  k_steps
  refine ⟨cmpEq_row (x.rr.mono gv_hv) (x.rs.mono gv_hv) P.k1 P.k2 (by show A.units + 3 + _ + _ < _; omega) ?_⟩
  show wpAny _ _ (compareOp .NotEq (.bool _) (.bool _)) _ _ _
  refine ne_bool ?_
  rw [bne_self_eq_false]
  k_steps
  refine ⟨law_ne G0 S₁ rfl rfl P.i1 P.i2 x.tv1 x.tv2 (by omega) fun h₂ tk₂ S₂ v₂ => ?_⟩
  clear F N hZ d1 d2 d3 d4 d5
  have x := x.mono v₂
  obtain ⟨o5, o4, o3, o2, o1, Z, d1, d2, d3, d4, d5, N, hZ⟩ := S₂.news
  have F := S₂.F
  rw [upd_self hoth, upd_self hrow, upd_self hsec] at F
  k_steps
  refine ⟨cmpNe_row (x.rr.mono gv_hv) (x.rs.mono gv_hv) P.k1 P.k2 (by show A.units + 3 + _ + _ < _; omega) ?_⟩
  show wpAny _ _ (compareOp .NotEq (.bool _) (.bool _)) _ _ _
  refine ne_bool ?_
  rw [bne_self_eq_false]
  k_steps
  refine ⟨law_eq G0 S₂ rfl rfl P.i2 P.i1 x.tv2 x.tv1 (by omega) fun h₃ tk₃ S₃ v₃ => ?_⟩
  clear F N hZ d1 d2 d3 d4 d5
  have x := x.mono v₃
  obtain ⟨o5, o4, o3, o2, o1, Z, d1, d2, d3, d4, d5, N, hZ⟩ := S₃.news
  have F := S₃.F
  rw [upd_self hoth, upd_self hrow, upd_self hsec] at F
  k_steps
  refine ⟨cmpEq_row (x.rr.mono gv_hv) (x.rs.mono gv_hv) P.k1 P.k2 (by show A.units + 3 + _ + _ < _; omega) ?_⟩
  show wpAny _ _ (compareOp .NotEq (.bool _) (.bool _)) _ _ _
  refine ne_bool ?_
  rw [rowEq_symm, bne_self_eq_false]
  k_steps
  exact K _ _ S₃ fun a o e => v₃ a o (v₂ a o (v₁ a o e))
end
end Mine
end
/-! part L9 -/
section
open PySem PySem.W PyProof.Rows PySem.Spec PySem.Calls
set_option maxRecDepth 100000
set_option maxHeartbeats 4000000
namespace Mine
section
variable {w : World} {p : Program} {loose : List Str} {mean : ExcName → Option Value} {mg mb : Str → Option Value} {A : Around} {hG : Heap} {L : Nat} {m : Str → Option Value} {s : Shared} {E : Value → Shared → Prop} {Q : Flow → Shared → Prop}
theorem fresh_of {h h' : Heap} {X Z : List (Addr × Obj)} {D : Addr} {o : Obj} (hZ : ∀ a o, gv hG L h a o ↔ (a, o) ∈ Z) (N : News hG L h' X) (hm : (D, o) ∈ X) (g : gv hG L h' D o) (hlt : AllLt D Z) : h.get? D = none := by
  cases q : h.get? D with
  | none => rfl
  | some o' => exact absurd (allLt_to hlt _ ((hZ D o').mp ⟨g.1, g.2.1, q⟩)) (Nat.lt_irrefl _)
theorem allLt_trans {a b : Nat} (h : a ≤ b) : ∀ {Z : List (Addr × Obj)}, AllLt a Z → AllLt b Z
  | [], _ => trivial
  | _ :: _, x => ⟨Nat.lt_of_lt_of_le x.1 h, allLt_trans h x.2⟩
theorem st9 (G : LG w p loose mean mg mb A hG) {t1 t2 : N} (hoth : m "other" = some t2.val) (v1 : TV (gv hG L s.heap) t1) (v2 : TV (gv hG L s.heap) t2) {vN vO : Option Value}
    (S : LSt hG L m (some t1.val) vN vO none none #[] s.heap) : ∀ oc od fd osl, (hd.heap_39 w.params).lookup 197 = some ⟨oc, od, .func fd, osl⟩ → ∀ rest,
    (∀ h' tk' m' ai di li, LSt hG L m' (some t1.val) vN vO none none #[] h' → vle (gv hG L s.heap) (gv hG L h') → (∀ x, x ≠ ("inner" : Str) → m' x = m x) → m' "inner" = some (.ref ai) → TV (gv hG L h') (.tree ai di li "in" [t2, t1]) → s.heap.get? ai = none → s.heap.get? di = none → s.heap.get? li = none →
      wpAny (model PySem.Challenge.rw_fi0013_01.row.prog w) (A.deeper (lawEnv fd L)) (execs rest (lawEnv fd L)) Q E { s with heap := h', toks := tk' }) →
    wpAny (model PySem.Challenge.rw_fi0013_01.row.prog w) (A.deeper (lawEnv fd L)) (execs (stmtAt fd 9 :: rest) (lawEnv fd L)) Q E s := by
  have G0 := G
  obtain ⟨hd0, dep, frs, gds, un⟩ := A
  obtain ⟨X, T, B, hh, hdp, hun, C⟩ := G
  obtain rfl : frs = some [] := B.stack
  obtain rfl : hd0 = none := hh
  dsimp only at hdp hun
  revert X; k_fill; intro X
  (with_unfolding_all k_dflt refine' (fn_case ?e ?h))
  case e => k_is
  case h =>
  intro rest K
  conv => arg 3; arg 1; arg 1; whnf
  dsimp only [lawEnv] at K ⊢
  obtain ⟨o5, o4, o3, o2, o1, Z, d1, d2, d3, d4, d5, N, hZ⟩ := S.news
  have F := S.F
  rw [upd_self hoth] at F
  (try k_fold)
  k_steps
  rename Fr hG _ _ _ => F'
  rename News hG _ _ _ => N'
  rename (L + 1 + 1 + 1 + 1 + 1 < _ ∧ _) => la
  rename (_ < _ ∧ L + 1 + 1 + 1 + 1 + 1 < _ ∧ _) => ld
  rename _ < _ => lx
  have v' := gv_step N' (fun a o g => by have := (hZ a o).mp g; simp only [List.mem_cons, this, or_true])
  have gx := gv_new N' (.head _) (Nat.lt_trans ld.2.1 lx) (Nat.lt_trans ld.2.2.2.2.2.2.1 lx)
  have gd := gv_new N' (.tail _ (.head _)) ld.2.1 ld.2.2.2.2.2.2.1
  have gl := gv_new N' (.tail _ (.tail _ (.head _))) la.1 la.2.2.2.2.2.1
  exact K _ _ _ _ _ _ (.of_news F' N' (by k_mem) (by k_mem) (by k_mem) (by k_mem) (by k_mem) (by k_mem) d1 d2 d3 d4 d5 S.lt194) v' (fun x hx => by simp only [if_neg hx]; split; (rename_i e; rw [e, hoth]); rfl) rfl
    (.tree gx gd gl rfl (.cons (v2.mono v') (.cons (v1.mono v') .nil)))
    (fresh_of hZ N' (.head _) gx (allLt_trans (Nat.le_of_lt lx) ld.2.2.2.2.2.2.2)) (fresh_of hZ N' (.tail _ (.head _)) gd ld.2.2.2.2.2.2.2) (fresh_of hZ N' (.tail _ (.tail _ (.head _))) gl la.2.2.2.2.2.2)
end
end Mine
end
/-! part L10 -/
section
open PySem PySem.W PyProof.Rows PySem.Spec PySem.Calls
set_option maxRecDepth 100000
set_option maxHeartbeats 4000000
namespace Mine
section
variable {w : World} {p : Program} {loose : List Str} {mean : ExcName → Option Value} {mg mb : Str → Option Value} {A : Around} {hG : Heap} {L : Nat} {m : Str → Option Value} {s : Shared} {E : Value → Shared → Prop} {Q : Flow → Shared → Prop}
theorem st10 (G : LG w p loose mean mg mb A hG) {t1 ti : N} (hin : m "inner" = some ti.val) (v1 : TV (gv hG L s.heap) t1) (vi : TV (gv hG L s.heap) ti) {vN vO : Option Value}
    (S : LSt hG L m (some t1.val) vN vO none none #[] s.heap) : ∀ oc od fd osl, (hd.heap_39 w.params).lookup 197 = some ⟨oc, od, .func fd, osl⟩ → ∀ rest,
    (∀ h' tk' m' ai di li, LSt hG L m' (some t1.val) vN vO none none #[] h' → vle (gv hG L s.heap) (gv hG L h') → (∀ x, x ≠ ("both" : Str) → m' x = m x) → m' "both" = some (.ref ai) → TV (gv hG L h') (.tree ai di li "both" [t1, ti, t1]) → s.heap.get? ai = none → s.heap.get? di = none → s.heap.get? li = none →
      wpAny (model PySem.Challenge.rw_fi0013_01.row.prog w) (A.deeper (lawEnv fd L)) (execs rest (lawEnv fd L)) Q E { s with heap := h', toks := tk' }) →
    wpAny (model PySem.Challenge.rw_fi0013_01.row.prog w) (A.deeper (lawEnv fd L)) (execs (stmtAt fd 10 :: rest) (lawEnv fd L)) Q E s := by
  have G0 := G
  obtain ⟨hd0, dep, frs, gds, un⟩ := A
  obtain ⟨X, T, B, hh, hdp, hun, C⟩ := G
  obtain rfl : frs = some [] := B.stack
  obtain rfl : hd0 = none := hh
  dsimp only at hdp hun
  revert X; k_fill; intro X
  (with_unfolding_all k_dflt refine' (fn_case ?e ?h))
  case e => k_is
  case h =>
  intro rest K
  conv => arg 3; arg 1; arg 1; whnf
  dsimp only [lawEnv] at K ⊢
  obtain ⟨o5, o4, o3, o2, o1, Z, d1, d2, d3, d4, d5, N, hZ⟩ := S.news
  have F := S.F
  rw [upd_self hin] at F
  (try k_fold)
  k_steps
  rename Fr hG _ _ _ => F'
  rename News hG _ _ _ => N'
  rename (L + 1 + 1 + 1 + 1 + 1 < _ ∧ _) => la
  rename (_ < _ ∧ L + 1 + 1 + 1 + 1 + 1 < _ ∧ _) => ld
  rename _ < _ => lx
  have v' := gv_step N' (fun a o g => by have := (hZ a o).mp g; simp only [List.mem_cons, this, or_true])
  have gx := gv_new N' (.head _) (Nat.lt_trans ld.2.1 lx) (Nat.lt_trans ld.2.2.2.2.2.2.1 lx)
  have gd := gv_new N' (.tail _ (.head _)) ld.2.1 ld.2.2.2.2.2.2.1
  have gl := gv_new N' (.tail _ (.tail _ (.head _))) la.1 la.2.2.2.2.2.1
  exact K _ _ _ _ _ _ (.of_news F' N' (by k_mem) (by k_mem) (by k_mem) (by k_mem) (by k_mem) (by k_mem) d1 d2 d3 d4 d5 S.lt194) v' (fun x hx => by simp only [if_neg hx]; split; (rename_i e; rw [e, hin]); rfl) rfl
    (.tree gx gd gl rfl (.cons (v1.mono v') (.cons (vi.mono v') (.cons (v1.mono v') .nil))))
    (fresh_of hZ N' (.head _) gx (allLt_trans (Nat.le_of_lt lx) ld.2.2.2.2.2.2.2)) (fresh_of hZ N' (.tail _ (.head _)) gd ld.2.2.2.2.2.2.2) (fresh_of hZ N' (.tail _ (.tail _ (.head _))) gl la.2.2.2.2.2.2)
end
end Mine
end
/-! part L11 -/
section
open PySem PySem.W PyProof.Rows PySem.Spec PySem.Calls
set_option maxRecDepth 100000
set_option maxHeartbeats 4000000
namespace Mine
section
local macro_rules | `(tactic| tm_at "my compS") => `(tactic| (refine ⟨?_⟩; k_dflt (refine' comp1S (cl := []) ?hclos ?hpc ?hcf ?hkind ?hnames ?hx ?_ ?hs; (case hclos => exact closureFor_none (by decide)); (case hpc => exact fun _ => rfl); (case hcf => exact fun _ => rfl); (case hkind => exact rfl); (case hnames => decide); (case hx => exact rfl); (case hs => exact fun _ => rfl); k_whole)))
local macro_rules | `(tactic| tm_at "w call ref") => `(tactic| ((with_reducible show wpAny _ _ (call (Value.ref 90) _ _) _ _ _); refine stop_here ?_))
variable {w : World} {p : Program} {loose : List Str} {mean : ExcName → Option Value} {mg mb : Str → Option Value} {A : Around} {hG : Heap} {L : Nat} {m : Str → Option Value} {s : Shared} {E : Value → Shared → Prop} {Q : Flow → Shared → Prop}
theorem nodup_of_map {α β : Type} {f : α → β} : ∀ {l : List α}, (l.map f).Nodup → l.Nodup
  | [], _ => .nil
  | a :: l, h => by
    rw [List.map_cons, List.nodup_cons] at h
    exact List.nodup_cons.mpr ⟨fun hm => h.1 (List.mem_map_of_mem hm), nodup_of_map h.2⟩
theorem st11 (G : LG w p loose mean mg mb A hG) {vN vO : Option Value} {ab db lb : Addr} {nm : Str} {kb : List N} (hbo : m "both" = some (.ref ab)) (vb : TV (gv hG L s.heap) (.tree ab db lb nm kb)) (hz : (N.tree ab db lb nm kb).row.size ≤ 100) {vT : Value}
    (S : LSt hG L m (some vT) vN vO none none #[] s.heap) : ∀ oc od fd osl, (hd.heap_39 w.params).lookup 197 = some ⟨oc, od, .func fd, osl⟩ → ∀ rest,
    (∀ h' tk' (R : List N) td n, LSt hG L m (some vT) vN (some (.ref td)) none none #[] h' → vle (gv hG L s.heap) (gv hG L h') → gv hG L h' td (listOf (R.map N.val).toArray n) → (R.map N.addr).Nodup → (∀ x, x ∈ R ↔ x ∈ (N.tree ab db lb nm kb).objs) →
      wpAny (model PySem.Challenge.rw_fi0013_01.row.prog w) (A.deeper (lawEnv fd L)) (execs rest (lawEnv fd L)) Q E { s with heap := h', toks := tk' }) →
    wpAny (model PySem.Challenge.rw_fi0013_01.row.prog w) (A.deeper (lawEnv fd L)) (execs (stmtAt fd 11 :: rest) (lawEnv fd L)) Q E s := by
  have G0 := G
  obtain ⟨hd0, dep, frs, gds, un⟩ := A
  obtain ⟨X, T, B, hh, hdp, hun, C⟩ := G
  obtain rfl : frs = some [] := B.stack
  obtain rfl : hd0 = none := hh
  dsimp only at hdp hun
  revert X; k_fill; intro X
  (with_unfolding_all k_dflt refine' (fn_case ?e ?h))
  case e => k_is
  case h =>
  intro rest K
  conv => arg 3; arg 1; arg 1; whnf
  dsimp only [lawEnv] at K ⊢
  obtain ⟨o5, o4, o3, o2, o1, Z, d1, d2, d3, d4, d5, Nw, hZ⟩ := S.news
  have h194 := S.lt194
  have z3 := zne hZ (L + 1 + 1 + 1) (by simp [mutL])
  have F := S.F
  rw [upd_self hbo] at F
  obtain ⟨_, _, _, _, _, _, _, itb, epb, hob, hodb, hlb, hitb, hkb⟩ := vb.invG
  have N₀ := News.expose hob (News.expose hodb Nw)
  (try k_fold)
  k_steps
  tm_at "my compS"
  k_steps
  refine ⟨?_⟩
  show wpAny _ _ (call (.ref 90) [.ref ab]) _ _ _
  refine wpAny_mono (iter_spec (.tree ab db lb nm kb) rfl _ hG _ _ _ (G0.amb F rfl rfl) (vb.mono gv_hv) (by omega) (by show dep + 1 + 10 < _; omega) (by show un + 3 + 400 < _; omega)) (fun y s₁ h₁ => ?_) fun _ _ e => e
  obtain ⟨hk₁', R, ⟨D, n, rfl, hD0, hD1⟩, hnd, hR⟩ := h₁
  obtain ⟨h₁, tk₁, rfl, hk₁⟩ := hk₁'
  have hRl : R.length ≤ 100 := by
    have h1 := List.Nodup.length_le_of_subset (l₁ := R) (l₂ := (N.tree ab db lb nm kb).objs) (nodup_of_map hnd) (fun a h => (hR a).mp h)
    have h2 := objs_len (N.tree ab db lb nm kb)
    omega
  have S₁ := S.keeps hk₁
  have v01 : vle (gv hG L s.heap) (gv hG L h₁) := gv_keeps hk₁
  have F₁ := F.keeps hk₁
  clear F Nw N₀ hZ z3 d1 d2 d3 d4 d5
  obtain ⟨o5, o4, o3, o2, o1, Z, d1, d2, d3, d4, d5, Nw, hZ⟩ := S₁.news
  have z3 := zne hZ (L + 1 + 1 + 1) (by simp [mutL])
  refine ⟨{ s with heap := h₁, toks := tk₁ }, compIn_seq (items := R.map N.val) ⟨_, _, rfl, fun _ _ e => e⟩ (Nat.le_refl _) rfl (.inl ⟨_, hD1, rfl, _, rfl⟩) (by rw [sizeLine_eq, List.length_map]; omega) (fun (j : Nat) (ys : List Value) (_ : View) => ys = (R.take j).map N.val) (fun _ _ _ _ _ h => h) ?_ ?_ ?_ ?_⟩
  · intro j ys G h; subst h; rw [List.length_map, List.length_take]; exact Nat.min_le_left _ _
  · simp
  · intro C X j v ys s₃ oC m₃ E' hC hX1 hX2 hj hoC hns hm' hk₃ hI
    have F₃ := F₁.keeps (kold hk₃)
    have N₃ := news_add' F₁ (Nw.grown (kold hk₃)) hoC hC
    obtain ⟨d, hdj, rfl⟩ := vals_get hj
    k_steps
    rw [hI, take_succ_get hdj, List.map_append]; rfl
  · intro D2 X s' ys hD2 hX ⟨e4, hl4⟩ hI hk₄
    obtain ⟨h4, tk4, rfl, hk₄'⟩ := hk₄
    obtain ⟨F₄, N₄, l4⟩ := comp_finS F₁ Nw hk₄' hl4 hD2
    k_lt l4
    rw [List.length_map, List.take_of_length_le (Nat.le_refl _)] at hI
    subst hI
    dsimp only at N₄ F₄ ⊢
    clear F₁ Nw
    k_steps
    rename Fr hG _ _ _ => F'
    rename News hG _ _ _ => N'
    rename PySem.Obj.data _ = PySem.Data.cell (some _) => d3'
    have v' := gv_step N' (fun a o g => by have := (hZ a o).mp g; simp only [List.mem_cons, this, or_true])
    rw [← upd_self hbo] at F'
    have fr : FrV h₁ _ D2 _ := ⟨Heap.get?_none_of_le hD2, N'.get (.head _)⟩
    exact K _ _ R D2 e4 (.of_news F' N' (by k_mem) (by k_mem) (by k_mem) (by k_mem) (by k_mem) (by k_mem) d1 d2 d3' d4 d5 h194) (fun a o g => v' a o (v01 a o g)) (S₁.frv _ _ fr) hnd hR
end
end Mine
end
/-! part L13 -/
section
open PySem PySem.W PyProof.Rows PySem.Spec PySem.Calls
set_option maxRecDepth 100000
set_option maxHeartbeats 4000000
namespace Mine
section
variable {prog : Program} {w : World} {A : Around} {hG : Heap} {L : Nat} {m : Str → Option Value} {s : Shared} {E Q : Value → Shared → Prop} {vT vN vO vH vA : Option Value} {ps : Array Value} {a b : Addr}
/-- a rule that puts one new object onto the ledger, at the law's level -/
theorem LSt.alloc {h : Heap} (S : LSt hG L m vT vN vO vH vA ps h) : ∃ X, News hG L h X ∧ ∀ D o h', Fr hG L h' m → News hG L h' ((D, o) :: X) → (∀ p ∈ X, p.1 < D) → LSt hG L m vT vN vO vH vA ps h' ∧ vle (gv hG L h) (gv hG L h') ∧ gv hG L h' D o := by
  obtain ⟨o5, o4, o3, o2, o1, Z, d1, d2, d3, d4, d5, Nw, hZ⟩ := S.news
  refine ⟨_, Nw, fun D o h' F' N' hlt => ⟨.of_news F' N' (by k_mem) (by k_mem) (by k_mem) (by k_mem) (by k_mem) (by k_mem) d1 d2 d3 d4 d5 S.lt194, gv_step N' (fun a o g => by have := (hZ a o).mp g; simp only [List.mem_cons, this, or_true]), ?_⟩⟩
  exact gv_new N' (.head _) (hlt _ (.head _)) (hlt (194, tabObj ps) (by k_mem))
theorem law_add (S : LSt hG L m vT vN vO vH vA ps s.heap) {its its2 : Array Value} {n n2 : Nat} (ga : gv hG L s.heap a (listOf its n)) (gb : gv hG L s.heap b (listOf its2 n2)) (hz : its.size + its2.size ≤ 10000)
    (h : ∀ D h', LSt hG L m vT vN vO vH vA ps h' → vle (gv hG L s.heap) (gv hG L h') → gv hG L h' D (listOf (its.toList ++ its2.toList).toArray 0) → Q (.ref D) { s with heap := h' }) : wpAny (model prog w) A (binaryOp .Add (.ref a) (.ref b)) Q E s := by
  obtain ⟨X, NX, push⟩ := S.alloc
  refine kmk_add_lit S.F NX ⟨_, ga.2.2, rfl, _, rfl⟩ ⟨_, gb.2.2, rfl, _, rfl⟩ rfl (fun D h' F' N' hlt => ?_) (by rw [sizeLine_eq]; simp only [Array.length_toList]; omega)
  obtain ⟨S', v, g⟩ := push D _ h' F' N' hlt
  exact h D h' S' v g
end
section
local macro_rules | `(tactic| tm_at "w binaryOp Add ref ref") => `(tactic| ((with_reducible show wpAny _ _ (binaryOp _ (Value.ref _) (Value.ref _)) _ _ _); refine stop_here ?_))
local macro_rules | `(tactic| tm_at "w call ref") => `(tactic| ((with_reducible show wpAny _ _ (call (Value.ref 187) _ _) _ _ _); refine stop_here ?_))
variable {w : World} {p : Program} {loose : List Str} {mean : ExcName → Option Value} {mg mb : Str → Option Value} {A : Around} {hG : Heap} {L : Nat} {m : Str → Option Value} {s : Shared} {E : Value → Shared → Prop} {Q : Flow → Shared → Prop}
theorem st13 (G : LG w p loose mean mg mb A hG) {vN vO : Option Value} {t1 t2 : N} {ab ai : Addr} (hbo : m "both" = some (.ref ab)) (hin : m "inner" = some (.ref ai)) (hot : m "other" = some t2.val)
    (v1 : TV (gv hG L s.heap) t1) (v2 : TV (gv hG L s.heap) t2) (i1 : t1.isTree = true) (i2 : t2.isTree = true) (z1 : t1.row.size ≤ 13) (z2 : t2.row.size ≤ 13)
    (S : LSt hG L m (some t1.val) vN vO none none #[] s.heap) : ∀ oc od fd osl, (hd.heap_39 w.params).lookup 197 = some ⟨oc, od, .func fd, osl⟩ → ∀ rest,
    (∀ h' tk' td n, LSt hG L m (some t1.val) vN vO (some (.ref td)) none #[] h' → vle (gv hG L s.heap) (gv hG L h') → gv hG L h' td (listOf (.ref ab :: .ref ai :: (t1.objs ++ t2.objs).map N.val).toArray n) →
      wpAny (model PySem.Challenge.rw_fi0013_01.row.prog w) (A.deeper (lawEnv fd L)) (execs rest (lawEnv fd L)) Q E { s with heap := h', toks := tk' }) →
    wpAny (model PySem.Challenge.rw_fi0013_01.row.prog w) (A.deeper (lawEnv fd L)) (execs (stmtAt fd 13 :: rest) (lawEnv fd L)) Q E s := by
  have G0 := G
  obtain ⟨hd0, dep, frs, gds, un⟩ := A
  obtain ⟨X, T, B, hh, hdp, hun, C⟩ := G
  obtain rfl : frs = some [] := B.stack
  obtain rfl : hd0 = none := hh
  dsimp only at hdp hun
  revert X; k_fill; intro X
  (with_unfolding_all k_dflt refine' (fn_case ?e ?h))
  case e => k_is
  case h =>
  intro rest K
  conv => arg 3; arg 1; arg 1; whnf
  dsimp only [lawEnv] at K ⊢
  obtain ⟨o5, o4, o3, o2, o1, Z, d1, d2, d3, d4, d5, Nw, hZ⟩ := S.news
  have h194 := S.lt194
  have F := S.F
  rw [upd_self hbo, upd_self hin, upd_self hot] at F
  have hh1 := hgt_size t1.row
  have hh2 := hgt_size t2.row
  (try k_fold)
  k_steps
  refine ⟨?_⟩
  rename Fr hG _ _ _ => F1
  rename News hG _ _ _ => N1
  rename (L + 1 + 1 + 1 + 1 + 1 < _ ∧ _) => la
  rename_i lA hA
  have S1 := LSt.of_news F1 N1 (by k_mem) (by k_mem) (by k_mem) (by k_mem) (by k_mem) (by k_mem) d1 d2 d3 d4 d5 h194
  have v01 := gv_step N1 (fun a o g => by have := (hZ a o).mp g; simp only [List.mem_cons, this, or_true])
  have gA := gv_new N1 (.head _) la.1 la.2.2.2.2.2.1
  refine wpAny_mono (objs_spec 14 t1 (by omega) i1 _ hG _ _ _ (G0.amb F1 rfl rfl) ((v1.mono v01).mono gv_hv) (by omega) (by show dep + 1 + _ < _; omega) (by show un + 3 + _ < _; omega)) (fun y s₁ h₁ => ?_) fun _ _ e => e
  obtain ⟨⟨h₁, tk₁, rfl, hk₁⟩, lB, nB, rfl, hB0, hB1⟩ := h₁
  have S2 := S1.keeps hk₁
  have v12 : vle (gv hG L hA) (gv hG L h₁) := gv_keeps hk₁
  have gB := S1.frv _ _ ⟨hB0, hB1⟩
  have gA := v12 _ _ gA
  clear F1 N1 hZ d1 d2 d3 d4 d5
  obtain ⟨o5, o4, o3, o2, o1, Z, d1, d2, d3, d4, d5, Nw, hZ⟩ := S2.news
  have z4 := zne hZ (L + 1 + 1 + 1 + 1) (by simp [mutL])
  have F := S2.F
  have N2 := News.expose gA (News.expose gB Nw)
  k_steps
  have hob1 := objs_len t1
  have hob2 := objs_len t2
  refine ⟨law_add S2 gA gB (by simp; omega) fun lC h₂ S3 v23 gC => ?_⟩
  clear N2 F Nw hZ z4 d1 d2 d3 d4 d5
  obtain ⟨o5, o4, o3, o2, o1, Z, d1, d2, d3, d4, d5, Nw, hZ⟩ := S3.news
  have F := S3.F
  k_steps
  refine ⟨?_⟩
  have v03 : vle (gv hG L s.heap) (gv hG L h₂) := fun a o g => v23 a o (v12 a o (v01 a o g))
  refine wpAny_mono (objs_spec 14 t2 (by omega) i2 _ hG _ _ _ (G0.amb F rfl rfl) ((v2.mono v03).mono gv_hv) (by omega) (by show dep + 1 + _ < _; omega) (by show un + 3 + _ < _; omega)) (fun y s₁ h₁ => ?_) fun _ _ e => e
  obtain ⟨⟨h₃, tk₃, rfl, hk₃⟩, lD, nD, rfl, hD0, hD1⟩ := h₁
  have S4 := S3.keeps hk₃
  have v34 : vle (gv hG L h₂) (gv hG L h₃) := gv_keeps hk₃
  have gD := S3.frv _ _ ⟨hD0, hD1⟩
  have gC := v34 _ _ gC
  k_steps
  refine ⟨law_add S4 gC gD (by simp; omega) fun lE h₄ S5 v45 gE => ?_⟩
  clear F Nw hZ d1 d2 d3 d4 d5
  obtain ⟨o5, o4, o3, o2, o1, Z, d1, d2, d3, d4, d5, Nw, hZ⟩ := S5.news
  have z4 := zne hZ (L + 1 + 1 + 1 + 1) (by simp [mutL])
  have F := S5.F
  k_steps
  rename Fr hG _ _ _ => F'
  rename News hG _ _ _ => N'
  rename PySem.Obj.data _ = PySem.Data.cell (some _) => d4'
  have v' := gv_step N' (fun a o g => by have := (hZ a o).mp g; simp only [List.mem_cons, this, or_true])
  rw [← upd_self hot, ← upd_self hin, ← upd_self hbo] at F'
  refine K _ _ lE 0 (.of_news F' N' (by k_mem) (by k_mem) (by k_mem) (by k_mem) (by k_mem) (by k_mem) d1 d2 d3 d4' d5 h194) (fun a o g => v' a o (v45 a o (v34 a o (v03 a o g)))) ?_
  have := v' _ _ gE
  simpa using this
end
end Mine
end
/-! part L15 -/
section
open PySem PySem.W PyProof.Rows PySem.Spec PySem.Calls
set_option maxRecDepth 100000
set_option maxHeartbeats 4000000
namespace Mine
section
local macro_rules | `(tactic| tm_at "w binaryOp Add ref ref") => `(tactic| ((with_reducible show wpAny _ _ (binaryOp _ (Value.ref _) (Value.ref _)) _ _ _); refine stop_here ?_))
local macro_rules | `(tactic| tm_at "w call ref") => `(tactic| ((with_reducible show wpAny _ _ (call (Value.ref 192) _ _) _ _ _); refine stop_here ?_))
variable {w : World} {p : Program} {loose : List Str} {mean : ExcName → Option Value} {mg mb : Str → Option Value} {A : Around} {hG : Heap} {L : Nat} {m : Str → Option Value} {s : Shared} {E : Value → Shared → Prop} {Q : Flow → Shared → Prop}
theorem st15 (G : LG w p loose mean mg mb A hG) {vT vN vO vH : Option Value} {ra sa : Addr} {r1 r2 : Row} (hrow : m "row" = some (.ref ra)) (hsec : m "second" = some (.ref sa)) (k1 : RV (gv hG L s.heap) (.ref ra) r1) (k2 : RV (gv hG L s.heap) (.ref sa) r2)
    (z1 : r1.size ≤ 13) (z2 : r2.size ≤ 13)
    (S : LSt hG L m vT vN vO vH none #[] s.heap) : ∀ oc od fd osl, (hd.heap_39 w.params).lookup 197 = some ⟨oc, od, .func fd, osl⟩ → ∀ rest,
    (∀ h' tk' m' ll vs n, LSt hG L m' vT vN vO vH none #[] h' → vle (gv hG L s.heap) (gv hG L h') → (∀ x, x ≠ ("leaves" : Str) → m' x = m x) → m' "leaves" = some (.ref ll) → gv hG L h' ll (listOf (vs : List Value).toArray n) → PVs (gv hG L h') vs (r1.toks ++ r2.toks ++ r1.toks ++ r1.toks) →
      wpAny (model PySem.Challenge.rw_fi0013_01.row.prog w) (A.deeper (lawEnv fd L)) (execs rest (lawEnv fd L)) Q E { s with heap := h', toks := tk' }) →
    wpAny (model PySem.Challenge.rw_fi0013_01.row.prog w) (A.deeper (lawEnv fd L)) (execs (stmtAt fd 15 :: rest) (lawEnv fd L)) Q E s := by
  have G0 := G
  obtain ⟨hd0, dep, frs, gds, un⟩ := A
  obtain ⟨X, T, B, hh, hdp, hun, C⟩ := G
  obtain rfl : frs = some [] := B.stack
  obtain rfl : hd0 = none := hh
  dsimp only at hdp hun
  revert X; k_fill; intro X
  (with_unfolding_all k_dflt refine' (fn_case ?e ?h))
  case e => k_is
  case h =>
  intro rest K
  conv => arg 3; arg 1; arg 1; whnf
  dsimp only [lawEnv] at K ⊢
  have F := S.F
  rw [upd_self hrow, upd_self hsec] at F
  obtain ⟨o5, o4, o3, o2, o1, Z, d1, d2, d3, d4, d5, Nw, hZ⟩ := S.news
  have S0 := LSt.of_news F Nw (by k_mem) (by k_mem) (by k_mem) (by k_mem) (by k_mem) (by k_mem) d1 d2 d3 d4 d5 S.lt194
  have h194 := S.lt194
  have hh1 := hgt_size r1
  have hh2 := hgt_size r2
  have tl1 := toks_len r1
  have tl2 := toks_len r2
  (try k_fold)
  k_steps
  refine ⟨?_⟩
  refine wpAny_mono (toks_spec 14 r1 (by omega) _ hG _ _ _ _ (G0.amb F rfl rfl) (k1.mono gv_hv) (by omega) (by show dep + 1 + _ < _; omega) (by show un + 3 + _ < _; omega)) (fun y s₁ h₁ => ?_) fun _ _ e => e
  obtain ⟨⟨h₁, tk₁, rfl, hk₁⟩, vs1, ⟨lA, nA, rfl, hA0, hA1⟩, pv1⟩ := h₁
  have S1 := S0.keeps hk₁
  have v01 : vle (gv hG L s.heap) (gv hG L h₁) := gv_keeps hk₁
  have gA := S0.frv _ _ ⟨hA0, hA1⟩
  have pv1 := pv1.mono S0.frv
  clear F Nw hZ d1 d2 d3 d4 d5
  obtain ⟨o5, o4, o3, o2, o1, Z, d1, d2, d3, d4, d5, Nw, hZ⟩ := S1.news
  have F := S1.F
  k_steps
  refine ⟨?_⟩
  refine wpAny_mono (toks_spec 14 r2 (by omega) _ hG _ _ _ _ (G0.amb F rfl rfl) ((k2.mono v01).mono gv_hv) (by omega) (by show dep + 1 + _ < _; omega) (by show un + 3 + _ < _; omega)) (fun y s₁ h₁ => ?_) fun _ _ e => e
  obtain ⟨⟨h₂, tk₂, rfl, hk₂⟩, vs2, ⟨lB, nB, rfl, hB0, hB1⟩, pv2⟩ := h₁
  have S2 := S1.keeps hk₂
  have v12 : vle (gv hG L h₁) (gv hG L h₂) := gv_keeps hk₂
  have gB := S1.frv _ _ ⟨hB0, hB1⟩
  have pv2 := pv2.mono S1.frv
  have gA := v12 _ _ gA
  k_steps
  refine ⟨law_add S2 gA gB (by have := pv1.length; have := pv2.length; simp; omega) fun lC h₃ S3 v23 gC => ?_⟩
  have v03 : vle (gv hG L s.heap) (gv hG L h₃) := fun a o g => v23 a o (v12 a o (v01 a o g))
  have pC := ((pv1.mono v12).append pv2).mono v23
  clear F Nw hZ d1 d2 d3 d4 d5
  obtain ⟨o5, o4, o3, o2, o1, Z, d1, d2, d3, d4, d5, Nw, hZ⟩ := S3.news
  have F := S3.F
  k_steps
  refine ⟨?_⟩
  refine wpAny_mono (toks_spec 14 r1 (by omega) _ hG _ _ _ _ (G0.amb F rfl rfl) ((k1.mono v03).mono gv_hv) (by omega) (by show dep + 1 + _ < _; omega) (by show un + 3 + _ < _; omega)) (fun y s₁ h₁ => ?_) fun _ _ e => e
  obtain ⟨⟨h₄, tk₄, rfl, hka⟩, vs3, ⟨lD, nlD, rfl, lD0, lD1⟩, pv3⟩ := h₁
  have S4 := S3.keeps hka
  have va : vle (gv hG L h₃) (gv hG L h₄) := gv_keeps hka
  have glD := S3.frv _ _ ⟨lD0, lD1⟩
  have pv3 := pv3.mono S3.frv
  k_steps
  refine ⟨law_add S4 (va _ _ gC) glD (by have := pv1.length; have := pv2.length; have := pv3.length; simp; omega) fun lE h₅ S5 v45 gE => ?_⟩
  have v05 : vle (gv hG L s.heap) (gv hG L h₅) := fun a o g => v45 a o (va a o (v03 a o g))
  have pE := ((pC.mono va).append pv3).mono v45
  clear F Nw hZ d1 d2 d3 d4 d5
  obtain ⟨o5, o4, o3, o2, o1, Z, d1, d2, d3, d4, d5, Nw, hZ⟩ := S5.news
  have F := S5.F
  k_steps
  refine ⟨?_⟩
  refine wpAny_mono (toks_spec 14 r1 (by omega) _ hG _ _ _ _ (G0.amb F rfl rfl) ((k1.mono v05).mono gv_hv) (by omega) (by show dep + 1 + _ < _; omega) (by show un + 3 + _ < _; omega)) (fun y s₁ h₁ => ?_) fun _ _ e => e
  obtain ⟨⟨h₆, tk₆, rfl, hkb⟩, vs4, ⟨lF, nlF, rfl, lF0, lF1⟩, pv4⟩ := h₁
  have S6 := S5.keeps hkb
  have vb : vle (gv hG L h₅) (gv hG L h₆) := gv_keeps hkb
  have glF := S5.frv _ _ ⟨lF0, lF1⟩
  have pv4 := pv4.mono S5.frv
  k_steps
  refine ⟨law_add S6 (vb _ _ gE) glF (by have := pv1.length; have := pv2.length; have := pv3.length; have := pv4.length; simp; omega) fun lG h₇ S7 v67 gG => ?_⟩
  have pG := ((pE.mono vb).append pv4).mono v67
  clear F Nw hZ d1 d2 d3 d4 d5
  obtain ⟨o5, o4, o3, o2, o1, Z, d1, d2, d3, d4, d5, Nw, hZ⟩ := S7.news
  have F := S7.F
  k_steps
  rename Fr hG _ _ _ => F'
  rename News hG _ _ _ => N'
  have v' := gv_step N' (fun a o g => by have := (hZ a o).mp g; simp only [List.mem_cons, this, or_true])
  have gG := v' _ _ gG
  simp only [List.toList_toArray] at gG
  refine K _ _ _ lG _ _ (.of_news F' N' (by k_mem) (by k_mem) (by k_mem) (by k_mem) (by k_mem) (by k_mem) d1 d2 d3 d4 d5 h194) (fun a o g => v' a o (v67 a o (vb a o (v05 a o g)))) (fun x hx => ?_) rfl gG (pG.mono v')
  simp only [if_neg hx]
  split
  · rename_i e; rw [e, hrow]
  · split
    · rename_i e; rw [e, hsec]
    · rfl
end
end Mine
end
/-! part T3 -/
section
open PySem PySem.W PyProof.Rows PySem.Spec PySem.Calls
set_option maxRecDepth 100000
set_option maxHeartbeats 1000000
namespace Mine
/-! ## a comprehension over a generator -/
def hvs (N₀ : Nat) (X : List Addr) (h : Heap) : View := fun b o => b ∉ X ∧ (b < N₀ ∨ ¬ stepCls o) ∧ h.get? b = some o
section
variable {prog : Program} {w : World} {A : Around} {E : Value → Shared → Prop} {s : Shared} {env : Env}
structure GenIn (prog : Program) (w : World) (A : Around) (env : Env) (scope : Scope) (cl : List (Str × Addr)) (x : Str) (elt : Expr) (Q : Value → Shared → Prop) (a : Addr) (N₀ g : Nat) (hB : Heap) (vals : List N) (s₁ : Shared) : Prop where
  gen : GenAt prog w A a N₀ g hB vals vals.length s₁
  hh : A.handled = none
  lim : hB.NoLimit
  room : A.depth < recursionLimit
  size : vals.length ≤ sizeLine
  le : N₀ ≤ s₁.heap.objs.size
  out : ∃ Inv : Nat → List Value → View → Prop, (∀ j ys G G', vle G G' → Inv j ys G → Inv j ys G') ∧ (∀ j ys G, Inv j ys G → ys.length ≤ j) ∧ Inv 0 [] (fun _ _ => False) ∧
    (∀ C X j t ys s₃ oC m₃ E', N₀ ≤ C → (∀ b ∈ X, ∃ o, s₃.heap.get? b = some o) → vals[j]? = some t → s₃.heap.get? C = some oC → (∀ h : Heap, h.get? C = some oC → h.Ns C m₃) → m₃ x = some t.val → hB.StaysIn s₃.heap → Inv j ys (hvs N₀ X s₃.heap) →
        wpAny (model prog w) A (eval elt (compEnvK scope cl C env)) (fun y s₆ => Keeps s₃ s₆ ∧ Inv (j + 1) (ys ++ [y]) (hvs N₀ X s₆.heap)) E' s₃) ∧
    (∀ D X s' ys, N₀ ≤ D → s'.heap.PlainList D ys.toArray → Inv vals.length ys (hvs N₀ X s'.heap) → hB.StaysIn s'.heap → s'.drawn = s₁.drawn → s'.os = s₁.os → s₁.toks ≤ s'.toks → (∀ i, i < g → s'.gens[i]? = s₁.gens[i]?) → AllFin g s' → Q (.ref D) s')
structure GLoop (prog : Program) (w : World) (A : Around) (a : Addr) (N₀ g : Nat) (hB : Heap) (vals : List N) (Inv : Nat → List Value → View → Prop) (D C : Addr) (s₁ : Shared) (j : Nat) (ys : List Value) (s' : Shared) : Prop where
  le : j ≤ vals.length
  gen : GenAt prog w A a N₀ g hB vals (vals.length - j) s'
  acc : s'.heap.PlainList D ys.toArray
  ns : ∃ m, s'.heap.Ns C m
  cls : HasCls s'.heap C (.type "dict")
  inv : Inv j ys (hvs N₀ [D, C] s'.heap)
  drawn : s'.drawn = s₁.drawn
  os : s'.os = s₁.os
  toks : s₁.toks ≤ s'.toks
  gens : ∀ i, i < g → s'.gens[i]? = s₁.gens[i]?
theorem compG {elt iter : Expr} {x : Str} {px : Pos} {scope : Scope} {pos : Pos} {cl : List (Str × Addr)} {Q : Value → Shared → Prop}
    (hclos : closureFor scope env = pure cl) (hpc : ∀ h, pushCells h scope.names = h) (hcf : ∀ n, cellsFrom n scope.names cl = cl)
    (hkind : scope.kind = .function) (hnames : ∀ y ∈ scope.names, y.2 = .local → scope.names.lookup y.1 = some .local) (hx : scope.names.lookup x = some .local)
    (h : wpAny (model prog w) A (eval iter env) (fun xv s₁ => ∃ a N₀ g hB vals, xv = .ref a ∧ GenIn prog w A env scope cl x elt Q a N₀ g hB vals s₁) E s)
    (hs : ∀ x, foldedSetIterable iter env x = pure x := by intro _; rfl) :
    wpAny (model prog w) A (eval (.ListComp elt [⟨.Name x px, iter, [], 0⟩] scope pos) env) Q E s := by
  rw [eval_ListComp]
  refine wpAny_comprehension_free (use := none) rfl hs hclos hkind hnames (wpAny_mono h (fun xv s₁ h₁ => ?_) fun _ _ e => e)
  obtain ⟨a, N₀, g, hB, vals, rfl, GI⟩ := h₁
  obtain ⟨Inv, hmono, hlen, h0, turn, hfin⟩ := GI.out
  refine wpAny_pyIter_gen GI.gen.gen ?_
  refine wpAny_newObj_type ?_
  refine newEnv_comp ?_
  simp only [hpc, hcf, newEnv]
  generalize hH2 : s₁.heap.push { cls := .type "list", dict := none, data := .seq ([] : List Value).toArray } = H2
  have hC : H2.objs.size = s₁.heap.objs.size + 1 := by rw [← hH2, Heap.size_push]
  have hDC : s₁.heap.objs.size ≠ H2.objs.size := by rw [hC]; exact Nat.ne_of_lt (Nat.lt_succ_self _)
  have hND : N₀ ≤ s₁.heap.objs.size := GI.le
  have hNC : N₀ ≤ H2.objs.size := by rw [hC]; exact Nat.le_succ_of_le hND
  have old : ∀ b o, s₁.heap.get? b = some o → (H2.push { cls := .type "dict", data := .dict #[] }).get? b = some o := fun b o e => Heap.get?_push_of_some _ (hH2 ▸ Heap.get?_push_of_some _ e)
  have hacc : (H2.push { cls := .type "dict", data := .dict #[] }).PlainList s₁.heap.objs.size (#[] : Array Value) := ⟨_, Heap.get?_push_of_some _ (hH2 ▸ Heap.get?_push_size _ rfl)⟩
  generalize hDd : s₁.heap.objs.size = D at *
  generalize hCc : H2.objs.size = C at *
  have hbD : hB.objs.size ≤ D := Nat.le_trans GI.gen.low hND
  have hbC : hB.objs.size ≤ C := Nat.le_trans GI.gen.low hNC
  have neB : ∀ b o, hB.get? b = some o → b ≠ D ∧ b ≠ C := fun b o e => ⟨Nat.ne_of_lt (Nat.lt_of_lt_of_le (Heap.lt_size e) hbD), Nat.ne_of_lt (Nat.lt_of_lt_of_le (Heap.lt_size e) hbC)⟩
  have start : GLoop prog w A a N₀ g hB vals Inv D C s₁ 0 [] { s₁ with heap := H2.push { cls := .type "dict", data := .dict #[] } } :=
    ⟨Nat.zero_le _, GI.gen.sleep ⟨fun b o e => old b o (GI.gen.base b o e), fun b o _ e _ => old b o e, fun _ _ => rfl, rfl⟩ rfl, hacc, ⟨_, hCc ▸ Heap.Ns.new ..⟩, ⟨_, by rw [← hCc]; exact Heap.get?_push_size _ rfl, rfl⟩,
      hmono _ _ _ _ (fun _ _ e => e.elim) h0, rfl, rfl, Nat.le_refl _, fun _ _ => rfl⟩
  have loop : codeAny (model prog w) A (.compLoop (.ListComp elt [⟨.Name x px, iter, [], 0⟩] scope pos) 0 (.ref a) (.ref D) (compEnvK scope cl C env))
      (compPost (model prog w) A E none Q (.ref D) C) { s₁ with heap := H2.push { cls := .type "dict", data := .dict #[] } } := by
    refine codeAny_compLoop_tests (fun k s' => ∃ j ys, k = vals.length + 1 - j ∧ GLoop prog w A a N₀ g hB vals Inv D C s₁ j ys s') ?_ (vals.length + 1) ⟨0, [], rfl, start⟩ (fun _ => rfl)
    rintro k s' ⟨j, ys, rfl, S⟩
    obtain ⟨nD, eD⟩ := S.acc
    obtain ⟨oC0, eC, cC⟩ := S.cls
    obtain ⟨m₀, hns0⟩ := S.ns
    have clsD : ∀ o : Obj, o.cls = .type "list" → ¬ sleepCls o := fun o e => by rintro (h | h | h) <;> (rw [e] at h; revert h; decide)
    have clsC : ∀ o : Obj, o.cls = .type "dict" → ¬ sleepCls o := fun o e => by rintro (h | h | h) <;> (rw [e] at h; revert h; decide)
    have st_sl : ∀ o : Obj, ¬ sleepCls o → ¬ stepCls o := fun o h k => h (k.elim .inl fun k => .inr (.inl k))
    have after : ∀ s₂ : Shared, Gua N₀ g s' s₂ → s₂.heap.get? D = some (listOf ys.toArray nD) ∧ s₂.heap.get? C = some oC0 ∧ Inv j ys (hvs N₀ [D, C] s₂.heap) := fun s₂ gu =>
      ⟨gu.heap _ _ eD (.inr (st_sl _ (clsD _ rfl))), gu.heap _ _ eC (.inr (st_sl _ (clsC _ cC))), hmono _ _ _ _ (fun b o e => ⟨e.1, e.2.1, gu.heap b o e.2.2 e.2.1⟩) S.inv⟩
    refine genAt_next GI.hh (GI.lim.keeps S.gen.base) GI.room S.gen (fun m t s₂ hj ht gu G2 => ?_) (fun hj s₂ gu af => ?_)
    · obtain ⟨eD₂, eC₂, inv₂⟩ := after s₂ gu
      have hjl : j < vals.length := by omega
      obtain rfl : m = vals.length - (j + 1) := by omega
      have htj : vals[j]? = some t := by
        rw [List.getElem?_reverse (by omega)] at ht
        rwa [show vals.length - 1 - (vals.length - (j + 1)) = j by omega] at ht
      have hns₂ : s₂.heap.Ns C m₀ := hns0.at' fun o e => by rw [eC] at e; cases e; exact eC₂
      show wpAny _ _ (assign (.Name x px) (compEnvK scope cl C env) (.ref t.addr)) _ _ _
      refine wpAny_assign_Name (stC (lookup_relabel_local hx) hns₂ ⟨oC0, eC₂, cC⟩ (fun h₄ n₄ b₄ c₄ => ?_) (by simp [compEnvK, relabel, hkind]))
      replace n₄ : h₄.Ns C (fun y => if y = x then some t.val else m₀ y) := n₄
      replace b₄ : Heap.SameBut C s₂.heap h₄ := b₄
      replace c₄ : HasCls h₄ C (.type "dict") := c₄
      show wpAny _ _ (pure true) _ _ _
      refine wpAny_pure ?_
      rw [if_pos rfl]
      obtain ⟨oC, es, ep, hoC, r⟩ := id n₄
      have hcC : oC.cls = .type "dict" := by obtain ⟨o', e', c'⟩ := c₄; rw [hoC] at e'; cases e'; exact c'
      have eD₄ : h₄.get? D = some (listOf ys.toArray nD) := b₄.extBut _ _ hDC eD₂
      have base₄ : hB.StaysIn h₄ := fun b o e => b₄.extBut b o (neB b o e).2 (G2.base b o e)
      have inv₄ : Inv j ys (hvs N₀ [D, C] h₄) := hmono _ _ _ _ (fun b o e => ⟨e.1, e.2.1, b₄.extBut b o (fun q => e.1 (by rw [q]; exact .tail _ (.head _))) e.2.2⟩) inv₂
      refine wpAny_mono (wpAny_toks (turn C [D, C] j t ys { s₂ with heap := h₄, toks := s₂.toks + 1 } oC _ _ hNC ?_ htj hoC (fun h e => ⟨oC, es, ep, e, r⟩) (if_pos rfl) base₄ inv₄)) (fun y s₆ h₆ => ?_) fun _ _ e => e.2
      · intro b hb
        simp only [List.mem_cons, List.not_mem_nil, or_false] at hb
        rcases hb with rfl | rfl
        · exact ⟨_, eD₄⟩
        · exact ⟨_, hoC⟩
      · obtain ⟨htk, ⟨h6, tk6, rfl, hk6⟩, hI⟩ := h₆
        have hlen' := hlen _ _ _ S.inv
        have hsz := GI.size
        refine wpAny_list_append_plain (hsz := by simp; omega) (l := D) (items := ys.toArray) ⟨nD, hk6 _ _ eD₄⟩ fun h₇ hl₇ hs₇ => ?_
        have chain : ∀ b o, b ≠ D → b ≠ C → s₂.heap.get? b = some o → h₇.get? b = some o := fun b o h1 h2 e => hs₇.extBut b o h1 (hk6 b o (b₄.extBut b o h2 e))
        refine ⟨vals.length + 1 - (j + 1), by omega, j + 1, ys ++ [y], rfl, ⟨hjl, ?_, by simpa using hl₇, ⟨_, (n₄.keeps hk6).sameBut hs₇ (Ne.symm hDC)⟩, ⟨oC, hs₇.extBut _ _ (Ne.symm hDC) (hk6 _ _ hoC), hcC⟩, ?_, ?_, ?_, ?_, ?_⟩⟩
        · refine G2.sleep ⟨fun b o e => chain b o (neB b o e).1 (neB b o e).2 (G2.base b o e), fun b o hb e c => chain b o (fun q => ?_) (fun q => ?_) e, fun _ _ => rfl, rfl⟩ rfl
          · subst q; rw [eD₂] at e; cases e; exact clsD _ rfl c
          · subst q; rw [eC₂] at e; cases e; exact clsC _ cC c
        · exact hmono _ _ _ _ (fun b o e => ⟨e.1, e.2.1, hs₇.extBut b o (fun q => e.1 (by rw [q]; exact .head _)) e.2.2⟩) hI
        · exact gu.drawn.trans S.drawn
        · exact gu.os.trans S.os
        · exact Nat.le_trans S.toks (Nat.le_trans gu.toks (Nat.le_of_succ_le htk))
        · exact fun i hi => (gu.gens i hi).trans (S.gens i hi)
    · obtain ⟨eD₂, eC₂, inv₂⟩ := after s₂ gu
      obtain rfl : j = vals.length := by have := S.le; omega
      have base₂ : hB.StaysIn s₂.heap := fun b o e => gu.heap b o (S.gen.base b o e) (.inl (Nat.lt_of_lt_of_le (Heap.lt_size e) S.gen.low))
      refine ⟨m₀, hns0.at' fun o e => by rw [eC] at e; cases e; exact eC₂, fun h'' hs'' => ?_⟩
      exact hfin D [D, C] { s₂ with heap := h'' } ys hND ⟨nD, hs''.extBut _ _ hDC eD₂⟩ (hmono _ _ _ _ (fun b o e => ⟨e.1, e.2.1, hs''.extBut b o (fun q => e.1 (by rw [q]; exact .tail _ (.head _))) e.2.2⟩) inv₂)
        (fun b o e => hs''.extBut b o (neB b o e).2 (base₂ b o e)) (gu.drawn.trans S.drawn) (gu.os.trans S.os) (Nat.le_trans S.toks gu.toks) (fun i hi => (gu.gens i hi).trans (S.gens i hi)) af
  exact codeAny_compStart_list loop (wpAny_pyIter_gen start.gen.gen loop)
end
end Mine
end
/-! part T4 -/
section
open PySem PySem.W PyProof.Rows PySem.Spec PySem.Calls
set_option maxRecDepth 100000
set_option maxHeartbeats 4000000
namespace Mine
section
variable {w : World} {p : Program} {loose : List Str} {mean : ExcName → Option Value} {mg mb : Str → Option Value} {hB : Heap} {f c' : Addr} {qual : Str} {params : Arguments} {body : Expr} {scope : Scope} {pm ctv : Value} {pr : N → Bool}
theorem lam_pred (X : (hd.heap_39 w.params).In hB) (T : Top p loose mean mg mb hB) (ho : hB.get? f = some (kla_obj "<lambda>" qual params body scope [] pm c' ctv)) (hcd : hB.CodeRec (.ref c') qual)
    (hbind : ∀ v, bindArgs (kla_fn "<lambda>" qual params body scope [] pm (.ref c') ctv) ⟨[v], []⟩ = pure [(("one" : Str), v)]) (hloc : scope.names.lookup ("one" : Str) = some .local)
    (hco : scope.isCoroutine = false) (hgen : scope.isGenerator = false) (hk : scope.kind = .function) (hcell : ∀ x ∈ scope.names, x.2 ≠ .cell)
    (hbody : ∀ (A : Around) (s : Shared) (L' : Addr) (h₁ : Heap) (tk : Nat) (E : Value → Shared → Prop) (k : N), A.handled = none → A.depth + 5 < recursionLimit → A.units + 50 < cLine → (hd.heap_39 w.params).In s.heap → Top p loose mean mg mb s.heap → Fr s.heap L' h₁ (fun y => [(("one" : Str), k.val)].lookup y) →
      TV (hv s.heap) k → k.isTree = false → wpAny (model PySem.Challenge.rw_fi0013_01.row.prog w) A (eval body (envX qual scope L' f (.ref c') [])) (fun v s' => Opq (Keeps { s with heap := h₁, toks := tk } s' ∧ v = .bool (pr k))) E { s with heap := h₁, toks := tk }) :
    PredOk PySem.Challenge.rw_fi0013_01.row.prog w hB f pr ∧ FnAt f hB := by
  refine ⟨fun A s E k hh hd hu bs tv ht => ?_, ⟨_, _, _, _, ho⟩⟩
  have T' := T.keeps bs
  refine wpAny_mono (wpAny_toks (Q := fun x s' => Keeps s s' ∧ x = .bool (pr k)) ?_) (fun x s' h => ⟨h.2.1, h.1, h.2.2⟩) fun _ _ e => e.2
  refine wpAny_call (kla_callFunE (by omega) (bs _ _ ho) rfl hco hgen rfl (hcd.keeps bs) ?_)
  rw [hbind]
  refine wpAny_pure (wpAny_newFunctionEnv hcell (fun y hy => by obtain rfl := List.mem_singleton.mp hy; exact hloc) (fun h₁ hns hsb => ⟨T'.nolimit.fresh _ hsb, kla_codeExpr ?_⟩) hk)
  have hk₁ : ∀ b o, s.heap.get? b = some o → h₁.get? b = some o := fun b o e => hsb.extBut b o (Nat.ne_of_lt (Heap.lt_size e)) (Heap.get?_push_of_some _ e)
  refine wpAny_mono (hbody (A.deeper _) s s.heap.objs.size h₁ _ _ k hh (by show A.depth + 1 + 5 < _; omega) (by show A.units + 3 + 50 < _; omega) (X.keeps bs) T' ⟨hns, hk₁, Nat.le_refl _⟩ (tv.mono fun a o e => bs a o e) ht) (fun v s' h => ?_) fun _ _ e => e
  obtain ⟨⟨h', tk', rfl, hk'⟩, rfl⟩ := h
  exact ⟨⟨h', tk', rfl, fun b o e => hk' b o (hk₁ b o e)⟩, rfl⟩
end
end Mine
end
/-! part T5 -/
section
open PySem PySem.W PyProof.Rows PySem.Spec PySem.Calls
set_option maxRecDepth 100000
set_option maxHeartbeats 4000000
namespace Mine
inductive ElsV (El : View → Value → N → Prop) (G : View) : List Value → List N → Prop where
  | nil : ElsV El G [] []
  | cons {v vs t ts} : El G v t → ElsV El G vs ts → ElsV El G (v :: vs) (t :: ts)
section
variable {El : View → Value → N → Prop}
theorem ElsV.mono (hm : ∀ G G' v t, vle G G' → El G v t → El G' v t) {G G' : View} (h : vle G G') : ∀ {vs ts}, ElsV El G vs ts → ElsV El G' vs ts
  | _, _, .nil => .nil
  | _, _, .cons a b => .cons (hm _ _ _ _ h a) (b.mono hm h)
theorem ElsV.snoc {G : View} {v t} : ∀ {vs ts}, ElsV El G vs ts → El G v t → ElsV El G (vs ++ [v]) (ts ++ [t])
  | _, _, .nil, h => .cons h .nil
  | _, _, .cons a b, h => .cons a (b.snoc h)
theorem ElsV.length {G : View} : ∀ {vs ts}, ElsV El G vs ts → vs.length = ts.length
  | _, _, .nil => rfl
  | _, _, .cons _ b => by simp [b.length]
end
def FrS (h h' : Heap) : View := fun b o => h.get? b = none ∧ ¬ stepCls o ∧ h'.get? b = some o
mutual
theorem toks_isTok : ∀ t : N, ∀ k ∈ t.toks, k.isTree = false
  | .tok _ _ _ _, k, h => by simp only [N.toks, List.mem_singleton] at h; subst h; rfl
  | .tree _ _ _ _ ks, k, h => tokss_isTok ks k h
theorem tokss_isTok : ∀ ts : List N, ∀ k ∈ N.tokss ts, k.isTree = false
  | [], _, h => nomatch h
  | t :: ts, k, h => by
    rcases List.mem_append.mp h with h | h
    · exact toks_isTok t k h
    · exact tokss_isTok ts k h
end
mutual
theorem TV.toks {G : View} : ∀ {t : N}, TV G t → ∀ k ∈ t.toks, TV G k
  | .tok _ _ _ _, h, k, m => by simp only [N.toks, List.mem_singleton] at m; subst m; exact h
  | .tree _ _ _ _ ks, .tree _ _ _ _ hk, k, m => TVs.tokss hk k m
theorem TVs.tokss {G : View} : ∀ {ts : List N}, TVs G ts → ∀ k ∈ N.tokss ts, TV G k
  | [], _, _, m => nomatch m
  | t :: ts, .cons a b, k, m => by
    rcases List.mem_append.mp m with m | m
    · exact a.toks k m
    · exact b.tokss k m
end
mutual
theorem ntoks_len : ∀ t : N, t.toks.length ≤ t.row.size
  | .tok _ _ _ _ => Nat.le_refl _
  | .tree _ _ _ _ ks => by have := ntokss_len ks; simp only [N.toks, N.row, Row.size]; omega
theorem ntokss_len : ∀ ts : List N, (N.tokss ts).length ≤ Row.sizes (N.rows ts)
  | [] => Nat.zero_le _
  | t :: ts => by have := ntoks_len t; have := ntokss_len ts; simp only [N.tokss, N.rows, Row.sizes, List.length_append]; omega
end
section
variable {w : World} {p : Program} {loose : List Str} {mean : ExcName → Option Value} {mg mb : Str → Option Value} {A : Around} {hG : Heap} {L : Nat} {m : Str → Option Value} {s : Shared} {E Q : Value → Shared → Prop} {env : Env} {vT vN vO vH vA : Option Value} {ps : Array Value}
  {scope : Scope} {elt : Expr} {f : Addr} {pr : N → Bool} {El : View → Value → N → Prop}
theorem law_scan (G : LG w p loose mean mg mb A hG) (S : LSt hG L m vT vN vO vH vA ps s.heap) {t : N} (tv : TV (gv hG L s.heap) t) (ht : t.isTree = true) (hz : t.row.size ≤ 100) (PO : PredOk PySem.Challenge.rw_fi0013_01.row.prog w s.heap f pr ∧ FnAt f s.heap)
    (hm : ∀ G G' v t, vle G G' → El G v t → El G' v t)
    (turn : ∀ C t' s₃ oC m₃ E', s.heap.objs.size ≤ C → t' ∈ t.toks → s₃.heap.get? C = some oC → (∀ h : Heap, h.get? C = some oC → h.Ns C m₃) → m₃ ("one" : Str) = some t'.val → s.heap.StaysIn s₃.heap →
      wpAny (model PySem.Challenge.rw_fi0013_01.row.prog w) (A.deeper env) (eval elt (compEnvK scope [] C env)) (fun y s₆ => Keeps s₃ s₆ ∧ El (FrS s₃.heap s₆.heap) y t') E' s₃)
    (fin : ∀ D h' gens' tk' ys n, LSt hG L m vT vN vO vH vA ps h' → vle (gv hG L s.heap) (gv hG L h') → gv hG L h' D (listOf (ys : List Value).toArray n) → ElsV El (gv hG L h') ys (t.toks.filter pr) → (∀ i, i < s.gens.size → gens'[i]? = s.gens[i]?) →
      (∀ i x, s.gens.size ≤ i → gens'[i]? = some x → x = .finished) → Q (.ref D) ⟨h', gens', s.drawn, tk', s.os⟩) :
    wpAny (model PySem.Challenge.rw_fi0013_01.row.prog w) (A.deeper env) (call (.ref 132) [t.val, .ref f])
      (fun xv s₁ => ∃ a N₀ g hB vals, xv = .ref a ∧ GenIn PySem.Challenge.rw_fi0013_01.row.prog w (A.deeper env) env scope [] "one" elt Q a N₀ g hB vals s₁) E s := by
  have X1 := G.X.keeps S.F.keep
  have T1 := G.T.keeps S.F.keep
  have hd := G.dep
  have hu := G.uni
  have hhs := hgt_size t.row
  have hrefl : s.heap.StaysIn s.heap := fun _ _ e => e
  refine wpAny_mono (scan_call X1 T1 (scan_go X1 T1 PO.1 PO.2 (t.row.size + 1)) (Nat.lt_succ_self _) ht (tv.mono gv_hv) (by show A.depth + 1 < _; omega) hrefl (Nat.le_refl _)) (fun x s₁ hs => ?_) fun _ _ e => e
  obtain ⟨a, rfl, ha, hk, hdr, hos, htk, ⟨gs, hgs⟩, GA⟩ := hs
  have G1 := GA (A.deeper env) G.hh (by show A.depth + 1 + _ + _ < _; omega) (by show A.units + 3 + _ + _ < _; omega)
  have hle : s.heap.objs.size ≤ s₁.heap.objs.size := by
    obtain ⟨o, _, _, ho, _⟩ := G1.gen
    exact Nat.le_of_lt (Nat.lt_of_le_of_lt ha (Heap.lt_size ho))
  refine ⟨a, s.heap.objs.size, s.gens.size, s.heap, t.toks.filter pr, rfl, G1, G.hh, T1.nolimit, by show A.depth + 1 < _; omega, ?_, hle, fun j ys G => ElsV El (fun b o => s.heap.get? b = none ∧ G b o) ys ((t.toks.filter pr).take j), ?_, ?_, .nil, ?_, ?_⟩
  · have h1 := List.length_filter_le pr t.toks
    have h2 := ntoks_len t
    rw [sizeLine_eq]; omega
  · exact fun j ys G G' h x => x.mono hm fun b o e => ⟨e.1, h b o e.2⟩
  · intro j ys G x
    rw [x.length, List.length_take]; exact Nat.min_le_left _ _
  · intro C X j t' ys s₃ oC m₃ E' hC hX htj hoC hns hm' hbs hI
    refine wpAny_mono (turn C t' s₃ oC m₃ E' hC ?_ hoC hns hm' hbs) (fun y s₆ h₆ => ?_) fun _ _ e => e
    · exact (List.mem_filter.mp (List.mem_of_getElem? htj)).1
    · obtain ⟨hk₆, he⟩ := h₆
      refine ⟨hk₆, ?_⟩
      replace hI : ElsV El (fun b o => s.heap.get? b = none ∧ hvs s.heap.objs.size X s₃.heap b o) ys ((t.toks.filter pr).take j) := hI
      show ElsV El (fun b o => s.heap.get? b = none ∧ hvs s.heap.objs.size X s₆.heap b o) (ys ++ [y]) ((t.toks.filter pr).take (j + 1))
      rw [take_succ_get htj]
      refine (hI.mono hm fun b o e => ⟨e.1, e.2.1, e.2.2.1, kold hk₆ b o e.2.2.2⟩).snoc (hm _ _ _ _ (fun b o e => ⟨?_, fun q => ?_, .inr e.2.1, e.2.2⟩) he)
      · cases q : s.heap.get? b with
        | none => rfl
        | some o' => have := hbs _ _ q; rw [e.1] at this; cases this
      · obtain ⟨o', e'⟩ := hX b q
        rw [e.1] at e'; cases e'
  · intro D X s' ys hD hl hI hbs hdr' hos' htk' hg' haf
    obtain ⟨n, hl⟩ := hl
    replace hI : ElsV El (fun b o => s.heap.get? b = none ∧ hvs s.heap.objs.size X s'.heap b o) ys ((t.toks.filter pr).take (t.toks.filter pr).length) := hI
    rw [List.take_of_length_le (Nat.le_refl _)] at hI
    obtain ⟨h', gens', dr', tk', os'⟩ := s'
    dsimp only at hdr' hos' hl hI hbs hg' haf
    obtain rfl := hdr'.trans hdr
    obtain rfl := hos'.trans hos
    refine fin D h' gens' tk' ys n (S.keeps hbs) (gv_keeps hbs) (S.frv _ _ ⟨Heap.get?_none_of_le hD, hl⟩) (hI.mono hm fun b o e => S.frv _ _ ⟨e.1, e.2.2.2⟩) (fun i hi => ?_) haf
    rw [hg' i hi, hgs]
    exact push_lt' hi
end
end Mine
end
/-! part P2 -/
section
open PySem PySem.W PyProof.Rows PySem.Spec PySem.Calls
set_option maxRecDepth 100000
set_option maxHeartbeats 4000000
namespace Mine
/-! ## lists of pairs, compared -/
def pd (q : Str × Int) : PyData := .tuple [.str q.1, .int q.2]
theorem PV.reads {h : Heap} {v : Value} {q : Str × Int} : PV (hv h) v q → Reads h v (pd q) []
  | ⟨a, t, u, e, o, g, c, n, d⟩ => by
    subst e
    simpa [pd] using Reads.tuple g c d (.cons (.str _ _) (.cons (.int _ _) .nil))
theorem PVs.reads {h : Heap} : ∀ {vs : List Value} {qs : List (Str × Int)}, PVs (hv h) vs qs → ReadsAll h vs (qs.map pd) []
  | _, _, .nil => .nil
  | _, _, .cons a b => by simpa using ReadsAll.cons a.reads b.reads
theorem pds_eqv : ∀ a b : List (Str × Int), PyData.eqvAll (a.map pd) (b.map pd) = decide (a = b)
  | [], [] => by simp [PyData.eqvAll]
  | [], _ :: _ => by simp [PyData.eqvAll]
  | _ :: _, [] => by simp [PyData.eqvAll]
  | (x, i) :: a, (y, j) :: b => by
    simp only [List.map_cons, PyData.eqvAll, pds_eqv a b, pd, PyData.eqv]
    rw [Bool.eq_iff_iff]
    simp [and_assoc]
theorem pds_lay : ∀ a : List (Str × Int), (∀ q ∈ a, PyData.strOk q.1 = true) → PyData.canLayAll0 (a.map pd) = true
  | [], _ => rfl
  | q :: a, h => by simp [PyData.canLayAll0, pd, PyData.canLay0, h q (.head _), pds_lay a fun x hx => h x (.tail _ hx)]
theorem pds_depth : ∀ a : List (Str × Int), PyData.depthAll (a.map pd) ≤ 1
  | [] => by simp [PyData.depthAll]
  | q :: a => by have := pds_depth a; simp [PyData.depthAll, pd, PyData.depth]; omega
section
variable {prog : Program} {w : World} {A : Around} {E : Value → Shared → Prop} {s : Shared} {a b : Addr} {qa qb : List (Str × Int)} {va vb : List Value} {n1 n2 : Nat} {Q : Value → Shared → Prop}
theorem cmpNe_pairs (ga : s.heap.get? a = some (W.listOf va.toArray n1)) (gb : s.heap.get? b = some (W.listOf vb.toArray n2)) (ha : PVs (hv s.heap) va qa) (hb : PVs (hv s.heap) vb qb) (ka : ∀ q ∈ qa, PyData.strOk q.1 = true) (kb : ∀ q ∈ qb, PyData.strOk q.1 = true)
    (hu : A.units + 10 < cLine) (h : Q (.bool (!decide (qa = qb))) s) : wpAny (model prog w) A (compareOp .NotEq (.ref a) (.ref b)) Q E s := by
  have ra : Reads s.heap (.ref a) (.list (qa.map pd)) _ := Reads.list ga rfl rfl (by simpa using ha.reads)
  have rb : Reads s.heap (.ref b) (.list (qb.map pd)) _ := Reads.list gb rfl rfl (by simpa using hb.reads)
  refine SeqAt.compareNe_reads ra rb (by simpa [PyData.canLay0] using pds_lay _ ka) (by simpa [PyData.canLay0] using pds_lay _ kb) ?_ (by simpa [PyData.eqv, pds_eqv] using h)
  have := pds_depth qa
  simp only [PyData.depth]
  omega
end
def pairN : N → Str × Int
  | .tok _ _ ty v => (ty, v)
  | .tree _ _ _ _ _ => ("", 0)
theorem els_pairs {G : View} : ∀ {vs : List Value} {ts : List N}, ElsV (fun G v t => PV G v (pairN t)) G vs ts → PVs G vs (ts.map pairN)
  | _, _, .nil => .nil
  | _, _, .cons a b => .cons a (els_pairs b)
mutual
theorem ntoks_row : ∀ t : N, t.toks.map pairN = t.row.toks
  | .tok _ _ _ _ => rfl
  | .tree _ _ _ _ ks => ntokss_rows ks
theorem ntokss_rows : ∀ ts : List N, (N.tokss ts).map pairN = Row.tokss (N.rows ts)
  | [] => rfl
  | t :: ts => by simp only [N.tokss, N.rows, Row.tokss, List.map_append, ntoks_row t, ntokss_rows ts]
end
mutual
theorem toks_ok : ∀ r : Row, r.ok = true → ∀ q ∈ r.toks, PyData.strOk q.1 = true
  | .tok t v, h, q, hq => by simp only [Row.toks, List.mem_singleton] at hq; subst hq; exact h
  | .tree n ks, h, q, hq => by simp only [Row.ok, Bool.and_eq_true] at h; exact tokss_ok ks h.2 q hq
theorem tokss_ok : ∀ r : List Row, Row.oks r = true → ∀ q ∈ Row.tokss r, PyData.strOk q.1 = true
  | [], _, q, hq => nomatch hq
  | r :: rs, h, q, hq => by
    simp only [Row.oks, Bool.and_eq_true] at h
    rcases List.mem_append.mp hq with hq | hq
    · exact toks_ok r h.1 q hq
    · exact tokss_ok rs h.2 q hq
end
def Fins (a b : Array GenState) : Prop := ∀ (i : Nat) (x : GenState), b[i]? = some x → a[i]? = some x ∨ x = GenState.finished
theorem Fins.of {a b : Array GenState} (h1 : ∀ i : Nat, i < a.size → b[i]? = a[i]?) (h2 : ∀ (i : Nat) (x : GenState), a.size ≤ i → b[i]? = some x → x = GenState.finished) : Fins a b := fun i x e => by
  by_cases h : i < a.size
  · exact .inl ((h1 i h).symm.trans e)
  · exact .inr (h2 i x (Nat.le_of_not_lt h) e)
theorem Fins.trans {a b c : Array GenState} (x : Fins a b) (y : Fins b c) : Fins a c := fun i z e => by
  rcases y i z e with h | h
  · exact x i z h
  · exact .inr h
theorem Fins.refl (a : Array GenState) : Fins a a := fun _ _ e => .inl e
end Mine
end
/-! part L16 -/
section
open PySem PySem.W PyProof.Rows PySem.Spec PySem.Calls
set_option maxRecDepth 100000
set_option maxHeartbeats 4000000
namespace Mine
section
local macro_rules | `(tactic| tm_at "my compG") => `(tactic| (refine ⟨?_⟩; k_dflt (refine' compG (cl := []) ?hclos ?hpc ?hcf ?hkind ?hnames ?hx ?_ ?hs; (case hclos => exact closureFor_none (by decide)); (case hpc => exact fun _ => rfl); (case hcf => exact fun _ => rfl); (case hkind => exact rfl); (case hnames => decide); (case hx => exact rfl); (case hs => exact fun _ => rfl); k_whole)))
local macro_rules | `(tactic| tm_at "w compareOp NotEq ref ref") => `(tactic| refine stop_here ?_)
local macro_rules | `(tactic| tm_at "w newTuple") => `(tactic| refine stop_here ?_)
local macro_rules | `(tactic| tm_at "w call ref") => `(tactic| ((with_reducible show wpAny _ _ (call (Value.ref 132) _ _) _ _ _); refine stop_here ?_))
def isX : N → Bool
  | .tok _ _ ty _ => ty == "X"
  | .tree _ _ _ _ _ => false
def firstX (q : Str × Int) : Bool := q.1 == "X"
theorem PVs.get {G : View} : ∀ {vs : List Value} {rs : List (Str × Int)} (_ : PVs G vs rs) {i : Nat} {v : Value}, vs[i]? = some v → ∃ r, rs[i]? = some r ∧ PV G v r
  | _, _, .nil, _, _, e => by simp at e
  | _, _, .cons a _, 0, _, e => by simp at e; subst e; exact ⟨_, rfl, a⟩
  | _, _, .cons _ b, i + 1, _, e => by simp at e; obtain ⟨r, h1, h2⟩ := b.get e; exact ⟨r, by simpa using h1, h2⟩
theorem PVs.snoc {G : View} {v r} : ∀ {vs rs}, PVs G vs rs → PV G v r → PVs G (vs ++ [v]) (rs ++ [r])
  | _, _, .nil, h => .cons h .nil
  | _, _, .cons a b, h => .cons a (b.snoc h)
theorem filter_pairs (t : N) : (t.toks.filter isX).map pairN = (t.toks.map pairN).filter firstX := by
  have : ∀ l : List N, (∀ k ∈ l, k.isTree = false) → (l.filter isX).map pairN = (l.map pairN).filter firstX := by
    intro l
    induction l with
    | nil => intro _; rfl
    | cons k l ih =>
      intro h
      have ih := ih fun x hx => h x (.tail _ hx)
      have hk := h k (.head _)
      cases k with
      | tree => cases hk
      | tok a da ty v =>
        rw [List.map_cons, List.filter_cons, List.filter_cons]
        show List.map pairN (if (ty == "X") = true then _ else _) = if (ty == "X") = true then _ else _
        split
        · rw [List.map_cons, ih]
        · exact ih
  exact this _ (toks_isTok t)
theorem keeps_toks {s : Shared} {tk : Nat} : Keeps s { s with toks := tk } := ⟨s.heap, tk, rfl, fun _ _ e => e⟩
variable {w : World} {p : Program} {loose : List Str} {mean : ExcName → Option Value} {mg mb : Str → Option Value} {A : Around} {hG : Heap} {L : Nat} {m : Str → Option Value} {s : Shared} {E : Value → Shared → Prop} {Q : Flow → Shared → Prop}
theorem st16 (G : LG w p loose mean mg mb A hG) {vT vN vO vH : Option Value} {ab db lb ll : Addr} {nm : Str} {kb : List N} {lv : List Value} {ln : Nat} (hbo : m "both" = some (.ref ab)) (vb : TV (gv hG L s.heap) (.tree ab db lb nm kb)) (hz : (N.tree ab db lb nm kb).row.size ≤ 100) (hok : (N.tree ab db lb nm kb).row.ok = true)
    (hle : m "leaves" = some (.ref ll)) (gl : gv hG L s.heap ll (listOf lv.toArray ln)) (pl : PVs (gv hG L s.heap) lv (N.tree ab db lb nm kb).row.toks)
    (S : LSt hG L m vT vN vO vH none #[] s.heap) : ∀ oc od fd osl, (hd.heap_39 w.params).lookup 197 = some ⟨oc, od, .func fd, osl⟩ → ∀ rest,
    (∀ h' gens' tk' c1 c2, LSt hG L m vT vN vO vH none ((#[] ++ #[rawInt ((138 : Nat) : Int), rawInt ((0 : Nat) : Int), .ref c1]) ++ #[rawInt ((139 : Nat) : Int), rawInt ((0 : Nat) : Int), .ref c2]) h' → vle (gv hG L s.heap) (gv hG L h') → Fins s.gens gens' →
      wpAny (model PySem.Challenge.rw_fi0013_01.row.prog w) (A.deeper (lawEnv fd L)) (execs rest (lawEnv fd L)) Q E ⟨h', gens', s.drawn, tk', s.os⟩) →
    wpAny (model PySem.Challenge.rw_fi0013_01.row.prog w) (A.deeper (lawEnv fd L)) (execs (stmtAt fd 16 :: rest) (lawEnv fd L)) Q E s := by
  have G0 := G
  obtain ⟨hd0, dep, frs, gds, un⟩ := A
  obtain ⟨X, T, B, hh, hdp, hun, C⟩ := G
  obtain rfl : frs = some [] := B.stack
  obtain rfl : hd0 = none := hh
  dsimp only at hdp hun
  revert X; k_fill; intro X
  (with_unfolding_all k_dflt refine' (fn_case ?e ?h))
  case e => k_is
  case h =>
  intro rest K
  conv => arg 3; arg 1; arg 1; whnf
  dsimp only [lawEnv] at K ⊢
  obtain ⟨o5, o4, o3, o2, o1, Z, d1, d2, d3, d4, d5, Nw, hZ⟩ := S.news
  have h194 := S.lt194
  have z0 := zne hZ 194 (by simp [mutL])
  have F := S.F
  rw [upd_self hbo, upd_self hle] at F
  obtain ⟨_, _, _, _, _, _, _, itb, epb, hob, hodb, hlb, hitb, hkb⟩ := vb.invG
  have e1 : @Ne Nat ab 194 := fun q => hob.2.1 (by rw [show ab = 194 from q]; simp [mutL])
  have e2 : @Ne Nat db 194 := fun q => hodb.2.1 (by rw [show db = 194 from q]; simp [mutL])
  have N₀ := News.expose hob (News.expose hodb Nw)
  (try k_fold)
  k_steps
  tm_at "my compG"
  k_steps
  refine ⟨?_⟩
  rename Fr hG _ _ _ => F1
  rename News hG _ _ _ => N1
  rename _ = PySem.Data.fields _ => dc1
  rename _ = some (Value.str _ _) => dq1
  rename (ab < _ ∧ _) => lc
  rename _ < _ => lf
  rename_i f1 c1 oc1 vs1 tq1 ct1 h1 tk1
  have S1 := LSt.of_news F1 N1 (by k_mem) (by k_mem) (by k_mem) (by k_mem) (by k_mem) (by k_mem) d1 d2 d3 d4 d5 h194
  have v01 := gv_step N1 (fun a o g => by have := (hZ a o).mp g; simp only [List.mem_cons, this, or_true])
  have PO1 := lam_pred (pr := fun _ => true) (X.keeps F1.keep) (T.keeps F1.keep) (N1.get (.head _)) (codeRec_news N1 (.tail _ (.head _)) dc1 dq1) (fun _ => rfl) rfl rfl rfl rfl (by decide) (fun A s L' h₁ tk E k hh hd hu X T F tv ht => by
    k_steps
    exact ⟨keeps_refl _, rfl⟩)
  refine law_scan G0 S1 (t := .tree ab db lb nm kb) (vb.mono v01) rfl hz PO1 (El := fun G v t => PV G v (pairN t)) (fun G G' v t h x => x.mono h) ?_ ?_
  · intro C t' s₃ oC m₃ E' hC ht' hoC hns hm' hbs
    have tvt := (vb.mono v01).toks t' ht'
    cases tvt with
    | tree => exact absurd (toks_isTok _ _ ht') (by simp [N.isTree])
    | tok ga gda =>
      have F₃ := F1.keeps hbs
      have N₃ := News.expose (gv_keeps hbs _ _ ga) (News.expose (gv_keeps hbs _ _ gda) (news_add' F1 (N1.grown hbs) hoC hC))
      have hm2 : m₃ "one" = some (.ref _) := hm'
      clear hm' F1 N1
      k_steps
      refine ⟨wpAny_newTuple ?_⟩
      exact ⟨⟨_, _, rfl, fun b o e => Heap.get?_push_of_some _ e⟩, _, _, _, rfl, _, ⟨Heap.get?_none_of_le (Nat.le_refl _), by rintro (h | h) <;> (revert h; simp), Heap.get?_push_size _ rfl⟩, rfl, _, rfl⟩
  · intro D h2 gens2 tk2 ys n S2 v12 gD hE hg1 hg2
    have pv1 : PVs (gv hG L h2) ys (N.tree ab db lb nm kb).row.toks := by
      have := els_pairs hE
      rw [List.filter_eq_self.mpr (fun _ _ => rfl), ntoks_row] at this
      exact this
    have v02 : vle (gv hG L s.heap) (gv hG L h2) := fun a o g => v12 a o (v01 a o g)
    have tok_ok := toks_ok _ hok
    clear F1 N1 hZ d1 d2 d3 d4 d5 F Nw N₀ z0
    obtain ⟨o5, o4, o3, o2, o1, Z, d1, d2, d3, d4, d5, Nw, hZ⟩ := S2.news
    have z0 := zne hZ 194 (by simp [mutL])
    have F := S2.F
    have N₀ := News.expose (v02 _ _ hob) (News.expose (v02 _ _ hodb) Nw)
    dsimp only
    k_steps
    refine ⟨cmpNe_pairs gD.2.2 (v02 _ _ gl).2.2 (pv1.mono gv_hv) ((pl.mono v02).mono gv_hv) tok_ok tok_ok (by show un + 3 + 10 < _; omega) ?_⟩
    rw [decide_eq_true rfl, Bool.not_true]
    k_steps
    tm_at "my compG"
    k_steps
    refine ⟨?_⟩
    rename Fr hG _ _ _ => F3
    rename News hG _ _ _ => N3
    rename _ = PySem.Data.fields _ => dc2
    rename _ = some (Value.str _ _) => dq2
    rename_i f2 c2 oc2 vs2 tq2 ct2 h3 tk3 _ _
    have S3 := LSt.of_news F3 N3 (by k_mem) (by k_mem) (by k_mem) (by k_mem) (by k_mem) (by k_mem) d1 d2 d3 d4 d5 h194
    have v23 := gv_step N3 (fun a o g => by have := (hZ a o).mp g; simp only [List.mem_cons, this, or_true])
    have v03 : vle (gv hG L s.heap) (gv hG L h3) := fun a o g => v23 a o (v02 a o g)
    have PO2 := lam_pred (pr := isX) (X.keeps F3.keep) (T.keeps F3.keep) (N3.get (.head _)) (codeRec_news N3 (.tail _ (.head _)) dc2 dq2) (fun _ => rfl) rfl rfl rfl rfl (by decide) (fun A s L' h₁ tk E k hh hd hu X T F tv ht => by
      cases tv with
      | tree => cases ht
      | tok g1 g2 =>
        have I : InstAt s.heap _ _ 52 (some _) := ⟨g1, rfl, rfl, g2⟩
        have N := News.nil (h₀ := s.heap) (h := h₁) (L := L')
        k_steps
        exact ⟨keeps_toks, rfl⟩)
    refine law_scan G0 S3 (t := .tree ab db lb nm kb) (vb.mono v03) rfl hz PO2 (El := fun G v t => PV G v (pairN t)) (fun G G' v t h x => x.mono h) ?_ ?_
    · intro C t' s₃ oC m₃ E' hC ht' hoC hns hm' hbs
      have tvt := (vb.mono v03).toks t' ht'
      cases tvt with
      | tree => exact absurd (toks_isTok _ _ ht') (by simp [N.isTree])
      | tok ga gda =>
        have F₃ := F3.keeps hbs
        have N₃ := News.expose (gv_keeps hbs _ _ ga) (News.expose (gv_keeps hbs _ _ gda) (news_add' F3 (N3.grown hbs) hoC hC))
        have hm2 : m₃ "one" = some (.ref _) := hm'
        clear hm' F3 N3
        k_steps
        refine ⟨wpAny_newTuple ?_⟩
        exact ⟨⟨_, _, rfl, fun b o e => Heap.get?_push_of_some _ e⟩, _, _, _, rfl, _, ⟨Heap.get?_none_of_le (Nat.le_refl _), by rintro (h | h) <;> (revert h; simp), Heap.get?_push_size _ rfl⟩, rfl, _, rfl⟩
    · intro D2 h4 gens4 tk4 ys4 n4 S4 v34 gD4 hE4 hg3 hg4
      have pv2 : PVs (gv hG L h4) ys4 ((N.tree ab db lb nm kb).row.toks.filter firstX) := by
        have := els_pairs hE4
        rw [filter_pairs, ntoks_row] at this
        exact this
      have v04 : vle (gv hG L s.heap) (gv hG L h4) := fun a o g => v34 a o (v03 a o g)
      clear F3 N3 hZ d1 d2 d3 d4 d5 F Nw N₀ z0
      obtain ⟨o5, o4, o3, o2, o1, Z, d1, d2, d3, d4, d5, Nw, hZ⟩ := S4.news
      have F := S4.F
      have N₀ := News.expose gD4 (News.expose (v04 _ _ gl) Nw)
      dsimp only
      k_steps
      tm_at "my comp"
      k_steps
      have pl4 := pl.mono v04
      have hql : lv.length ≤ 1000 := by have h1 := pl.length; have h2 := toks_len (N.tree ab db lb nm kb).row; omega
      generalize (N.tree ab db lb nm kb).row.toks = qs at *
      refine compIn_seq (items := lv) ⟨_, _, rfl, fun _ _ e => e⟩ (Nat.le_refl _) rfl (.inl ⟨_, (v04 _ _ gl).2.2, rfl, _, rfl⟩) (by rw [sizeLine_eq]; omega) (fun (j : Nat) (ys : List Value) (_ : View) => PVs (gv hG L h4) ys ((qs.take j).filter firstX)) (fun _ _ _ _ _ h => h) ?_ ?_ ?_ ?_
      · intro j ys G h
        rw [h.length]; exact Nat.le_trans (List.length_filter_le _ _) (by rw [List.length_take]; exact Nat.min_le_left _ _)
      · exact .nil
      · intro C X j v ys s₃ oC m₃ E' hC hX1 hX2 hj hoC hns hm' hk₃ hI
        obtain ⟨q, hqj, a, tt, u, rfl, ⟨cls, dd, data, sl⟩, go, hc, nn, hdd⟩ := pl4.get hj
        simp only at hc hdd
        subst hc hdd
        have F₃ := F.keeps (kold hk₃)
        have N₃ := News.expose (gv_keeps (kold hk₃) _ _ go) (news_add' F (Nw.grown (kold hk₃)) hoC hC)
        have hm2 : m₃ "one" = some (.ref a) := hm'
        clear hm' F Nw N₀
        rw [take_succ_get hqj, List.filter_append]
        refine wpAny_tests_one ?_
        k_steps
        · rename (_ == _) = true => hq
          rw [show List.filter firstX [q] = [q] by rw [List.filter_cons, if_pos (show firstX q = true from hq)]; rfl]
          exact hI.snoc ⟨a, tt, u, rfl, ⟨_, go, rfl, nn, rfl⟩⟩
        · rename (_ == _) = false => hq
          rw [show List.filter firstX [q] = [] by rw [List.filter_cons, if_neg (by rw [show firstX q = false from hq]; decide)]; rfl, List.append_nil]
          exact hI
      · intro D3 X s' ys hD hX ⟨e4, hl4⟩ hI hk₄
        obtain ⟨h5, tk5, rfl, hk5⟩ := hk₄
        dsimp only at hk5
        have S5 := S4.keeps hk5
        have v45 : vle (gv hG L h4) (gv hG L h5) := gv_keeps hk5
        rw [List.take_of_length_le (by have := pl.length; omega)] at hI
        refine cmpNe_pairs (hk5 _ _ gD4.2.2) hl4 ((pv2.mono v45).mono gv_hv) ((hI.mono v45).mono gv_hv) (fun q hq => tok_ok q (List.mem_filter.mp hq).1) (fun q hq => tok_ok q (List.mem_filter.mp hq).1) (by show un + 3 + 10 < _; omega) ?_
        rw [decide_eq_true rfl, Bool.not_true]
        k_steps
        show wpAny _ _ (execs rest _) _ _ _
        rw [← upd_self hle, ← upd_self hbo] at S5
        exact K _ _ _ c1 c2 S5 (fun a o g => v45 a o (v04 a o g)) ((Fins.of hg1 hg2).trans (Fins.of hg3 hg4))
end
end Mine
end
/-! part L17 -/
section
open PySem PySem.W PyProof.Rows PySem.Spec PySem.Calls
set_option maxRecDepth 100000
set_option maxHeartbeats 4000000
namespace Mine
section
local macro_rules | `(tactic| tm_at "w subscriptTail") => `(tactic| ((with_reducible show wpAny _ _ (subscriptTail _ (PySem.Expr.Slice none none (some _) _) (Value.ref _) (Value.ref _)) _ _ _); k_dflt (refine' krv_lit ?F ?N ?l ?k ?e ?_ ?s ?t ?z; (case F => k_asm); (case N => k_asm); (case l => exact News.isList (by k_asm) (by k_mem)); (case k => exact IsPart.int _ _); (case e => exact rfl); (case s => with_unfolding_all rfl); (case t => kmk_pure); (case z => tm_at "my size")); intro D' h' F' N' l1; (try k_lt l1); (try k_sweep)))
theorem TVs_snoc {G : View} {n : N} : ∀ {ns : List N}, TVs G ns → TV G n → TVs G (ns ++ [n])
  | _, .nil, h => .cons h .nil
  | _, .cons a b, h => .cons a (TVs_snoc b h)
theorem TVs_rev {G : View} : ∀ {ns : List N}, TVs G ns → TVs G ns.reverse
  | _, .nil => .nil
  | _, .cons a b => by rw [List.reverse_cons]; exact TVs_snoc (TVs_rev b) a
variable {w : World} {p : Program} {loose : List Str} {mean : ExcName → Option Value} {mg mb : Str → Option Value} {A : Around} {hG : Heap} {L : Nat} {m : Str → Option Value} {s : Shared} {E : Value → Shared → Prop} {Q : Flow → Shared → Prop}
theorem st17 (G : LG w p loose mean mg mb A hG) {vN vO vH : Option Value} {ps : Array Value} {a1 da1 l1 : Addr} {k1 : List N} (v1 : TV (gv hG L s.heap) (.tree a1 da1 l1 "top" k1)) (hz : (N.tree a1 da1 l1 "top" k1).row.size ≤ 13)
    (S : LSt hG L m (some (.ref a1)) vN vO vH none ps s.heap) : ∀ oc od fd osl, (hd.heap_39 w.params).lookup 197 = some ⟨oc, od, .func fd, osl⟩ → ∀ rest,
    (∀ h' tk' m' ai di li, LSt hG L m' (some (.ref a1)) vN vO vH none ps h' → vle (gv hG L s.heap) (gv hG L h') → (∀ x, x ≠ ("turned" : Str) → m' x = m x) → m' "turned" = some (.ref ai) → TV (gv hG L h') (.tree ai di li "top" k1.reverse) →
      wpAny (model PySem.Challenge.rw_fi0013_01.row.prog w) (A.deeper (lawEnv fd L)) (execs rest (lawEnv fd L)) Q E { s with heap := h', toks := tk' }) →
    wpAny (model PySem.Challenge.rw_fi0013_01.row.prog w) (A.deeper (lawEnv fd L)) (execs (stmtAt fd 17 :: rest) (lawEnv fd L)) Q E s := by
  have G0 := G
  obtain ⟨hd0, dep, frs, gds, un⟩ := A
  obtain ⟨X, T, B, hh, hdp, hun, C⟩ := G
  obtain rfl : frs = some [] := B.stack
  obtain rfl : hd0 = none := hh
  dsimp only at hdp hun
  revert X; k_fill; intro X
  (with_unfolding_all k_dflt refine' (fn_case ?e ?h))
  case e => k_is
  case h =>
  intro rest K
  conv => arg 3; arg 1; arg 1; whnf
  dsimp only [lawEnv] at K ⊢
  obtain ⟨o5, o4, o3, o2, o1, Z, d1, d2, d3, d4, d5, Nw, hZ⟩ := S.news
  have h194 := S.lt194
  have F := S.F
  obtain ⟨_, _, _, _, _, _, _, it1, ep1, ho1, hod1, hl1, hit1, hk1⟩ := v1.invG
  have N₀ := News.expose ho1 (News.expose hod1 (News.expose hl1 Nw))
  have hk1l : k1.length ≤ 13 := by
    have h2 := len_sizes (N.rows k1); rw [rows_length] at h2
    simp only [N.row, Row.size] at hz; omega
  have hsz1 : it1.size ≤ 13 := by rw [← Array.length_toList, hit1, List.length_map]; exact hk1l
  have hl5 := Nat.lt_succ_of_lt (Heap.lt_size (Nw _ (.head _)).1)
  have hl194 := Nat.lt_succ_of_lt (Heap.lt_size S.tab)
  (try k_fold)
  k_steps
  rename Fr hG _ _ _ => F'
  rename News hG _ _ _ => N'
  have v' := gv_step N' (fun a o g => by have := (hZ a o).mp g; simp only [List.mem_cons, this, or_true])
  rename (_ < _ ∧ a1 < _ ∧ _) => ld
  rename _ < _ => lx
  have gx := gv_new N' (.head _) (Nat.lt_trans ld.2.2.2.2.1 lx) (Nat.lt_trans ld.2.2.2.2.2.2.2.2.2.1 lx)
  have gd := gv_new N' (.tail _ (.head _)) ld.2.2.2.2.1 ld.2.2.2.2.2.2.2.2.2.1
  have gl := gv_new N' (.tail _ (.tail _ (.head _))) hl5 hl194
  exact K _ _ _ _ _ _ (.of_news F' N' (by k_mem) (by k_mem) (by k_mem) (by k_mem) (by k_mem) (by k_mem) d1 d2 d3 d4 d5 S.lt194) v' (fun x hx => if_neg hx) rfl
    (.tree gx gd gl (by rw [krv_pick, hit1, List.toList_toArray, List.map_reverse]) (TVs_rev (hk1.mono v')))
end
end Mine
end
/-! part T6 -/
section
open PySem PySem.W PyProof.Rows PySem.Spec PySem.Calls
set_option maxRecDepth 100000
set_option maxHeartbeats 1000000
namespace Mine
section
variable {prog : Program} {w : World} {A : Around} {E : Value → Shared → Prop} {s : Shared}
theorem adjust_rev (n : Nat) : Builtin.Slice.sliceAdjust none none (-1) (n : Int) = ((n : Int) - 1, -1) := by
  unfold Builtin.Slice.sliceAdjust
  simp
theorem places_rev (n : Nat) : Builtin.Slice.slicePlaces ((n : Int) - 1) (-1) (-1) = n := by
  unfold Builtin.Slice.slicePlaces
  simp
  omega
theorem sliceApplied_rev {sl : Addr} {n : Nat} {u : Tok} {Q : Int × Int × Nat → Shared → Prop} (hs : s.heap.IsSliceOf sl .none .none (.int (-1) u)) (h : Q ((n : Int) - 1, -1, n) s) :
    wpAny (model prog w) A (Builtin.Slice.sliceApplied (.ref sl) (pure (n : Int))) Q E s := by
  obtain ⟨os, hos, hcs, hds⟩ := id hs
  unfold Builtin.Slice.sliceApplied Builtin.Slice.sliceFields
  refine wpAny_bind (wpAny_bind (wpAny_field hos hds (x := .none) rfl (wpAny_bind (wpAny_field hos hds (x := .none) rfl (wpAny_bind (wpAny_field hos hds (x := .int (-1) u) rfl (wpAny_pure ?_)))))))
  refine wpAny_bind (slicePart_int ?_)
  show wpAny _ _ (if ((-1 : Int) == 0) = true then _ else _) _ _ s
  rw [if_neg (by decide)]
  refine wpAny_bind (slicePart_none (wpAny_bind (slicePart_none (wpAny_bind (wpAny_pure ?_)))))
  show wpAny _ _ (match Builtin.Slice.sliceAdjust none none (-1) (n : Int) with | (lo, hi) => pure (lo, (-1 : Int), Builtin.Slice.slicePlaces lo hi (-1))) _ _ s
  rw [adjust_rev n]
  show wpAny _ _ (pure ((n : Int) - 1, (-1 : Int), Builtin.Slice.slicePlaces ((n : Int) - 1) (-1) (-1))) _ _ s
  rw [places_rev n]
  exact wpAny_pure h
theorem fm_congr {α β : Type} {f g : α → Option β} : ∀ {l : List α}, (∀ x ∈ l, f x = g x) → l.filterMap f = l.filterMap g
  | [], _ => rfl
  | a :: l, h => by rw [List.filterMap_cons, List.filterMap_cons, h a (.head _), fm_congr fun x hx => h x (.tail _ hx)]
theorem pick_rev (xs : Array Value) : ((List.range xs.size).filterMap fun (k : Nat) => xs[((xs.size : Int) - 1 + (k : Int) * -1).toNat]?).toArray = xs.toList.reverse.toArray := by
  have := krv_pick xs
  unfold slicePick at this
  rw [krv_bounds] at this
  have e : sliceRange ((xs.size : Int) - 1) (-1) (-1) = (List.range xs.size).map fun k => xs.size - 1 - k := krv_sliceRange _
  rw [show (sliceRange ((xs.size : Int) - 1, (-1 : Int), (-1 : Int)).1 ((xs.size : Int) - 1, (-1 : Int), (-1 : Int)).2.1 ((xs.size : Int) - 1, (-1 : Int), (-1 : Int)).2.2) = _ from e] at this
  rw [← this, List.filterMap_map]
  congr 1
  apply fm_congr
  intro k hk
  have hk := List.mem_range.mp hk
  show xs[((xs.size : Int) - 1 + (k : Int) * -1).toNat]? = xs[xs.size - 1 - k]?
  congr 1
  omega
theorem getItem_tuple_rev {t sl : Addr} {items : Array Value} {u : Tok} {Q : Value → Shared → Prop} (ht : IsTup s.heap t items) (hs : s.heap.IsSliceOf sl .none .none (.int (-1) u))
    (h : Q (.ref s.heap.objs.size) { s with heap := s.heap.push { cls := .type "tuple", data := .seq items.toList.reverse.toArray } })
    (hsz : items.size ≤ sizeLine) : wpAny (model prog w) A (getItem (.ref t) (.ref sl)) Q E s := by
  have hdrop : sizeOk (.seq items.toList.reverse.toArray) := by
    show items.toList.reverse.toArray.size ≤ sizeLine
    rw [List.size_toArray, List.length_reverse, Array.length_toList]
    exact hsz
  obtain ⟨os, hos, hcs, hds⟩ := id hs
  have hTs : s.TypeIs (.ref sl) "slice" := ⟨os, hos, hcs⟩
  unfold getItem
  try with_reducible refine wpAny_holding ?_
  first | refine wpAny_bind (wpAny_pure ?_) | skip
  refine wpAny_bind (wpAny_sequenceKey ht.typeIs (by decide) ?_)
  refine wpAny_bind (wpAny_callSpecial?_slot (name := Str.ofString "__getitem__") ht.typeIs slot_tuple_getitem
    (wpAny_call_entry slot_tuple_getitem ht.typeIs entry_tuple_getitem ?_ (args_tuple_getitem _ _)))
  show wpAny _ _ (Builtin.Tuple.tupleItemsOf (.ref t) >>= _) _ _ s
  refine wpAny_bind (tupleItemsOf_ ht ?_)
  refine wpAny_bind (wpAny_typeOf hTs ?_)
  rw [if_pos (by decide)]
  refine wpAny_bind (sliceApplied_rev hs ?_)
  show wpAny _ _ (if ((items.size : Int) - 1 == 0 && (-1 : Int) == 1 && items.size == items.size) = true then _ else _) _ _ s
  rw [if_neg (by simp), pick_rev items]
  first
    | exact wpAny_bind (m := Builtin.Tuple.tupleExact _) (wpAny_newObj_type (wpAny_pure ⟨_, rfl, wpAny_pure h⟩) hdrop)
    | exact wpAny_bind (m := Builtin.Tuple.tupleExact _) (wpAny_newObj_type (wpAny_bind (wpAny_pure (wpAny_pure ⟨_, rfl, wpAny_pure h⟩))) hdrop)
    | exact wpAny_bind (wpAny_bind (m := Builtin.Tuple.tupleExact _) (wpAny_newObj_type (wpAny_pure (wpAny_pure ⟨_, rfl, wpAny_pure h⟩)) hdrop))
    | exact wpAny_bind (wpAny_bind (m := Builtin.Tuple.tupleExact _) (wpAny_newObj_type (wpAny_pure ⟨_, rfl, wpAny_pure h⟩) hdrop))
theorem slice_tuple_rev {ops : List Value} {value slice : Expr} {t : Addr} {items : Array Value} {u : Tok} {Q : Value → Shared → Prop} (ht : IsTup s.heap t items)
    (h : Q (.ref (s.heap.objs.size + 1)) { s with heap := (s.heap.push { cls := .type "slice", data := .fields #[.none, .none, .int (-1) u] }).push { cls := .type "tuple", data := .seq items.toList.reverse.toArray } })
    (hs : subscripted slice false (.ref t) (.ref s.heap.objs.size) = operate ops (getItem (.ref t) (.ref s.heap.objs.size)))
    (hg : ∀ r, letTemporaryGo value (.ref t) r = pure ())
    (hsz : items.size ≤ sizeLine) :
    wpAny (model prog w) A (subscriptTail value slice (.ref t) (.ref s.heap.objs.size)) Q E { s with heap := s.heap.push { cls := .type "slice", data := .fields #[.none, .none, .int (-1) u] } } := by
  have ht' : IsTup (s.heap.push { cls := .type "slice", data := .fields #[.none, .none, .int (-1) u] }) t items := ht.keeps fun _ _ e => Heap.get?_push_of_some _ e
  refine subscriptTail_ops (s := { s with heap := s.heap.push { cls := .type "slice", data := .fields #[.none, .none, .int (-1) u] } }) ht'.typeIs slot_tuple_getitem.lookup
    (getItem_tuple_rev ht' (Heap.IsSliceOf.new ..) ?_ hsz) hs hg
  show Q (.ref (s.heap.push _).objs.size) _
  rw [Heap.size_push]
  exact h
end
end Mine
end
/-! part L18 -/
section
open PySem PySem.W PyProof.Rows PySem.Spec PySem.Calls
set_option maxRecDepth 100000
set_option maxHeartbeats 4000000
namespace Mine
section
variable {prog : Program} {w : World} {A : Around} {E : Value → Shared → Prop} {s : Shared} {a b : Addr} {va vb : Array Value} {ra rb : List Row} {Q : Value → Shared → Prop}
theorem cmpEq_rows (ta : TupV (hv s.heap) a va) (tb : TupV (hv s.heap) b vb) (ha : RVs (hv s.heap) va.toList ra) (hb : RVs (hv s.heap) vb.toList rb) (ka : Row.oks ra = true) (kb : Row.oks rb = true) (hu : A.units + 2 * Row.hgts ra + 5 < cLine) (h : Q (.bool (rowsEq ra rb)) s) :
    wpAny (model prog w) A (compareOp .Eq (.ref a) (.ref b)) Q E s := by
  obtain ⟨oa, ga, ca, na, ea⟩ := ta
  obtain ⟨ob, gb, cb, nb, eb⟩ := tb
  refine SeqAt.compareEq_reads (Reads.tuple ga ca ea ha.reads) (Reads.tuple gb cb eb hb.reads) (by simpa [PyData.canLay0] using rows_lay _ ka) (by simpa [PyData.canLay0] using rows_lay _ kb) ?_ (by simpa [PyData.eqv, rows_eqv] using h)
  have := rows_depth ra
  simp only [PyData.depth]; omega
theorem cmpNe_rows (ta : TupV (hv s.heap) a va) (tb : TupV (hv s.heap) b vb) (ha : RVs (hv s.heap) va.toList ra) (hb : RVs (hv s.heap) vb.toList rb) (ka : Row.oks ra = true) (kb : Row.oks rb = true) (hu : A.units + 2 * Row.hgts ra + 5 < cLine) (h : Q (.bool (!rowsEq ra rb)) s) :
    wpAny (model prog w) A (compareOp .NotEq (.ref a) (.ref b)) Q E s := by
  obtain ⟨oa, ga, ca, na, ea⟩ := ta
  obtain ⟨ob, gb, cb, nb, eb⟩ := tb
  refine SeqAt.compareNe_reads (Reads.tuple ga ca ea ha.reads) (Reads.tuple gb cb eb hb.reads) (by simpa [PyData.canLay0] using rows_lay _ ka) (by simpa [PyData.canLay0] using rows_lay _ kb) ?_ (by simpa [PyData.eqv, rows_eqv] using h)
  have := rows_depth ra
  simp only [PyData.depth]; omega
end
section
variable {prog : Program} {w : World} {A : Around} {hG : Heap} {L : Nat} {m : Str → Option Value} {s : Shared} {E Q : Value → Shared → Prop} {vT vN vO vH vA : Option Value} {ps : Array Value} {b : Addr}
theorem law_tuprev {ops : List Value} {value slice : Expr} {items : Array Value} {u : Tok} (S : LSt hG L m vT vN vO vH vA ps s.heap) (hB : TupV (gv hG L s.heap) b items) (hz : items.size ≤ 10000)
    (h : ∀ D h', LSt hG L m vT vN vO vH vA ps h' → vle (gv hG L s.heap) (gv hG L h') → TupV (gv hG L h') D items.toList.reverse.toArray → Q (.ref D) { s with heap := h' })
    (hs : subscripted slice false (.ref b) (.ref s.heap.objs.size) = operate ops (getItem (.ref b) (.ref s.heap.objs.size))) :
    wpAny (model prog w) A (subscriptTail value slice (.ref b) (.ref s.heap.objs.size)) Q E { s with heap := s.heap.push { cls := .type "slice", data := .fields #[.none, .none, .int (-1) u] } } := by
  refine kba_turn (value' := .Name "_" ⟨0, 0, 0, 0⟩) (fun _ => rfl) (slice_tuple_rev (hB.mono gv_hv) ?_ hs (fun _ => rfl) (by rw [sizeLine_eq]; omega))
  have hk : ∀ b o, s.heap.get? b = some o → ((s.heap.push { cls := .type "slice", data := .fields #[.none, .none, .int (-1) u] }).push { cls := .type "tuple", data := .seq items.toList.reverse.toArray }).get? b = some o := fun b o e => Heap.get?_push_of_some _ (Heap.get?_push_of_some _ e)
  refine h _ _ (S.keeps hk) (gv_keeps hk) ⟨{ cls := .type "tuple", data := .seq items.toList.reverse.toArray }, S.frv _ _ ⟨Heap.get?_none_of_le (Nat.le_succ _), ?_⟩, rfl, _, rfl⟩
  have := Heap.get?_push_size (s.heap.push { cls := .type "slice", data := .fields #[.none, .none, .int (-1) u] }) (o := { cls := .type "tuple", data := .seq items.toList.reverse.toArray }) rfl
  rwa [Heap.size_push] at this
end
theorem RVs.reverse {G : View} : ∀ {vs rs}, RVs G vs rs → RVs G vs.reverse rs.reverse
  | _, _, .nil => .nil
  | _, _, .cons a b => by rw [List.reverse_cons, List.reverse_cons]; exact b.reverse.snoc a
theorem oks_mem : ∀ {l : List Row}, Row.oks l = true ↔ ∀ r ∈ l, r.ok = true
  | [] => by simp [Row.oks]
  | r :: rs => by simp [Row.oks, oks_mem (l := rs)]
theorem hgts_le {k : Nat} : ∀ {l : List Row}, (∀ r ∈ l, r.hgt ≤ k) → Row.hgts l ≤ k
  | [], _ => Nat.zero_le _
  | r :: rs, h => Nat.max_le.mpr ⟨h r (.head _), hgts_le fun x hx => h x (.tail _ hx)⟩
section
local macro_rules | `(tactic| tm_at "w subscriptTail") => `(tactic| ((with_reducible show wpAny _ _ (subscriptTail _ (PySem.Expr.Slice none none (some _) _) (Value.ref _) (Value.ref _)) _ _ _); refine stop_here ?_))
local macro_rules | `(tactic| tm_at "w compareOp Eq ref ref") => `(tactic| ((with_reducible show wpAny _ _ (compareOp _ (Value.ref _) (Value.ref _)) _ _ _); refine stop_here ?_))
variable {w : World} {p : Program} {loose : List Str} {mean : ExcName → Option Value} {mg mb : Str → Option Value} {A : Around} {hG : Heap} {L : Nat} {m : Str → Option Value} {s : Shared} {E : Value → Shared → Prop} {Q : Flow → Shared → Prop}
theorem st18 (G : LG w p loose mean mg mb A hG) {vN vO vH : Option Value} {ps : Array Value} {a1 da1 l1 at_ dt lt ra : Addr} {k1 : List N} (htu : m "turned" = some (.ref at_)) (hrow : m "row" = some (.ref ra)) (v1 : TV (gv hG L s.heap) (.tree a1 da1 l1 "top" k1)) (hz : (N.tree a1 da1 l1 "top" k1).row.size ≤ 13)
    (vt : TV (gv hG L s.heap) (.tree at_ dt lt "top" k1.reverse)) (rr : RV (gv hG L s.heap) (.ref ra) (N.tree a1 da1 l1 "top" k1).row) (hok : (N.tree a1 da1 l1 "top" k1).row.ok = true)
    (S : LSt hG L m (some (.ref a1)) vN vO vH none ps s.heap) : ∀ oc od fd osl, (hd.heap_39 w.params).lookup 197 = some ⟨oc, od, .func fd, osl⟩ → ∀ rest,
    (∀ h' tk', LSt hG L m (some (.ref a1)) vN vO vH none ps h' → vle (gv hG L s.heap) (gv hG L h') →
      wpAny (model PySem.Challenge.rw_fi0013_01.row.prog w) (A.deeper (lawEnv fd L)) (execs rest (lawEnv fd L)) Q E { s with heap := h', toks := tk' }) →
    wpAny (model PySem.Challenge.rw_fi0013_01.row.prog w) (A.deeper (lawEnv fd L)) (execs (stmtAt fd 18 :: rest) (lawEnv fd L)) Q E s := by
  have G0 := G
  obtain ⟨hd0, dep, frs, gds, un⟩ := A
  obtain ⟨X, T, B, hh, hdp, hun, C⟩ := G
  obtain rfl : frs = some [] := B.stack
  obtain rfl : hd0 = none := hh
  dsimp only at hdp hun
  revert X; k_fill; intro X
  (with_unfolding_all k_dflt refine' (fn_case ?e ?h))
  case e => k_is
  case h =>
  intro rest K
  conv => arg 3; arg 1; arg 1; whnf
  dsimp only [lawEnv] at K ⊢
  have F := S.F
  rw [upd_self htu, upd_self hrow] at F
  obtain ⟨o5, o4, o3, o2, o1, Z, d1, d2, d3, d4, d5, Nw, hZ⟩ := S.news
  have S0 := LSt.of_news F Nw (by k_mem) (by k_mem) (by k_mem) (by k_mem) (by k_mem) (by k_mem) d1 d2 d3 d4 d5 S.lt194
  have hsz : (N.rows k1.reverse) = (N.rows k1).reverse := by rw [rows_eq, rows_eq, List.map_reverse]
  have hzr : (N.tree at_ dt lt "top" k1.reverse).row.size ≤ 100 := by
    have : ∀ l : List Row, Row.sizes l.reverse = Row.sizes l := by
      intro l; induction l with
      | nil => rfl
      | cons r rs ih => rw [List.reverse_cons, sizes_app, ih]; simp [Row.sizes]; omega
    simp only [N.row, Row.size] at hz ⊢
    rw [hsz, this]; omega
  (try k_fold)
  k_steps
  refine ⟨law_eq G0 S0 rfl rfl rfl rfl vt v1 hzr fun h₁ tk₁ S₁ v₁ => ?_⟩
  clear F Nw hZ d1 d2 d3 d4 d5
  obtain ⟨o5, o4, o3, o2, o1, Z, d1, d2, d3, d4, d5, Nw, hZ⟩ := S₁.news
  have F := S₁.F
  have rr := rr.mono v₁
  cases rr with
  | @tree _ b t0 t1 _ vs _ tA tB hR =>
    obtain ⟨⟨cA, dA, datA, slA⟩, gA, hcA, nA, hdA⟩ := id tA
    obtain ⟨⟨cB, dB, datB, slB⟩, gB, hcB, nB, hdB⟩ := id tB
    simp only at hcA hdA hcB hdB
    subst hcA hdA hcB hdB
    have N₀ := News.expose gA (News.expose gB Nw)
    k_steps
    have hvl : vs.length ≤ 13 := by
      have h2 := len_sizes (N.rows k1)
      have h3 := hR.length
      simp only [N.row, Row.size] at hz; omega
    refine ⟨law_tuprev (items := vs.toArray) S₁ tB (by simp; omega) (fun D h₂ S₂ v₂ tD => ?_) (by with_unfolding_all rfl)⟩
    clear F Nw N₀ hZ d1 d2 d3 d4 d5
    obtain ⟨o5, o4, o3, o2, o1, Z, d1, d2, d3, d4, d5, Nw, hZ⟩ := S₂.news
    have F := S₂.F
    have N₀ := News.expose (v₂ _ _ gA) (News.expose (v₂ _ _ gB) Nw)
    k_steps
    have hoks : Row.oks (N.rows k1) = true := by simp only [N.row, Row.ok, Bool.and_eq_true] at hok; exact hok.2
    have hhg : ∀ r ∈ (N.rows k1).reverse, r.hgt ≤ 13 := fun r hr => by
      have h1 := size_mem (List.mem_reverse.mp hr)
      have h2 := hgt_size r
      simp only [N.row, Row.size] at hz; omega
    refine ⟨cmpEq_rows (tD.mono gv_hv) ((tB.mono v₂).mono gv_hv) (by simpa using (hR.mono v₂).mono gv_hv |>.reverse) (by simpa using (hR.mono v₂).mono gv_hv) (oks_mem.mpr fun r hr => oks_mem.mp hoks r (List.mem_reverse.mp hr)) hoks (by have := hgts_le hhg; show un + 3 + _ + _ < _; omega) ?_⟩
    show wpAny _ _ (compareOp .NotEq (.bool _) (.bool _)) _ _ _
    refine ne_bool ?_
    rw [show rowEq (N.tree at_ dt lt "top" k1.reverse).row (N.tree a1 da1 l1 "top" k1).row = rowsEq (N.rows k1).reverse (N.rows k1) by simp only [N.row, rowEq, hsz]; simp, bne_self_eq_false]
    k_steps
    rw [← upd_self hrow, ← upd_self htu] at S₂
    exact K _ _ S₂ fun a o g => v₂ a o (v₁ a o g)
end
end Mine
end
/-! part L21 -/
section
open PySem PySem.W PyProof.Rows PySem.Spec PySem.Calls
set_option maxRecDepth 100000
set_option maxHeartbeats 4000000
namespace Mine
section
variable {w : World} {p : Program} {loose : List Str} {mean : ExcName → Option Value} {mg mb : Str → Option Value} {A : Around} {hG : Heap} {L : Nat} {m : Str → Option Value} {s : Shared} {E Q : Value → Shared → Prop} {env : Env} {vT vN vO vH vA : Option Value} {ps : Array Value} {t1 t2 : N} {a b : Addr}
theorem law_ne_at (v1 : TV (gv hG L s.heap) t1) (v2 : TV (gv hG L s.heap) t2) (e1 : t1.addr = a) (e2 : t2.addr = b) (G : LG w p loose mean mg mb A hG) (S : LSt hG L m vT vN vO vH vA ps s.heap) (hf : env.frame = some L) (hk : env.scope.kind = .function) (i1 : t1.isTree = true) (i2 : t2.isTree = true) (hz : t1.row.size ≤ 100)
    (h : ∀ h' tk', LSt hG L m vT vN vO vH vA ps h' → vle (gv hG L s.heap) (gv hG L h') → Q (.bool (!rowEq t1.row t2.row)) { s with heap := h', toks := tk' }) :
    wpAny (model PySem.Challenge.rw_fi0013_01.row.prog w) (A.deeper env) (compareOp .NotEq (.ref a) (.ref b)) Q E s := by
  subst e1 e2
  exact law_ne G S hf hk i1 i2 v1 v2 hz h
end
section
variable {prog : Program} {w : World} {A : Around} {s s₁ : Shared}
theorem src_range {r : Addr} {n : Nat} {t u v : Tok} (hh : A.handled = none) (hr : IsRange s.heap r 0 (n : Int) 1 t u v) (hn : n ≤ 1000) : SrcAt prog w A s s (.ref r) n (fun i v => ∃ t, v = .int (0 + (i : Int) * 1) t) := by
  intro Q E h
  have e : Builtin.Range.rangeSize 0 (n : Int) 1 = n := by
    unfold Builtin.Range.rangeSize
    simp
    omega
  have sm : Builtin.Range.small 0 (n : Int) 1 = true := by
    unfold Builtin.Range.small
    rw [e]
    unfold Builtin.Range.rangeFitsLong
    simp
    omega
  refine wpAny_pyIter_range hr sm ?_
  rw [e]
  refine h _ _ [s.heap.objs.size] _ ⟨_, s.toks, rfl, fun b o e => Heap.get?_push_of_some _ e⟩ (Nat.le_refl _) (Walks.range hh s.heap.objs.size 0 1 n).toS ?_ (fun i s' st => ⟨_, st⟩) ?_
  · intro b hb
    obtain rfl := List.mem_singleton.mp hb
    show _ < (s.heap.push _).objs.size
    rw [Heap.size_push]; exact Nat.lt_succ_self _
  · have := Heap.get?_push_size s.heap (o := { cls := .type "range_iterator", data := .fields #[rawInt 0, rawInt (n : Int), rawInt 1] }) rfl
    show IsRangeIter _ _ _ _ _
    simpa using this
end
section
local macro_rules | `(tactic| tm_at "w Opq") => `(tactic| fail "stop")
local macro_rules | `(tactic| tm_at "w compareOp Eq ref ref") => `(tactic| ((with_reducible show wpAny _ _ (compareOp _ (Value.ref _) (Value.ref _)) _ _ _); refine stop_here ?_))
local macro_rules | `(tactic| tm_at "w compareOp NotEq") => `(tactic| ((with_reducible show wpAny _ _ (compareOp _ (Value.ref _) (Value.ref _)) _ _ _); refine stop_here ?_))
local macro_rules | `(tactic| tm_at "w call ref") => `(tactic| ((with_reducible show wpAny _ _ (call (Value.ref 172) _ _) _ _ _); refine stop_here ?_))
local macro_rules | `(tactic| tm_at "my compSF") => `(tactic| (refine ⟨?_⟩; k_dflt (refine' comp1S ?hclos ?hpc ?hcf ?hkind ?hnames ?hx ?_ ?hs; (case hclos => exact rfl); (case hpc => exact fun _ => rfl); (case hcf => exact fun _ => rfl); (case hkind => exact rfl); (case hnames => decide); (case hx => exact rfl); (case hs => exact fun _ => rfl); k_whole)))
local macro_rules | `(tactic| tm_at "w call builtin:len") => `(tactic| ((with_reducible show wpAny _ _ (call _ [Value.ref _]) _ _ _); k_dflt (refine' len_list ?hl ?hfit ?_; (case hl => exact News.isList (by k_asm) (by k_mem)); (case hfit => omega); k_whole)))
local macro_rules | `(tactic| tm_at "w subscriptTail Name Slice ref ref") => `(tactic| ((with_reducible show wpAny _ _ (subscriptTail _ (PySem.Expr.Slice _ _ none _) (Value.ref _) (Value.ref _)) _ _ _); k_dflt (refine' kmk_slice ?F ?N ?l ?p ?q ?_ ?s ?t ?z; (case F => k_asm); (case N => k_asm); (case l => exact News.isList (by k_asm) (by k_mem)); (case p => kmk_part); (case q => kmk_part); (case s => with_unfolding_all rfl); (case t => kmk_pure); (case z => tm_at "my size")); intro D' h' F' N' l1; (try k_lt l1); (try k_sweep)))
local macro_rules | `(tactic| tm_at "w binaryOp Add ref ref") => `(tactic| ((with_reducible show wpAny _ _ (binaryOp _ (Value.ref _) (Value.ref _)) _ _ _); k_dflt (refine' kmk_add_lit ?F ?N ?a ?b ?e ?_ ?z; (case F => k_asm); (case N => k_asm); (case a => exact News.isList (by k_asm) (by k_mem)); (case b => exact News.isList (by k_asm) (by k_mem)); (case e => exact rfl); (case z => (simp only [Array.length_toList, List.length_cons, List.length_nil]; rw [sizeLine_eq]; first | omega | (refine Nat.le_trans (Nat.add_le_add_right (slicePick_size_le _ _ _ _) _) ?_; omega)))); intro D' h' F' N' l1; (try k_lt l1); (try k_sweep)))
local macro_rules | `(tactic| tm_at "w call type:tuple") => `(tactic| ((with_reducible show wpAny _ _ (call (Value.type _) [Value.ref _]) _ _ _); k_dflt (refine' kde_tupleOf ?k1 ?k2 ?k3 ?k4 ?k5 ?_; (case k1 => k_asm); (case k2 => k_asm); (case k3 => exact News.isList (by k_asm) (by k_mem)); (case k4 => tm_at "my size"); (case k5 => exact rfl); k_whole); intro D' h' F' N' l1; (try k_lt l1); (try k_sweep)))
local macro_rules | `(tactic| tm_at "w subscriptTail") => `(tactic| ((with_reducible show wpAny _ _ (subscriptTail _ _ (Value.ref _) (Value.int _ _)) _ _ _); (try dsimp only); k_dflt (refine' menu2 ?k1 ?k2 ?k3 ?k4 ?_ ?k5 ?k6; (case k1 => k_asm); (case k2 => k_mem); (case k3 => omega); (case k4 => omega); (case k5 => with_unfolding_all rfl); (case k6 => kmk_pure); k_whole); intro tt))
local macro_rules | `(tactic| tm_at "w call builtin:min") => `(tactic| ((with_reducible show wpAny _ _ (call _ [Value.int _ _, Value.int _ _]) _ _ _); (rename Fr _ _ _ _ => kF); (rename News _ _ _ _ => kN); k_dflt (refine' min2_N ?hh kF kN ?_; (case hh => first | assumption | exact rfl); k_whole); intro h' t' k' F' N'; clear kN kF))
local macro_rules | `(tactic| tm_at "w subscriptTail List") => `(tactic| k_dflt (refine kba_turn (value' := PySem.Expr.Name (PySem.Str.ofString "_") ⟨0, 0, 0, 0⟩) (fun _ => rfl) ?_))
local macro_rules | `(tactic| tm_at "w subscriptTail") => `(tactic| ((with_reducible show wpAny _ _ (subscriptTail _ _ (Value.ref _) (Value.int _ _)) _ _ _); refine stop_here ?_))
variable {w : World} {p : Program} {loose : List Str} {mean : ExcName → Option Value} {mg mb : Str → Option Value} {A : Around} {hG : Heap} {L : Nat} {m : Str → Option Value} {s : Shared} {E : Value → Shared → Prop} {Q : Flow → Shared → Prop}
theorem st21 (G : LG w p loose mean mg mb A hG) {vN vO vH : Option Value} {ps : Array Value} {a1 da1 l1 ra sa : Addr} {k1 : List N} {t2 : N} {xs ys : List Int} (hoth : m "other" = some t2.val) (hrow : m "row" = some (.ref ra)) (hsec : m "second" = some (.ref sa))
    (P : Pu xs ys (.tree a1 da1 l1 "top" k1) t2) (x : Fx (gv hG L s.heap) (.tree a1 da1 l1 "top" k1) t2 ra sa)
    (S : LSt hG L m (some (.ref a1)) vN vO vH none ps s.heap) : ∀ oc od fd osl, (hd.heap_39 w.params).lookup 197 = some ⟨oc, od, .func fd, osl⟩ →
    (∀ h' tk', (∀ b o, hG.get? b = some o → h'.get? b = some o) → h'.get? 194 = some (tabObj ps) → Q (.ret (.bool true)) { s with heap := h', toks := tk' }) →
    wpAny (model PySem.Challenge.rw_fi0013_01.row.prog w) (A.deeper (lawEnv fd L)) (execs [stmtAt fd 21, stmtAt fd 22, stmtAt fd 23, stmtAt fd 24] (lawEnv fd L)) Q E s := by
  have G0 := G
  obtain ⟨hd0, dep, frs, gds, un⟩ := A
  obtain ⟨X, T, B, hh, hdp, hun, C⟩ := G
  obtain rfl : frs = some [] := B.stack
  obtain rfl : hd0 = none := hh
  dsimp only at hdp hun
  revert X; k_fill; intro X
  (with_unfolding_all k_dflt refine' (fn_case ?e ?h))
  case e => k_is
  case h =>
  intro K
  conv => arg 3; arg 1; arg 1; whnf
  dsimp only [lawEnv] at K ⊢
  conv => arg 3; arg 1; arg 2; arg 1; whnf
  conv => arg 3; arg 1; arg 2; arg 2; arg 1; whnf
  conv => arg 3; arg 1; arg 2; arg 2; arg 2; arg 1; whnf
  have F := S.F
  rw [upd_self hoth, upd_self hrow, upd_self hsec] at F
  obtain ⟨o5, o4, o3, o2, o1, Z, d1, d2, d3, d4, d5, Nw, hZ⟩ := S.news
  have h194 := S.lt194
  have z5 := zne hZ (L + 1 + 1 + 1 + 1 + 1) (by simp [mutL])
  obtain ⟨_, _, _, _, _, _, _, it1, ep1, ho1, hod1, hl1, hit1, hk1⟩ := x.tv1.invG
  have hsz1 := P.s1
  have hk1l : k1.length ≤ 13 := by
    have h2 := len_sizes (N.rows k1); rw [rows_length] at h2
    simp only [N.row, Row.size] at hsz1; omega
  have hit1z : it1.size = k1.length := by rw [← Array.length_toList, hit1, List.length_map]
  have hn1 : @Ne Nat a1 (L + 1 + 1 + 1 + 1 + 1) := fun q => ho1.2.1 (by rw [show a1 = L + 1 + 1 + 1 + 1 + 1 from q]; simp [mutL])
  have hn2 : @Ne Nat da1 (L + 1 + 1 + 1 + 1 + 1) := fun q => hod1.2.1 (by rw [show da1 = L + 1 + 1 + 1 + 1 + 1 from q]; simp [mutL])
  have hn3 : @Ne Nat l1 (L + 1 + 1 + 1 + 1 + 1) := fun q => hl1.2.1 (by rw [show l1 = L + 1 + 1 + 1 + 1 + 1 from q]; simp [mutL])
  have N₀ := News.expose ho1 (News.expose hod1 (News.expose hl1 Nw))
  (try k_fold)
  k_steps
  · exact absurd rfl (by assumption)
  tm_at "my compSF"
  k_steps
  rename IsRange _ _ _ _ _ _ _ _ => hR
  rename Fr hG _ _ _ => F2
  rename News hG _ _ _ => N2
  rename_i h2 tk2 _ _ _ _
  refine ⟨_, ⟨keeps_refl _, Nat.le_refl _, it1.size, _, src_range rfl hR (by omega), by rw [sizeLine_eq]; omega, fun (j : Nat) (ys : List Value) (_ : View) => ys = [], fun _ _ _ _ _ h => h, fun _ _ _ h => by subst h; exact Nat.zero_le _, rfl, ?_, ?_⟩⟩
  · intro C Z2 j v ys s₃ oC m₃ E' hC hX1 hX2 hjn hj hoC hns hm' hk₃ hI
    obtain ⟨tv, rfl⟩ := hj
    have F₃ := F2.keeps (kold hk₃)
    have N₃ := news_add' F2 (N2.grown (kold hk₃)) hoC hC
    have hm2 : m₃ "k" = some (.int (j : Int) tv) := by rw [hm']; simp
    clear hm' F2 N2
    refine wpAny_tests_one ?_
    obtain ⟨kk, hkk⟩ : ∃ kk, k1[j]? = some kk := ⟨k1[j]'(by omega), by simp⟩
    have hitj : it1[((j : Int)).toNat]? = some kk.val := by
      rw [Int.toNat_natCast, ← Array.getElem?_toList, hit1, List.getElem?_map, hkk]; rfl
    have hlist := N₃.isList (a := l1) (items := it1) (by k_mem)
    k_steps
    refine ⟨kba_turn (value' := .Name "_" ⟨0, 0, 0, 0⟩) (fun _ => rfl) (item_list hlist (by omega) (by omega) hitj ?_ (by with_unfolding_all rfl) (fun _ => rfl))⟩
    k_steps
    refine ⟨kba_turn (value' := .Name "_" ⟨0, 0, 0, 0⟩) (fun _ => rfl) (item_list hlist (by omega) (by omega) hitj ?_ (by with_unfolding_all rfl) (fun _ => rfl))⟩
    k_steps
  · intro D2 Z2 s' ys hD2 hX ⟨e4, hl4⟩ hI hk₄
    subst hI
    obtain ⟨h4, tk4, rfl, hk₄'⟩ := hk₄
    obtain ⟨F₄, N₄, l4⟩ := comp_finS F2 N2 hk₄' hl4 hD2
    k_lt l4
    rename (a1 < _ ∧ da1 < _ ∧ _) => ldd
    rename (@LT.lt Nat _ _ _) => lx
    rename _ = PySem.Data.cell (some (Value.ref _)) => d5'
    have zd := fun p hp => Nat.ne_of_lt (allLt_to ldd.2.2.2.2.2.2.2.2.2 p hp)
    dsimp only at N₄ F₄ ⊢
    clear F2 N2
    k_steps
    refine ⟨?_⟩
    rename Fr hG _ _ _ => F6
    rename News hG _ _ _ => N6
    have S6 := LSt.of_news F6 N6 (by k_mem) (by k_mem) (by k_mem) (by k_mem) (by k_mem) (by k_mem) d1 d2 d3 d4 d5' h194
    have v06 := gv_step N6 (fun a o g => by have := (hZ a o).mp g; simp only [List.mem_cons, this, or_true])
    have gx := gv_new N6 (.tail _ (.tail _ (.tail _ (.head _)))) (Nat.lt_trans ldd.2.2.2.1 lx) (Nat.lt_trans ldd.2.2.2.2.2.2.2.2.1 lx)
    have gd := gv_new N6 (.tail _ (.tail _ (.tail _ (.tail _ (.head _))))) ldd.2.2.2.1 ldd.2.2.2.2.2.2.2.2.1
    rename (_ < _ ∧ D2 < _ ∧ _) => ll
    have gl := gv_new N6 (.head _) ll.2.2.2.2.2.2.2.1 ll.2.2.2.2.2.2.2.2.2.2.2.2.1
    have x6 := x.mono v06
    have tva : TV _ (N.tree _ _ _ "new" [t2]) := .tree gx gd gl rfl (.cons x6.tv2 .nil)
    have hs1 := P.s1
    have hs2 := P.s2
    have hh1 := P.h1
    have hh2 := P.h2
    have hza : (Row.tree "new" [t2.row]).size ≤ 20 := by simp only [Row.size, Row.sizes]; omega
    have hha : (Row.tree "new" [t2.row]).hgt ≤ 20 := Nat.le_trans (hgt_size _) hza
    refine wpAny_mono (row_spec 14 (.tree a1 da1 l1 "top" k1) (by omega) _ hG _ _ _ (G0.amb F6 rfl rfl) (x6.tv1.mono gv_hv) (by omega) (by show dep + 1 + _ < _; omega) (by show un + 3 + _ < _; omega)) (fun y s₁ h₁ => ?_) fun _ _ e => e
    obtain ⟨⟨h7, tk7, rfl, hk7⟩, rv7⟩ := h₁
    obtain ⟨pa, rfl⟩ := rv7.ref
    have S7 := S6.keeps hk7
    have v67 : vle _ (gv hG L h7) := gv_keeps hk7
    have rv7 := rv7.mono S6.frv
    have x7 := x6.mono v67
    have tva7 := tva.mono v67
    clear F6 N6
    clear hZ d1 d2 d3 d4 d5 d5'
    obtain ⟨o5, o4, o3, o2, o1, Z, d1, d2, d3, d4, d5, Nw, hZ⟩ := S7.news
    have F := S7.F
    k_steps
    refine ⟨cmpEq_row (rv7.mono gv_hv) (x7.rr.mono gv_hv) P.k1 P.k1 (by show un + 3 + _ + _ < _; omega) ?_⟩
    rw [(rowEq_iff _ _).mpr rfl]
    k_steps
    refine ⟨?_⟩
    refine wpAny_mono (row_spec 30 (.tree _ _ _ "new" [t2]) (by show (Row.tree "new" [t2.row]).size < _; omega) _ hG _ _ _ (G0.amb F rfl rfl) (tva7.mono gv_hv) (by show (Row.tree "new" [t2.row]).size ≤ _; omega) (by show dep + 1 + 2 * (Row.tree "new" [t2.row]).hgt < _; omega) (by show un + 3 + 40 * (Row.tree "new" [t2.row]).hgt < _; omega)) (fun y s₁ h₁ => ?_) fun _ _ e => e
    obtain ⟨⟨h8, tk8, rfl, hk8⟩, rv8⟩ := h₁
    obtain ⟨pb, rfl⟩ := rv8.ref
    have S8 := S7.keeps hk8
    have v78 : vle (gv hG L h7) (gv hG L h8) := gv_keeps hk8
    have rv8 := rv8.mono S7.frv
    have x8 := x7.mono v78
    have tva8 := tva7.mono v78
    clear hZ d1 d2 d3 d4 d5 F Nw
    obtain ⟨o5, o4, o3, o2, o1, Z, d1, d2, d3, d4, d5, Nw, hZ⟩ := S8.news
    have F := S8.F
    k_steps
    rename Fr hG _ _ _ => F9
    rename News hG _ _ _ => N9
    have S9 := LSt.of_news F9 N9 (by k_mem) (by k_mem) (by k_mem) (by k_mem) (by k_mem) (by k_mem) d1 d2 d3 d4 d5 h194
    have v89 := gv_step N9 (fun a o g => by have := (hZ a o).mp g; simp only [List.mem_cons, this, or_true])
    have x9 := x8.mono v89
    have tva9 := tva8.mono v89
    have hok : (Row.tree "new" [t2.row]).ok = true := by
      simp only [Row.ok, Row.oks, P.k2, Bool.and_true]; decide +kernel
    refine ⟨cmpEq_row ((rv8.mono v89).mono gv_hv) (rb := .tree "new" [t2.row]) (.tree (vs := [.ref sa]) ⟨_, N9.get (.head _), rfl, _, rfl⟩ ⟨_, N9.get (.tail _ (.head _)), rfl, _, rfl⟩ (.cons (x9.rs.mono gv_hv) .nil)) hok hok (by show un + 3 + 2 * (Row.tree "new" [t2.row]).hgt + 1 < _; omega) ?_⟩
    rw [show rowEq (N.tree _ _ _ "new" [t2]).row (Row.tree "new" [t2.row]) = true from (rowEq_iff _ _).mpr rfl]
    clear hZ v89
    k_steps
    refine ⟨law_ne_at tva9 x9.tv1 rfl rfl G0 S9 rfl rfl rfl rfl ?_ fun h10 tk10 S10 v10 => ?_⟩
    · show (Row.tree "new" [t2.row]).size ≤ _; omega
    rw [show rowEq (N.tree _ _ _ "new" [t2]).row (N.tree a1 da1 l1 "top" k1).row = false from by simp only [N.row, rowEq]; rfl]
    exact K h10 _ S10.F.keep S10.tab
end
end Mine
end
/-! part T7 -/
section
open PySem PySem.W PyProof.Rows PySem.Spec PySem.Calls
set_option maxRecDepth 100000
set_option maxHeartbeats 1000000
namespace Mine
/-- all but one frame stays -/
def KeepsL (L : Addr) (s s' : Shared) : Prop := ∃ h' tk, s' = { s with heap := h', toks := tk } ∧ ∀ b o, b ≠ L → s.heap.get? b = some o → h'.get? b = some o
section
variable {prog : Program} {w : World} {A : Around} {E : Value → Shared → Prop} {s : Shared} {env : Env}
structure RangeIn (prog : Program) (w : World) (A : Around) (env : Env) (scope : Scope) (cl : List (Str × Addr)) (x : Str) (elt : Expr) (Q : Value → Shared → Prop) (L r : Addr) (n : Nat) (m₀ : Str → Option Value) (s₁ : Shared) : Prop where
  rng : ∃ t u v, IsRange s₁.heap r 0 (n : Int) 1 t u v
  le : n ≤ 1000
  hh : A.handled = none
  ns : s₁.heap.Ns L m₀
  out : ∃ Inv : Nat → List Value → View → Prop, (∀ j ys G G', vle G G' → Inv j ys G → Inv j ys G') ∧ (∀ j ys G, Inv j ys G → ys.length ≤ j) ∧ Inv 0 [] (fun _ _ => False) ∧
    (∀ C X j tv ys s₃ oC m₃ E', s₁.heap.objs.size ≤ C → (∀ b ∈ X, ∃ o, s₃.heap.get? b = some o) → j < n → s₃.heap.get? C = some oC → (∀ h : Heap, h.get? C = some oC → h.Ns C m₃) → m₃ x = some (.int (j : Int) tv) → KeepsL L s₁ s₃ → s₃.heap.Ns L m₀ → Inv j ys (hvx X s₃.heap) →
        wpAny (model prog w) A (eval elt (compEnvK scope cl C env)) (fun y s₆ => Opq (KeepsL L s₃ s₆ ∧ s₆.heap.Ns L m₀ ∧ Inv (j + 1) (ys ++ [y]) (hvx X s₆.heap))) E' s₃) ∧
    (∀ D X s' ys, s₁.heap.objs.size ≤ D → s'.heap.PlainList D ys.toArray → Inv n ys (hvx X s'.heap) → KeepsL L s₁ s' → s'.heap.Ns L m₀ → Q (.ref D) s')
theorem compRW {elt iter : Expr} {x : Str} {px : Pos} {scope : Scope} {pos : Pos} {cl : List (Str × Addr)} {Q : Value → Shared → Prop} {L : Addr}
    (hclos : closureFor scope env = pure cl) (hpc : ∀ h, pushCells h scope.names = h) (hcf : ∀ n, cellsFrom n scope.names cl = cl)
    (hkind : scope.kind = .function) (hnames : ∀ y ∈ scope.names, y.2 = .local → scope.names.lookup y.1 = some .local) (hx : scope.names.lookup x = some .local)
    (h : wpAny (model prog w) A (eval iter env) (fun xv s₁ => Opq (∃ r n m₀, xv = .ref r ∧ RangeIn prog w A env scope cl x elt Q L r n m₀ s₁)) E s)
    (hs : ∀ x, foldedSetIterable iter env x = pure x := by intro _; rfl) :
    wpAny (model prog w) A (eval (.ListComp elt [⟨.Name x px, iter, [], 0⟩] scope pos) env) Q E s := by
  rw [eval_ListComp]
  refine wpAny_comprehension_free (use := none) rfl hs hclos hkind hnames (wpAny_mono h (fun xv s₁ h₁ => ?_) fun _ _ e => e)
  obtain ⟨r, n, m₀, rfl, GI⟩ := h₁
  obtain ⟨Inv, hmono, hlen, h0, turn, hfin⟩ := GI.out
  obtain ⟨t, u, v, hr⟩ := GI.rng
  have hn := GI.le
  have e : Builtin.Range.rangeSize 0 (n : Int) 1 = n := by
    unfold Builtin.Range.rangeSize
    simp
    omega
  have sm : Builtin.Range.small 0 (n : Int) 1 = true := by
    unfold Builtin.Range.small
    rw [e]
    unfold Builtin.Range.rangeFitsLong
    simp
    omega
  refine wpAny_pyIter_range hr sm ?_
  rw [e]
  generalize hI : s₁.heap.objs.size = I at *
  have hIget : (s₁.heap.push { cls := .type "range_iterator", data := .fields #[rawInt 0, rawInt (n : Int), rawInt 1] }).get? I = some { cls := .type "range_iterator", data := .fields #[rawInt 0, rawInt (n : Int), rawInt 1] } := by rw [← hI]; exact Heap.get?_push_size _ rfl
  have W := (Walks.range (prog := prog) (w := w) GI.hh I 0 1 n).toS
  generalize hh2 : s₁.heap.push { cls := .type "range_iterator", data := .fields #[rawInt 0, rawInt (n : Int), rawInt 1] } = H1 at *
  have hH1 : H1.objs.size = I + 1 := by rw [← hh2, Heap.size_push, hI]
  have old1 : ∀ b o, s₁.heap.get? b = some o → H1.get? b = some o := fun b o e => hh2 ▸ Heap.get?_push_of_some _ e
  have ltI : ∀ b o, s₁.heap.get? b = some o → (b : Nat) < I := fun b o e => hI ▸ Heap.lt_size e
  have hLI : (L : Nat) < I := hI ▸ GI.ns.lt
  refine wpAny_newObj_type ?_
  refine newEnv_comp ?_
  simp only [hpc, hcf, newEnv]
  show codeAny _ _ (.compStart _ 0 (.ref I) (.ref H1.objs.size) _) _ _
  generalize hH2 : H1.push { cls := .type "list", dict := none, data := .seq ([] : List Value).toArray } = H2
  have hC : H2.objs.size = I + 1 + 1 := by rw [← hH2, Heap.size_push, hH1]
  rw [hH1]
  have hD0 : H2.get? (I + 1) = some { cls := .type "list", dict := none, data := .seq ([] : List Value).toArray } := by rw [← hH2, ← hH1]; exact Heap.get?_push_size _ rfl
  have old2 : ∀ b o, s₁.heap.get? b = some o → (H2.push { cls := .type "dict", data := .dict #[] }).get? b = some o := fun b o e => Heap.get?_push_of_some _ (hH2 ▸ Heap.get?_push_of_some _ (old1 b o e))
  have hacc : (H2.push { cls := .type "dict", data := .dict #[] }).PlainList (I + 1) (#[] : Array Value) := ⟨_, Heap.get?_push_of_some _ hD0⟩
  have hst : (H2.push { cls := .type "dict", data := .dict #[] }).get? I = some { cls := .type "range_iterator", data := .fields #[rawInt 0, rawInt (n : Int), rawInt 1] } := Heap.get?_push_of_some _ (hH2 ▸ Heap.get?_push_of_some _ hIget)
  have hnsC : (H2.push { cls := .type "dict", data := .dict #[] }).Ns H2.objs.size (fun _ => none) := Heap.Ns.new ..
  rw [hC] at hnsC ⊢
  have hnsL : (H2.push { cls := .type "dict", data := .dict #[] }).Ns L m₀ := GI.ns.keeps old2
  generalize H2.push { cls := .type "dict", data := .dict #[] } = H3 at *
  have neL : (L : Nat) ≠ I ∧ (L : Nat) ≠ I + 1 ∧ (L : Nat) ≠ I + 1 + 1 := ⟨Nat.ne_of_lt hLI, Nat.ne_of_lt (Nat.lt_succ_of_lt hLI), Nat.ne_of_lt (Nat.lt_succ_of_lt (Nat.lt_succ_of_lt hLI))⟩
  have hDC : (I + 1 : Nat) ≠ I + 1 + 1 := by omega
  have hCL : (I + 1 + 1 : Nat) ≠ L := fun q => neL.2.2 q.symm
  have mk : ∀ s₃ : Shared, Moved ((I + 1) :: [I + 1 + 1, L] ++ [I]) (fun a b => b = a) { s₁ with heap := H3 } s₃ → KeepsL L s₁ s₃ := by
    intro s₃ hM
    refine ⟨s₃.heap, s₃.toks, ?_, fun b o hb e => hM.heap b o (fun hm => ?_) (old2 b o e)⟩
    · obtain ⟨a1, a2, a3, a4, a5⟩ := s₃
      have e1 := hM.gens; have e2 := hM.drawn; have e3 := hM.os
      dsimp only at e1 e2 e3
      subst e1; subst e2; subst e3; rfl
    · have hlt := ltI b o e
      simp only [List.cons_append, List.nil_append, List.mem_cons, List.not_mem_nil, or_false] at hm
      rcases hm with q | q | q | q
      · rw [q] at hlt; exact absurd hlt (Nat.not_lt.mpr (Nat.le_succ _))
      · rw [q] at hlt; exact absurd hlt (Nat.not_lt.mpr (Nat.le_succ_of_le (Nat.le_succ _)))
      · exact hb q
      · rw [q] at hlt; exact Nat.lt_irrefl _ hlt
  have loop : codeAny (model prog w) A (.compLoop (.ListComp elt [⟨.Name x px, iter, [], 0⟩] scope pos) 0 (.ref I) (.ref (I + 1)) (compEnvK scope cl (I + 1 + 1) env))
      (compPost (model prog w) A E none Q (.ref (I + 1)) (I + 1 + 1)) { s₁ with heap := H3 } := by
    refine loop1 (own := [I + 1 + 1, L]) (Ok := fun h => (∃ m, h.Ns (I + 1 + 1) m) ∧ h.Ns L m₀) (cenv := compEnvK scope cl (I + 1 + 1) env) W Inv hmono hlen
      (fun h h' ⟨⟨m, hm⟩, hL⟩ hk => ⟨⟨m, hm.at' fun o e => hk _ (.head _) o e⟩, hL.at' fun o e => hk _ (.tail _ (.head _)) o e⟩) ?_ ?_ ?_ ?_ hacc ⟨⟨_, hnsC⟩, hnsL⟩ ?_ ?_ ?_ (fun _ => rfl) (by rw [sizeLine_eq]; omega)
    · simp only [List.mem_cons, List.not_mem_nil, or_false, not_or]; exact ⟨hDC, fun q => neL.2.1 q.symm⟩
    · simp only [List.mem_cons, List.not_mem_nil, or_false]; exact fun q => absurd q (by show (I + 1 : Nat) ≠ I; omega)
    · intro b hb
      simp only [List.mem_cons, List.not_mem_nil, or_false] at hb ⊢
      rcases hb with rfl | rfl
      · show (I + 1 + 1 : Nat) ≠ I; omega
      · exact neL.1
    · show IsRangeIter _ _ _ _ _
      simpa using hst
    · exact hmono _ _ _ _ (fun _ _ e => e.elim) h0
    · intro j v ys s₃ hj hPv hSt ⟨⟨m₃, hm₃⟩, hL₃⟩ ⟨nD, hD⟩ hM hI'
      obtain ⟨tv, rfl⟩ := hPv
      refine wpAny_assign_Name (wpAny_storeName_local (lookup_relabel_local hx) hm₃ (fun h₄ hn₄ hs₄ => ?_) (by simp [compEnvK, relabel, hkind]))
      replace hs₄ : Heap.SameBut (I + 1 + 1) s₃.heap h₄ := hs₄
      replace hn₄ : h₄.Ns (I + 1 + 1) (fun y => if y = x then some (.int (0 + (j : Int) * 1) tv) else m₃ y) := hn₄
      show wpAny _ _ (pure true) _ _ _
      refine wpAny_pure ?_
      rw [if_pos rfl]
      obtain ⟨oC, es, ep, hoC, rr⟩ := id hn₄
      have hk3 : KeepsL L s₁ { s₃ with heap := h₄, toks := s₃.toks + 1 } := by
        obtain ⟨h', tk, e3, k3⟩ := mk s₃ hM
        subst e3
        exact ⟨h₄, _, rfl, fun b o hb e => hs₄.extBut b o (fun q => by
          have hlt := ltI b o e
          rw [q] at hlt; exact absurd hlt (Nat.not_lt.mpr (Nat.le_succ_of_le (Nat.le_succ _)))) (k3 b o hb e)⟩
      have hL₄ : h₄.Ns L m₀ := hL₃.sameBut hs₄ (fun q => hCL q.symm)
      obtain ⟨oL, _, _, hoL, _⟩ := id hL₄
      have hI4 : Inv j ys (hvx ((I + 1) :: [I + 1 + 1, L] ++ [I]) h₄) := hmono _ _ _ _ (fun a o e => ⟨e.1, hs₄.extBut a o (fun q => e.1 (by rw [q]; exact .tail _ (.head _))) e.2⟩) hI'
      refine wpAny_mono (wpAny_toks (turn (I + 1 + 1) _ j tv ys { s₃ with heap := h₄, toks := s₃.toks + 1 } oC _ _ (Nat.le_succ_of_le (Nat.le_succ _)) ?_ hj hoC (fun h e => ⟨oC, es, ep, e, rr⟩) ?_ hk3 hL₄ hI4)) (fun y s₆ h₆ => ?_) fun _ _ e => e.2
      · intro b hb
        simp only [List.cons_append, List.nil_append, List.mem_cons, List.not_mem_nil, or_false] at hb
        rcases hb with rfl | rfl | rfl | rfl
        · exact ⟨_, hs₄.extBut _ _ hDC hD⟩
        · exact ⟨_, hoC⟩
        · exact ⟨_, hoL⟩
        · exact ⟨_, hs₄.extBut _ _ (by show (_ : Nat) ≠ _ + 1 + 1; omega) hSt⟩
      · simp
      · obtain ⟨htk, ⟨h6, tk6, rfl, hk6⟩, hL6, hI6⟩ := h₆
        refine ⟨⟨⟨h6, tk6, rfl, Nat.le_of_succ_le htk⟩, fun b o hb e => ?_, ?_⟩, hI6⟩
        · simp only [List.mem_cons, List.not_mem_nil, or_false, not_or] at hb
          exact hk6 b o hb.2 (hs₄.extBut b o hb.1 e)
        · exact ⟨⟨_, hn₄.at' fun o e => hk6 _ o hCL e⟩, hL6⟩
    · intro s' ys ⟨⟨m', hm'⟩, hL'⟩ hl hi hM
      refine ⟨m', hm', fun h'' hs'' => ?_⟩
      obtain ⟨h', tk, e3, k3⟩ := mk s' hM
      subst e3
      refine hfin (I + 1) ((I + 1) :: [I + 1 + 1, L] ++ [I]) { s₁ with heap := h'', toks := tk } ys (Nat.le_succ _) (hl.extBut hs''.extBut hDC) ?_ ⟨h'', tk, rfl, fun b o hb e => hs''.extBut b o (fun q => by
          have hlt := ltI b o e
          rw [q] at hlt; exact absurd hlt (Nat.not_lt.mpr (Nat.le_succ_of_le (Nat.le_succ _)))) (k3 b o hb e)⟩ (hL'.sameBut hs'' (fun q => hCL q.symm))
      exact hmono _ _ _ _ (fun a o e => ⟨e.1, hs''.extBut a o (fun q => e.1 (by rw [q]; exact .tail _ (.head _))) e.2⟩) hi
  exact codeAny_compStart_list loop (W.self 0 _ _ _ (by show IsRangeIter _ _ _ _ _; simpa using hst) loop)
end
end Mine
end
/-! part L19 -/
section
open PySem PySem.W PyProof.Rows PySem.Spec PySem.Calls
set_option maxRecDepth 100000
set_option maxHeartbeats 4000000
namespace Mine
section
variable {hG h h' : Heap} {L : Nat} {m m' : Str → Option Value} {vT vN vO vH vA : Option Value} {ps : Array Value} {X : List (Addr × Obj)}
theorem KeepsL.get {s s' : Shared} {b : Addr} {o : Obj} (k : KeepsL L s s') (hb : b ≠ L) (e : s.heap.get? b = some o) : s'.heap.get? b = some o := by
  obtain ⟨h', tk, rfl, k⟩ := k
  exact k b o hb e
theorem Ns.ne_of_none {b : Addr} (n : h.Ns L m) (e : h.get? b = none) : b ≠ L := fun r => by
  obtain ⟨_, _, _, el, _⟩ := n
  rw [← r, e] at el; cases el
theorem LSt.keepsL {s s' : Shared} (S : LSt hG L m vT vN vO vH vA ps s.heap) (k : KeepsL L s s') (n : s'.heap.Ns L m) : LSt hG L m vT vN vO vH vA ps s'.heap ∧ vle (gv hG L s.heap) (gv hG L s'.heap) := by
  obtain ⟨h', tk, rfl, k⟩ := k
  have ck : ∀ i v, CellAt s.heap (L + (i + 1)) v → CellAt h' (L + (i + 1)) v := fun i v ⟨o, e, d⟩ => ⟨o, k _ _ (ne_add L i) e, d⟩
  exact ⟨⟨⟨n, fun b o e => k b o (Nat.ne_of_lt (Nat.lt_of_lt_of_le (Heap.lt_size e) S.F.above)) (S.F.keep b o e), S.F.above⟩, ck 0 _ S.tree, ck 1 _ S.names, ck 2 _ S.told, ck 3 _ S.there, ck 4 _ S.again, k _ _ S.l194 S.tab, S.g194, S.lt194⟩,
    fun a o e => ⟨e.1, e.2.1, k a o (fun q => e.2.1 (by rw [q]; exact .head _)) e.2.2⟩⟩
/-- a walk at the law's frame keeps all but the frame -/
theorem keepsL_of {s : Shared} {o1 o2 o3 o4 o5 : Obj} {Z : List (Addr × Obj)} {tk : Nat} (F₀ : Fr hG L s.heap m) (N₀ : News hG L s.heap ((L + 1 + 1 + 1 + 1 + 1, o5) :: (L + 1 + 1 + 1 + 1, o4) :: (L + 1 + 1 + 1, o3) :: (L + 1 + 1, o2) :: (L + 1, o1) :: (194, tabObj ps) :: Z)) (hZ : ∀ a o, gv hG L s.heap a o ↔ (a, o) ∈ Z)
    (F : Fr hG L h' m') (N : News hG L h' X) (h5 : (L + 1 + 1 + 1 + 1 + 1, o5) ∈ X) (h4 : (L + 1 + 1 + 1 + 1, o4) ∈ X) (h3 : (L + 1 + 1 + 1, o3) ∈ X) (h2 : (L + 1 + 1, o2) ∈ X) (h1 : (L + 1, o1) ∈ X) (ht : (194, tabObj ps) ∈ X) (hz : ∀ q ∈ Z, q ∈ X) : KeepsL L s { s with heap := h', toks := tk } := by
  refine ⟨h', tk, rfl, fun b o hb e => ?_⟩
  cases q : hG.get? b with
  | some o' =>
    have := F₀.keep _ _ q
    rw [this] at e; cases e
    exact F.keep _ _ q
  | none =>
    by_cases hm : b ∈ mutL L
    · have fin : ∀ o', (b, o') ∈ X → s.heap.get? b = some o' → h'.get? b = some o := fun o' hx e' => by
        rw [e] at e'; cases e'
        exact (N _ hx).1
      simp only [mutL, List.mem_cons, List.not_mem_nil, or_false] at hm
      rcases hm with rfl | rfl | rfl | rfl | rfl | rfl | rfl
      · exact absurd rfl hb
      · exact fin _ h1 (N₀.get (by k_mem))
      · exact fin _ h2 (N₀.get (by k_mem))
      · exact fin _ h3 (N₀.get (by k_mem))
      · exact fin _ h4 (N₀.get (by k_mem))
      · exact fin _ h5 (N₀.get (by k_mem))
      · exact fin _ ht (N₀.get (by k_mem))
    · exact (N _ (hz _ ((hZ b o).mp ⟨q, hm, e⟩))).1
end
def tkRow (k : Nat) : Row := .tok "X" (k : Int)
section
local macro_rules | `(tactic| tm_at "w Opq") => `(tactic| fail "stop")
variable {w : World} {p : Program} {loose : List Str} {mean : ExcName → Option Value} {mg mb : Str → Option Value} {A : Around} {hG : Heap} {L : Nat} {m : Str → Option Value} {s : Shared} {E : Value → Shared → Prop} {Q : Flow → Shared → Prop}
theorem st19 (G : LG w p loose mean mg mb A hG) {vT vN vO vH : Option Value} {ps : Array Value} {hd0 : Int} {t0 : Tok} (hhd : m "head" = some (.int hd0 t0))
    (S : LSt hG L m vT vN vO vH none ps s.heap) : ∀ oc od fd osl, (hd.heap_39 w.params).lookup 197 = some ⟨oc, od, .func fd, osl⟩ → ∀ rest,
    (∀ h' tk' m' aw dw lw ks (n : Nat), LSt hG L m' vT vN vO vH none ps h' → vle (gv hG L s.heap) (gv hG L h') → (∀ x, x ≠ ("wide" : Str) → m' x = m x) → m' "wide" = some (.ref aw) → TV (gv hG L h') (.tree aw dw lw "wide" ks) → 4 + hd0.fmod 5 = (n : Int) → N.rows ks = (List.range n).map tkRow →
      wpAny (model PySem.Challenge.rw_fi0013_01.row.prog w) (A.deeper (lawEnv fd L)) (execs rest (lawEnv fd L)) Q E { s with heap := h', toks := tk' }) →
    wpAny (model PySem.Challenge.rw_fi0013_01.row.prog w) (A.deeper (lawEnv fd L)) (execs (stmtAt fd 19 :: rest) (lawEnv fd L)) Q E s := by
  have G0 := G
  obtain ⟨hd0, dep, frs, gds, un⟩ := A
  obtain ⟨X, T, B, hh, hdp, hun, C⟩ := G
  obtain rfl : frs = some [] := B.stack
  obtain rfl : hd0 = none := hh
  dsimp only at hdp hun
  revert X; k_fill; intro X
  (with_unfolding_all k_dflt refine' (fn_case ?e ?h))
  case e => k_is
  case h =>
  intro rest K
  conv => arg 3; arg 1; arg 1; whnf
  dsimp only [lawEnv] at K ⊢
  obtain ⟨o5, o4, o3, o2, o1, Z, d1, d2, d3, d4, d5, Nw, hZ⟩ := S.news
  have h194 := S.lt194
  have F := S.F
  rw [upd_self hhd] at F
  have q1 : 0 ≤ hd0.fmod 5 ∧ hd0.fmod 5 < 5 := ⟨Int.fmod_nonneg_of_pos _ (by decide), Int.fmod_lt_of_pos _ (by decide)⟩
  obtain ⟨n, hn⟩ : ∃ n : Nat, 4 + hd0.fmod 5 = (n : Int) := ⟨(4 + hd0.fmod 5).toNat, by omega⟩
  have hn8 : n ≤ 8 := by omega
  (try k_fold)
  k_steps
  refine ⟨?_⟩
  k_dflt refine' compRW (L := L) (cl := []) ?hclos ?hpc ?hcf ?hkind ?hnames ?hx ?_ ?hs
  case hclos => exact closureFor_none (by decide)
  case hpc => exact fun _ => rfl
  case hcf => exact fun _ => rfl
  case hkind => exact rfl
  case hnames => decide
  case hx => exact rfl
  case hs => exact fun _ => rfl
  k_steps
  rename IsRange _ _ _ _ _ _ _ _ => hR
  rename Fr hG _ _ _ => F1
  rename News hG _ _ _ => N1
  rename ∀ b o, _ = some o → _ => hk1
  rename_i h1 tk1 _ _ _
  dsimp only at hk1
  rw [hn] at hR
  have S1 := LSt.of_news F1 N1 (by k_mem) (by k_mem) (by k_mem) (by k_mem) (by k_mem) (by k_mem) d1 d2 d3 d4 d5 h194
  have v01 : vle (gv hG L s.heap) (gv hG L h1) := gv_keeps hk1
  refine ⟨_, n, _, rfl, ⟨⟨_, _, _, hR⟩, by omega, rfl, S1.F.ns, fun j ys G => ∃ ks : List N, ys = ks.map N.val ∧ TVs (fun b o => h1.get? b = none ∧ G b o) ks ∧ N.rows ks = (List.range j).map tkRow, ?_, ?_, ⟨[], rfl, .nil, rfl⟩, ?_, ?_⟩⟩
  · rintro j ys G G' hle ⟨ks, e, tv, hr⟩
    exact ⟨ks, e, tv.mono fun b o q => ⟨q.1, hle b o q.2⟩, hr⟩
  · rintro j ys G ⟨ks, rfl, tv, hr⟩
    have := congrArg List.length hr
    rw [rows_length] at this
    simpa using Nat.le_of_eq this
  · rintro C2 Z2 j tv ys s₃ oC m₃ E' hC hX hj hoC hns hm' hk3 hnL ⟨ks, rfl, tvs, hr⟩
    obtain ⟨S3, v13⟩ := LSt.keepsL (s := { s with heap := h1, toks := tk1 }) S1 hk3 hnL
    have gC := S1.frv _ _ ⟨Heap.get?_none_of_le hC, hoC⟩
    clear F1 N1 hZ d1 d2 d3 d4 d5
    obtain ⟨o5, o4, o3, o2, o1, Z, d1, d2, d3, d4, d5, Nw, hZ⟩ := S3.news
    have F3 := S3.F
    have old : Opq (Fr hG L s₃.heap _ ∧ News hG L s₃.heap _) := ⟨F3, Nw⟩
    have N3 := News.expose gC Nw
    have hm2 : m₃ "k" = some (.int (j : Int) tv) := hm'
    clear hm'
    k_steps
    rename (_ < _ ∧ L + 1 + 1 + 1 + 1 + 1 < _ ∧ _) => ld
    rename _ < _ => lx
    rename Fr hG _ _ _ => F'
    rename News hG _ _ _ => N'
    dsimp only at F' N'
    have kk := fun tk => keepsL_of (tk := tk) old.1 old.2 hZ F' N' (by k_mem) (by k_mem) (by k_mem) (by k_mem) (by k_mem) (by k_mem) (fun q hq => by simp only [List.mem_cons, hq, or_true])
    have gx := gv_new N' (.head _) (Nat.lt_trans ld.2.1 lx) (Nat.lt_trans ld.2.2.2.2.2.2.1 lx)
    have gd := gv_new N' (.tail _ (.head _)) ld.2.1 ld.2.2.2.2.2.2.1
    have fx := fresh_of hZ N' (.head _) gx (allLt_trans (Nat.le_of_lt lx) ld.2.2.2.2.2.2.2)
    have fd := fresh_of hZ N' (.tail _ (.head _)) gd ld.2.2.2.2.2.2.2
    have fin : ∀ b, s₃.heap.get? b = none → h1.get? b = none ∧ b ∉ Z2 := fun b e => by
      refine ⟨?_, fun q => ?_⟩
      · cases q : h1.get? b with
        | none => rfl
        | some o =>
          have := hk3.get (Ns.ne_of_none hnL e) q
          rw [e] at this; cases this
      · obtain ⟨o, q⟩ := hX b q
        rw [e] at q; cases q
    refine ⟨kk _, F'.ns, ks ++ [.tok _ _ "X" j], by simp [N.addr], TVs_snoc (tvs.mono fun b o q => ⟨q.1, q.2.1, (kk 0).get (Ns.ne_of_none S1.F.ns q.1) q.2.2⟩) (.tok ⟨(fin _ fx).1, (fin _ fx).2, gx.2.2⟩ ⟨(fin _ fd).1, (fin _ fd).2, gd.2.2⟩), by rw [rows_append, hr, List.range_succ, List.map_append]; rfl⟩
  · rintro D Z2 s' ys hD ⟨nD, hl⟩ ⟨ks, rfl, tvs, hr⟩ hk3 hnL
    obtain ⟨S3, v13⟩ := LSt.keepsL (s := { s with heap := h1, toks := tk1 }) S1 hk3 hnL
    obtain ⟨h3, tk3, rfl, hk3⟩ := hk3
    dsimp only at S3 v13 hl hnL tvs hk3
    have g1 : ∀ b o, h1.get? b = none → h3.get? b = some o → gv hG L h3 b o := fun b o e1 e3 => S1.frv _ _ ⟨e1, e3⟩
    have tv3 : TVs (gv hG L h3) ks := tvs.mono fun b o q => g1 b o q.1 q.2.2
    have gD : gv hG L h3 D (listOf (ks.map N.val).toArray nD) := g1 _ _ (Heap.get?_none_of_le hD) hl
    clear F1 N1 hZ d1 d2 d3 d4 d5
    obtain ⟨o5, o4, o3, o2, o1, Z, d1, d2, d3, d4, d5, Nw, hZ⟩ := S3.news
    have F3 := S3.F
    have N3 := News.expose gD Nw
    k_steps
    rename (_ < _ ∧ L + 1 + 1 + 1 + 1 + 1 < _ ∧ _) => ld
    rename _ < _ => lx
    rename Fr hG _ _ _ => F'
    rename News hG _ _ _ => N'
    have v' := gv_step N' (fun a o g => by have := (hZ a o).mp g; simp only [List.mem_cons, this, or_true])
    have gx := gv_new N' (.head _) (Nat.lt_trans ld.2.1 lx) (Nat.lt_trans ld.2.2.2.2.2.2.1 lx)
    have gd := gv_new N' (.tail _ (.head _)) ld.2.1 ld.2.2.2.2.2.2.1
    exact K _ _ _ _ _ _ _ _ (.of_news F' N' (by k_mem) (by k_mem) (by k_mem) (by k_mem) (by k_mem) (by k_mem) d1 d2 d3 d4 d5 h194) (fun a o q => v' _ _ (v13 _ _ (v01 _ _ q))) (fun x hx => by simp only [if_neg hx]; split; (rename_i e; rw [e, hhd]); rfl) rfl
      (.tree gx gd (v' _ _ gD) rfl (tv3.mono v')) hn hr
end
end Mine
end
/-! part L20 -/
section
open PySem PySem.W PyProof.Rows PySem.Spec PySem.Calls
set_option maxRecDepth 100000
set_option maxHeartbeats 4000000
namespace Mine
def vlOf : N → Int
  | .tok _ _ _ v => v
  | .tree _ _ _ _ _ => 0
def isBig (t : N) : Bool := decide (1 < vlOf t)
theorem els_ints {G : View} : ∀ {vs : List Value} {ts : List N}, ElsV (fun _ v t => ∃ u, v = .int (vlOf t) u) G vs ts → IntsAre vs (ts.map vlOf)
  | _, _, .nil => .nil
  | _, _, .cons ⟨u, e⟩ b => by subst e; exact .cons _ u (els_ints b)
theorem ints_eqv : ∀ a b : List Int, PyData.eqvAll (a.map PyData.int) (b.map PyData.int) = decide (a = b)
  | [], [] => by simp [PyData.eqvAll]
  | [], _ :: _ => by simp [PyData.eqvAll]
  | _ :: _, [] => by simp [PyData.eqvAll]
  | i :: a, j :: b => by
    simp only [List.map_cons, PyData.eqvAll, ints_eqv a b, PyData.eqv]
    rw [Bool.eq_iff_iff]
    simp
theorem ints_lay : ∀ a : List Int, PyData.canLayAll0 (a.map PyData.int) = true
  | [] => rfl
  | q :: a => by simp [PyData.canLayAll0, PyData.canLay0, ints_lay a]
theorem ints_depth : ∀ a : List Int, PyData.depthAll (a.map PyData.int) ≤ 1
  | [] => by simp [PyData.depthAll]
  | q :: a => by have := ints_depth a; simp [PyData.depthAll, PyData.depth]; omega
section
variable {prog : Program} {w : World} {A : Around} {E : Value → Shared → Prop} {s : Shared} {a b : Addr} {qa qb : List Int} {va vb : List Value} {n1 n2 : Nat} {Q : Value → Shared → Prop}
theorem cmpNe_ints (ga : s.heap.get? a = some (W.listOf va.toArray n1)) (gb : s.heap.get? b = some (W.listOf vb.toArray n2)) (ha : IntsAre va qa) (hb : IntsAre vb qb)
    (hu : A.units + 10 < cLine) (h : Q (.bool (!decide (qa = qb))) s) : wpAny (model prog w) A (compareOp .NotEq (.ref a) (.ref b)) Q E s := by
  have ra : Reads s.heap (.ref a) (.list (qa.map PyData.int)) _ := Reads.list ga rfl rfl (by simpa using ha.reads _)
  have rb : Reads s.heap (.ref b) (.list (qb.map PyData.int)) _ := Reads.list gb rfl rfl (by simpa using hb.reads _)
  refine SeqAt.compareNe_reads ra rb (by simpa [PyData.canLay0] using ints_lay _) (by simpa [PyData.canLay0] using ints_lay _) ?_ (by simpa [PyData.eqv, ints_eqv] using h)
  have := ints_depth qa
  simp only [PyData.depth]
  omega
end
theorem wide_big : ∀ (ks : List N) (l : List Nat), N.rows ks = l.map tkRow → ((N.tokss ks).filter isBig).map vlOf = (l.map fun k : Nat => (k : Int)).filter fun i => decide (1 < i)
  | [], [], _ => rfl
  | [], _ :: _, h => nomatch h
  | _ :: _, [], h => nomatch h
  | .tree _ _ _ _ _ :: ks, k :: l, h => by simp [N.rows, N.row, tkRow] at h
  | .tok a da ty v :: ks, k :: l, h => by
    simp only [N.rows, N.row, tkRow, List.map_cons, List.cons.injEq, Row.tok.injEq] at h
    obtain ⟨⟨_, rfl⟩, h2⟩ := h
    have ih := wide_big ks l h2
    simp only [N.tokss, N.toks, List.cons_append, List.nil_append, List.filter_cons, List.map_cons]
    have : isBig (.tok a da ty (k : Int)) = decide (1 < (k : Int)) := rfl
    rw [this]
    by_cases q : 1 < (k : Int)
    · simp only [decide_eq_true q, if_true, List.map_cons, ih]; rfl
    · simp only [decide_eq_false q, Bool.false_eq_true, if_false, ih]
theorem wide_size : ∀ l : List Nat, Row.sizes (l.map tkRow) = l.length
  | [] => rfl
  | k :: l => by simp only [List.map_cons, Row.sizes, wide_size l, tkRow, Row.size, List.length_cons]; omega
theorem wide_law {n : Nat} (h1 : 4 ≤ n) (h2 : n ≤ 8) : ((List.range n).map fun k : Nat => (k : Int)).filter (fun i => decide (1 < i)) = rangeKs 2 ((n : Int) - 2).toNat := by
  have : n = 4 ∨ n = 5 ∨ n = 6 ∨ n = 7 ∨ n = 8 := by omega
  rcases this with rfl | rfl | rfl | rfl | rfl <;> decide
section
local macro_rules | `(tactic| tm_at "my compG") => `(tactic| (refine ⟨?_⟩; k_dflt (refine' compG (cl := []) ?hclos ?hpc ?hcf ?hkind ?hnames ?hx ?_ ?hs; (case hclos => exact closureFor_none (by decide)); (case hpc => exact fun _ => rfl); (case hcf => exact fun _ => rfl); (case hkind => exact rfl); (case hnames => decide); (case hx => exact rfl); (case hs => exact fun _ => rfl); k_whole)))
local macro_rules | `(tactic| tm_at "w compareOp NotEq ref ref") => `(tactic| refine stop_here ?_)
local macro_rules | `(tactic| tm_at "w call ref") => `(tactic| ((with_reducible show wpAny _ _ (call (Value.ref 132) _ _) _ _ _); refine stop_here ?_))
variable {w : World} {p : Program} {loose : List Str} {mean : ExcName → Option Value} {mg mb : Str → Option Value} {A : Around} {hG : Heap} {L : Nat} {m : Str → Option Value} {s : Shared} {E : Value → Shared → Prop} {Q : Flow → Shared → Prop}
theorem st20 (G : LG w p loose mean mg mb A hG) {vT vN vO vH : Option Value} {c1 c2 : Addr} {hd0 : Int} {t0 : Tok} (hhd : m "head" = some (.int hd0 t0)) {aw dw lw : Addr} {ks : List N} {n : Nat} (hwi : m "wide" = some (.ref aw)) (vw : TV (gv hG L s.heap) (.tree aw dw lw "wide" ks)) (hn : 4 + hd0.fmod 5 = (n : Int)) (hrs : N.rows ks = (List.range n).map tkRow)
    (S : LSt hG L m vT vN vO vH none ((#[] ++ #[rawInt ((138 : Nat) : Int), rawInt ((0 : Nat) : Int), .ref c1]) ++ #[rawInt ((139 : Nat) : Int), rawInt ((0 : Nat) : Int), .ref c2]) s.heap) : ∀ oc od fd osl, (hd.heap_39 w.params).lookup 197 = some ⟨oc, od, .func fd, osl⟩ → ∀ rest,
    (∀ h' gens' tk' ps, LSt hG L m vT vN vO vH none ps h' → vle (gv hG L s.heap) (gv hG L h') → Fins s.gens gens' →
      wpAny (model PySem.Challenge.rw_fi0013_01.row.prog w) (A.deeper (lawEnv fd L)) (execs rest (lawEnv fd L)) Q E ⟨h', gens', s.drawn, tk', s.os⟩) →
    wpAny (model PySem.Challenge.rw_fi0013_01.row.prog w) (A.deeper (lawEnv fd L)) (execs (stmtAt fd 20 :: rest) (lawEnv fd L)) Q E s := by
  have G0 := G
  obtain ⟨hd0, dep, frs, gds, un⟩ := A
  obtain ⟨X, T, B, hh, hdp, hun, C⟩ := G
  obtain rfl : frs = some [] := B.stack
  obtain rfl : hd0 = none := hh
  dsimp only at hdp hun
  revert X; k_fill; intro X
  (with_unfolding_all k_dflt refine' (fn_case ?e ?h))
  case e => k_is
  case h =>
  intro rest K
  conv => arg 3; arg 1; arg 1; whnf
  dsimp only [lawEnv] at K ⊢
  obtain ⟨o5, o4, o3, o2, o1, Z, d1, d2, d3, d4, d5, Nw, hZ⟩ := S.news
  have h194 := S.lt194
  have z0 := zne hZ 194 (by simp [mutL])
  have F := S.F
  rw [upd_self hhd, upd_self hwi] at F
  obtain ⟨_, _, _, _, _, _, _, itb, epb, hob, hodb, hlb, hitb, hkb⟩ := vw.invG
  have hkn : ks.length = n := by have := congrArg List.length hrs; rw [rows_length] at this; simpa using this
  have hitz : itb.size = n := by rw [← Array.length_toList, hitb, List.length_map, hkn]
  have q1 : 0 ≤ hd0.fmod 5 ∧ hd0.fmod 5 < 5 := ⟨Int.fmod_nonneg_of_pos _ (by decide), Int.fmod_lt_of_pos _ (by decide)⟩
  have hn8 : n ≤ 8 := by omega
  have hn4 : 4 ≤ n := by omega
  have e1 : @Ne Nat aw 194 := fun q => hob.2.1 (by rw [show aw = 194 from q]; simp [mutL])
  have e2 : @Ne Nat dw 194 := fun q => hodb.2.1 (by rw [show dw = 194 from q]; simp [mutL])
  have e3 : @Ne Nat lw 194 := fun q => hlb.2.1 (by rw [show lw = 194 from q]; simp [mutL])
  have N₀ := News.expose hob (News.expose hodb (News.expose hlb Nw))
  (try k_fold)
  k_steps
  · exfalso
    rename ¬ (n : Int) = _ => hne
    exact hne hn.symm
  tm_at "my compG"
  k_steps
  refine ⟨?_⟩
  rename Fr hG _ _ _ => F1
  rename News hG _ _ _ => N1
  rename _ = PySem.Data.fields _ => dc1
  rename _ = some (Value.str _ _) => dq1
  rename_i f1 c1 oc1 vs1 tq1 ct1 h1 tk1
  have S1 := LSt.of_news F1 N1 (by k_mem) (by k_mem) (by k_mem) (by k_mem) (by k_mem) (by k_mem) d1 d2 d3 d4 d5 h194
  have v01 := gv_step N1 (fun a o g => by have := (hZ a o).mp g; simp only [List.mem_cons, this, or_true])
  have PO1 := lam_pred (pr := isBig) (X.keeps F1.keep) (T.keeps F1.keep) (N1.get (.head _)) (codeRec_news N1 (.tail _ (.head _)) dc1 dq1) (fun _ => rfl) rfl rfl rfl rfl (by decide) (fun A s L' h₁ tk E k hh hd hu X T F tv ht => by
    cases tv with
    | tree => cases ht
    | tok g1 g2 =>
      have I : InstAt s.heap _ _ 52 (some _) := ⟨g1, rfl, rfl, g2⟩
      have N := News.nil (h₀ := s.heap) (h := h₁) (L := L')
      k_steps
      exact ⟨keeps_toks, rfl⟩)
  have hz : (N.tree aw dw lw "wide" ks).row.size ≤ 100 := by
    have := wide_size (List.range n)
    rw [← hrs, List.length_range] at this
    simp only [N.row, Row.size]; omega
  refine law_scan G0 S1 (t := .tree aw dw lw "wide" ks) (vw.mono v01) rfl hz PO1 (El := fun _ v t => ∃ u, v = .int (vlOf t) u) (fun G G' v t h x => x) ?_ ?_
  · intro C t' s₃ oC m₃ E' hC ht' hoC hns hm' hbs
    have tvt := (vw.mono v01).toks t' ht'
    cases tvt with
    | tree => exact absurd (toks_isTok _ _ ht') (by simp [N.isTree])
    | tok ga gda =>
      have F₃ := F1.keeps hbs
      have N₃ := News.expose (gv_keeps hbs _ _ ga) (News.expose (gv_keeps hbs _ _ gda) (news_add' F1 (N1.grown hbs) hoC hC))
      have hm2 : m₃ "one" = some (.ref _) := hm'
      clear hm' F1 N1
      k_steps
  · intro D h2 gens2 tk2 ys nn S2 v12 gD hE hg1 hg2
    have v02 : vle (gv hG L s.heap) (gv hG L h2) := fun a o g => v12 a o (v01 a o g)
    clear F1 N1 hZ d1 d2 d3 d4 d5 F Nw N₀ z0
    obtain ⟨o5, o4, o3, o2, o1, Z, d1, d2, d3, d4, d5, Nw, hZ⟩ := S2.news
    have F := S2.F
    have N₀ := News.expose gD Nw
    dsimp only
    k_steps
    rename Fr hG _ _ _ => F3
    rename News hG _ _ _ => N3
    rename IntsAre _ _ => hI
    refine ⟨cmpNe_ints (N3.get (.tail _ (.head _))) (N3.get (.head _)) (els_ints hE) hI (by show un + 3 + 10 < _; omega) ?_⟩
    have e0 : ((N.tree aw dw lw "wide" ks).toks.filter isBig).map vlOf = rangeKs 2 (4 + hd0.fmod 5 - 2).toNat := by
      rw [show (N.tree aw dw lw "wide" ks).toks = N.tokss ks from rfl, wide_big ks _ hrs, wide_law hn4 hn8, hn]
    rw [decide_eq_true e0, Bool.not_true]
    k_steps
    show wpAny _ _ (execs rest _) _ _ _
    have v23 := gv_step N3 (fun a o g => by have := (hZ a o).mp g; simp only [List.mem_cons, this, or_true])
    have S3 := LSt.of_news F3 N3 (by k_mem) (by k_mem) (by k_mem) (by k_mem) (by k_mem) (by k_mem) d1 d2 d3 d4 d5 h194
    rw [← upd_self hwi, ← upd_self hhd] at S3
    exact K _ _ _ _ S3 (fun a o g => v23 a o (v02 a o g)) (Fins.of hg1 hg2)
end
end Mine
end
/-! part T8 -/
section
open PySem PySem.W PyProof.Rows PySem.Spec PySem.Calls
set_option maxRecDepth 100000
set_option maxHeartbeats 1000000
namespace Mine
section
variable {prog : Program} {w : World} {A : Around} {E : Value → Shared → Prop} {s s₁ : Shared} {env : Env}
/-- a comprehension whose variable is a cell, its base any state -/
theorem comp1CS {elt iter : Expr} {x : Str} {px : Pos} {ifs : List Expr} {scope : Scope} {pos : Pos} {cl : List (Str × Addr)} {Q : Value → Shared → Prop}
    (hclos : closureFor scope env = pure cl) (hpc : ∀ h, pushCells h scope.names = h.push { cls := .type "cell", data := .cell none }) (hcf : ∀ n, cellsFrom n scope.names cl = (x, n) :: cl)
    (hkind : scope.kind = .function) (hnames : ∀ y ∈ scope.names, y.2 = .local → scope.names.lookup y.1 = some .local) (hx : ∀ c C, (compEnvK scope ((x, c) :: cl) C env).kindOf x = some .cell)
    (h : wpAny (model prog w) A (eval iter env) (fun xv s₁ => Opq (∃ s₀, CompInC prog w A s₀ env scope cl x ifs elt Q xv s₁)) E s)
    (hs : ∀ x, foldedSetIterable iter env x = pure x := by intro _; rfl) :
    wpAny (model prog w) A (eval (.ListComp elt [⟨.Name x px, iter, ifs, 0⟩] scope pos) env) Q E s := by
  refine comp1CL hclos hpc hcf hkind hnames hx (wpAny_mono h (fun xv s₁ h₁ => ?_) fun _ _ e => e) hs
  obtain ⟨s₀, h₁⟩ := h₁
  obtain ⟨hk₁, hsz₁, n, P, src, hn, Inv, hmono, hlen, h0, turn, hfin⟩ := h₁.out
  refine src _ _ fun I s₂ fp St hk₂ hI W hfp hlive hst => ?_
  have hk := keeps_trans hk₁ hk₂
  have hIlt : ∀ b ∈ [I], b < s₂.heap.objs.size := fun b hb => hfp b (W.sub b hb)
  have old2 : ∀ b, b < s₀.heap.objs.size → b ∉ [I] := fun b hb h => by obtain rfl := List.mem_singleton.mp h; exact absurd hb (Nat.not_lt.mpr hI)
  have hs2 : s₀.heap.objs.size ≤ s₂.heap.objs.size := Nat.le_trans hI (Nat.le_of_lt (hIlt I (List.mem_singleton.mpr rfl)))
  have mkK : ∀ s₃, Moved [I] (fun a b => b = a) s₂ s₃ → Keeps s₀ s₃ := by
    intro s₃ hM
    obtain ⟨h', tk, rfl, kk⟩ := hk
    refine ⟨s₃.heap, s₃.toks, ?_, fun b o e => hM.heap b o (old2 b (Heap.lt_size e)) (kk b o e)⟩
    obtain ⟨a1, a2, a3, a4, a5⟩ := s₃
    have e1 := hM.gens; have e2 := hM.drawn; have e3 := hM.os
    dsimp only at e1 e2 e3
    subst e1; subst e2; subst e3; rfl
  refine ⟨I, fp, [I], _, n, P, St, rfl, W, hn, hst, hfp, (fun i s' st b hb => by obtain rfl := List.mem_singleton.mp hb; exact hlive i s' st), Inv, hmono, hlen, hmono _ _ _ _ (fun a o e => ⟨old2 a (Heap.lt_size e), kold hk a o e⟩) h0, ?_, ?_⟩
  · intro C c D oc j v ys s₃ m₃ E' hC hc hD2 hCc hDlt hj hPv hns hoc hdc hM hI'
    obtain ⟨oC, es, ep, hoC, r⟩ := id hns
    refine turn C c (D :: C :: c :: [I]) oc j v ys s₃ oC m₃ E' (Nat.le_trans hs2 hC) (Nat.le_trans hs2 hc) hCc hDlt ?_ hj hPv hoC (fun h e => ⟨oC, es, ep, e, r⟩) hoc hdc (mkK s₃ hM) hI'
    intro b hb
    simp only [List.mem_cons, List.not_mem_nil, or_false] at hb
    rcases hb with rfl | rfl | rfl | rfl
    · exact Nat.le_trans hs2 hD2
    · exact Nat.le_trans hs2 hC
    · exact Nat.le_trans hs2 hc
    · exact hI
  · intro D C c s' ys hD hC hc hl hi hM
    refine hfin D (D :: C :: c :: [I]) s' ys (Nat.le_trans hs2 hD) ?_ hl hi (mkK s' hM)
    intro b hb
    simp only [List.mem_cons, List.not_mem_nil, or_false] at hb
    rcases hb with rfl | rfl | rfl | rfl
    · exact Nat.le_trans hs2 hD
    · exact Nat.le_trans hs2 hC
    · exact Nat.le_trans hs2 hc
    · exact hI
end
end Mine
end
/-! part L12 -/
section
open PySem PySem.W PyProof.Rows PySem.Spec PySem.Calls
set_option maxRecDepth 100000
set_option maxHeartbeats 4000000
namespace Mine
mutual
theorem count_le : ∀ r : Row, r.count ≤ r.size
  | .tok _ _ => Nat.zero_le _
  | .tree _ ks => by have := counts_le ks; simp only [Row.count, Row.size]; omega
theorem counts_le : ∀ r : List Row, Row.counts r ≤ Row.sizes r
  | [] => Nat.le_refl _
  | r :: rs => by have := count_le r; have := counts_le rs; simp only [Row.counts, Row.sizes]; omega
end
section
variable {prog : Program} {w : World} {A : Around} {E : Value → Shared → Prop} {s : Shared} {h₀ : Heap} {L : Addr} {m : Str → Option Value} {news : List (Addr × Obj)} {env : Env}
theorem compIn_self {scope : Scope} {cl : List (Str × Addr)} {x : Str} {ifs : List Expr} {elt : Expr} {Q : Value → Shared → Prop} {l : Addr} {items : List Value}
    (hh : A.handled = none) (hl : s.heap.IsList l items.toArray ∨ IsTup s.heap l items.toArray) (hn : items.length ≤ sizeLine)
    (Inv : Nat → List Value → View → Prop) (hmono : ∀ j ys G G', vle G G' → Inv j ys G → Inv j ys G') (hlen : ∀ j ys G, Inv j ys G → ys.length ≤ j) (h0 : Inv 0 [] (hv s.heap))
    (turn : ∀ C X j v ys s₃ oC m₃ E', s.heap.objs.size ≤ C → (∀ b ∈ X, ∃ o, s₃.heap.get? b = some o) → (∀ b ∈ X, s.heap.objs.size ≤ b) → items[j]? = some v → s₃.heap.get? C = some oC → (∀ h : Heap, h.get? C = some oC → h.Ns C m₃) → m₃ x = some v → Keeps s s₃ → Inv j ys (hvx X s₃.heap) →
        wpAny (model prog w) A (forIn ifs true fun c r => if r = true then do let ok ← isTrue c (compEnvK scope cl C env) (eval c (compEnvK scope cl C env)); pure (ForInStep.yield ok) else pure (ForInStep.yield r)) (fun ok s₅ =>
          if ok = true then wpAny (model prog w) A (eval elt (compEnvK scope cl C env)) (fun y s₆ => Keeps s₃ s₆ ∧ Inv (j + 1) (ys ++ [y]) (hvx X s₆.heap)) E' s₅
          else Keeps s₃ s₅ ∧ Inv (j + 1) ys (hvx X s₅.heap)) E' s₃)
    (fin : ∀ D X s' ys, s.heap.objs.size ≤ D → (∀ b ∈ X, s.heap.objs.size ≤ b) → s'.heap.PlainList D ys.toArray → Inv items.length ys (hvx X s'.heap) → Keeps s s' → Q (.ref D) s') :
    Opq (∃ s₀, CompIn prog w A s₀ env scope cl x ifs elt Q (.ref l) s) := ⟨s, compIn_seq ⟨_, _, rfl, fun _ _ e => e⟩ (Nat.le_refl _) hh hl hn Inv hmono hlen h0 turn fin⟩
theorem sliceKp {value slice : Expr} {l : Addr} {its : Array Value} {vl vu : Value} {lo hi : Option Int} {Q : Value → Shared → Prop}
    (F : Fr h₀ L s.heap m) (N : News h₀ L s.heap news) (hl : s.heap.IsList l its) (pl : IsPart vl lo) (pu : IsPart vu hi)
    (h : ∀ D h', Fr h₀ L h' m → News h₀ L h' ((D, listOf (slicePick its lo hi none) 0) :: news) → (∀ p ∈ news, p.1 < D) → (∀ b o, s.heap.get? b = some o → h'.get? b = some o) → Q (.ref D) { s with heap := h' })
    (hs : subscripted slice false (.ref l) (.ref s.heap.objs.size) = operate [.ref s.heap.objs.size, .ref l] (getItem (.ref l) (.ref s.heap.objs.size))) (ht : ∀ r, letTemporaryGo value (.ref l) r = pure ()) (hz : its.size ≤ sizeLine) :
    wpAny (model prog w) A (subscriptTail value slice (.ref l) (.ref s.heap.objs.size)) Q E { s with heap := s.heap.push { cls := .type "slice", data := .fields #[vl, vu, .none] } } := by
  refine subscriptTail_ops (Heap.IsList.typeIs (s := { s with heap := s.heap.push { cls := .type "slice", data := .fields #[vl, vu, .none] } }) (hl.push _)) list_getitem_lookup
    (wpAny_getItem_list_slice (hl.push _) (Heap.IsSliceOf.new ..) pl pu .none (by simp) ?_ hz) hs ht
  have N1 := News.push (F.push { cls := .type "slice", data := .fields #[vl, vu, .none] }) (N.grown fun _ _ e => Heap.get?_push_of_some _ e) { cls := .type "list", data := .seq (slicePick its lo hi none) }
  rw [Heap.size_push] at N1
  show Q (.ref (s.heap.push _).objs.size) _
  rw [Heap.size_push]
  exact h _ _ ((F.push _).push _) N1 (fun p hp => Nat.lt_succ_of_lt (Heap.lt_size (N p hp).1)) fun b o e => Heap.get?_push_of_some _ (Heap.get?_push_of_some _ e)
theorem newListKp {items : List Value} {Q : Value → Shared → Prop} (F : Fr h₀ L s.heap m) (N : News h₀ L s.heap news)
    (h : ∀ D h', Fr h₀ L h' m → News h₀ L h' ((D, listOf items.toArray 0) :: news) → (∀ p ∈ news, p.1 < D) → (∀ b o, s.heap.get? b = some o → h'.get? b = some o) → Q (.ref D) { s with heap := h' }) (hz : items.length ≤ sizeLine) :
    wpAny (model prog w) A (newList items) Q E s :=
  wpAny_newList (h _ _ (F.push _) (News.push F N _) (fun p hp => Heap.lt_size (N p hp).1) fun b o e => Heap.get?_push_of_some _ e) hz
end
section
local macro_rules | `(tactic| tm_at "w call ref") => `(tactic| refine stop_here ?_)
local macro_rules | `(tactic| tm_at "my compSC") => `(tactic| (refine ⟨?_⟩; k_dflt (refine' comp1CS ?hclos ?hpc ?hcf ?hkind ?hnames ?hx ?_ ?hs; (case hclos => exact rfl); (case hpc => exact fun _ => rfl); (case hcf => exact fun _ => rfl); (case hkind => exact rfl); (case hnames => decide); (case hx => exact fun _ _ => rfl); (case hs => exact fun _ => rfl); k_whole)))
local macro_rules | `(tactic| tm_at "my compSF") => `(tactic| (refine ⟨?_⟩; k_dflt (refine' comp1S ?hclos ?hpc ?hcf ?hkind ?hnames ?hx ?_ ?hs; (case hclos => exact rfl); (case hpc => exact fun _ => rfl); (case hcf => exact fun _ => rfl); (case hkind => exact rfl); (case hnames => decide); (case hx => exact rfl); (case hs => exact fun _ => rfl); k_whole)))
local macro_rules | `(tactic| tm_at "w Opq") => `(tactic| fail "stop")
local macro_rules | `(tactic| tm_at "w subscriptTail") => `(tactic| ((with_reducible show wpAny _ _ (subscriptTail _ _ (Value.ref _) (Value.int _ _)) _ _ _); refine stop_here ?_))
local macro_rules | `(tactic| tm_at "w call builtin:len") => `(tactic| ((with_reducible show wpAny _ _ (call _ [Value.ref _]) _ _ _); k_dflt (refine' len_list ?hl ?hfit ?_; (case hl => exact News.isList (by k_asm) (by k_mem)); (case hfit => omega); k_whole)))
local macro_rules | `(tactic| tm_at "w subscriptTail Name Slice ref ref") => `(tactic| ((with_reducible show wpAny _ _ (subscriptTail _ (PySem.Expr.Slice _ _ none _) (Value.ref _) (Value.ref _)) _ _ _); k_dflt (refine' kmk_slice ?F ?N ?l ?p ?q ?_ ?s ?t ?z; (case F => k_asm); (case N => k_asm); (case l => exact News.isList (by k_asm) (by k_mem)); (case p => kmk_part); (case q => kmk_part); (case s => with_unfolding_all rfl); (case t => kmk_pure); (case z => tm_at "my size")); intro D' h' F' N' l1; (try k_lt l1); (try k_sweep)))
local macro_rules | `(tactic| tm_at "w binaryOp Add ref ref") => `(tactic| ((with_reducible show wpAny _ _ (binaryOp _ (Value.ref _) (Value.ref _)) _ _ _); k_dflt (refine' kmk_add_lit ?F ?N ?a ?b ?e ?_ ?z; (case F => k_asm); (case N => k_asm); (case a => exact News.isList (by k_asm) (by k_mem)); (case b => exact News.isList (by k_asm) (by k_mem)); (case e => exact rfl); (case z => (simp only [Array.length_toList, List.length_cons, List.length_nil]; rw [sizeLine_eq]; first | omega | (refine Nat.le_trans (Nat.add_le_add_right (slicePick_size_le _ _ _ _) _) ?_; omega)))); intro D' h' F' N' l1; (try k_lt l1); (try k_sweep)))
local macro_rules | `(tactic| tm_at "w call type:tuple") => `(tactic| ((with_reducible show wpAny _ _ (call (Value.type _) [Value.ref _]) _ _ _); k_dflt (refine' kde_tupleOf ?k1 ?k2 ?k3 ?k4 ?k5 ?_; (case k1 => k_asm); (case k2 => k_asm); (case k3 => exact News.isList (by k_asm) (by k_mem)); (case k4 => tm_at "my size"); (case k5 => exact rfl); k_whole); intro D' h' F' N' l1; (try k_lt l1); (try k_sweep)))
local macro_rules | `(tactic| tm_at "w subscriptTail") => `(tactic| ((with_reducible show wpAny _ _ (subscriptTail _ _ (Value.ref _) (Value.int _ _)) _ _ _); (try dsimp only); k_dflt (refine' menu2 ?k1 ?k2 ?k3 ?k4 ?_ ?k5 ?k6; (case k1 => k_asm); (case k2 => k_mem); (case k3 => omega); (case k4 => omega); (case k5 => with_unfolding_all rfl); (case k6 => kmk_pure); k_whole); intro tt))
local macro_rules | `(tactic| tm_at "w call builtin:min") => `(tactic| ((with_reducible show wpAny _ _ (call _ [Value.int _ _, Value.int _ _]) _ _ _); (rename Fr _ _ _ _ => kF); (rename News _ _ _ _ => kN); k_dflt (refine' min2_N ?hh kF kN ?_; (case hh => first | assumption | exact rfl); k_whole); intro h' t' k' F' N'; clear kN kF))
local macro_rules | `(tactic| tm_at "w subscriptTail List") => `(tactic| k_dflt (refine kba_turn (value' := PySem.Expr.Name (PySem.Str.ofString "_") ⟨0, 0, 0, 0⟩) (fun _ => rfl) ?_))
local macro_rules | `(tactic| tm_at "w newList") => `(tactic| (k_dflt (refine' newListKp ?k1 ?k2 ?_ ?k3; (case k1 => k_asm); (case k2 => k_asm); (case k3 => exact Nat.zero_le _); k_whole); intro l' h' F' N' l1 nlK; (try k_lt l1); (try k_sweep)))
local macro_rules | `(tactic| tm_at "w subscriptTail Name Slice ref ref") => `(tactic| ((with_reducible show wpAny _ _ (subscriptTail _ (PySem.Expr.Slice _ _ none _) (Value.ref _) (Value.ref _)) _ _ _); k_dflt (refine' sliceKp ?F ?N ?l ?p ?q ?_ ?s ?t ?z; (case F => k_asm); (case N => k_asm); (case l => exact News.isList (by k_asm) (by k_mem)); (case p => kmk_part); (case q => kmk_part); (case s => with_unfolding_all rfl); (case t => kmk_pure); (case z => tm_at "my size")); intro D' h' F' N' l1 slK; (try k_lt l1); (try k_sweep)))
local macro_rules | `(tactic| tm_at "w subscriptTail Name Name ref int") => `(tactic| ((with_reducible show wpAny _ _ (subscriptTail _ _ (Value.ref _) (Value.int _ _)) _ _ _); refine stop_here ?_))
variable {w : World} {p : Program} {loose : List Str} {mean : ExcName → Option Value} {mg mb : Str → Option Value} {A : Around} {hG : Heap} {L : Nat} {m : Str → Option Value} {s : Shared} {E : Value → Shared → Prop} {Q : Flow → Shared → Prop}
theorem st12 (G : LG w p loose mean mg mb A hG) {vT vN : Option Value} {td nd : Nat} {R : List N} {xs ys : List Int} {t1 t2 : N} {ra sa : Addr} (hrow : m "row" = some (.ref ra)) (hsec : m "second" = some (.ref sa))
    (P : Pu xs ys t1 t2) (x : Fx (gv hG L s.heap) t1 t2 ra sa) (gt : gv hG L s.heap td (listOf (R.map N.val).toArray nd)) (hnd : (R.map N.addr).Nodup) (hRv : ∀ n ∈ R, TV (gv hG L s.heap) n) (hlen : (R.length : Int) = 2 + t1.row.count + t2.row.count)
    (S : LSt hG L m vT vN (some (.ref td)) none none #[] s.heap) : ∀ oc od fd osl, (hd.heap_39 w.params).lookup 197 = some ⟨oc, od, .func fd, osl⟩ → ∀ rest,
    (∀ h' tk', LSt hG L m vT vN (some (.ref td)) none none #[] h' → vle (gv hG L s.heap) (gv hG L h') →
      wpAny (model PySem.Challenge.rw_fi0013_01.row.prog w) (A.deeper (lawEnv fd L)) (execs rest (lawEnv fd L)) Q E { s with heap := h', toks := tk' }) →
    wpAny (model PySem.Challenge.rw_fi0013_01.row.prog w) (A.deeper (lawEnv fd L)) (execs (stmtAt fd 12 :: rest) (lawEnv fd L)) Q E s := by
  have G0 := G
  obtain ⟨hd0, dep, frs, gds, un⟩ := A
  obtain ⟨X, T, B, hh, hdp, hun, C⟩ := G
  obtain rfl : frs = some [] := B.stack
  obtain rfl : hd0 = none := hh
  dsimp only at hdp hun
  revert X; k_fill; intro X
  (with_unfolding_all k_dflt refine' (fn_case ?e ?h))
  case e => k_is
  case h =>
  intro rest K
  conv => arg 3; arg 1; arg 1; whnf
  dsimp only [lawEnv] at K ⊢
  obtain ⟨o5, o4, o3, o2, o1, Z, d1, d2, d3, d4, d5, Nw, hZ⟩ := S.news
  have h194 := S.lt194
  have F := S.F
  rw [upd_self hrow, upd_self hsec] at F
  obtain ⟨itR, hitR⟩ : ∃ a : Array Value, a = (R.map N.val).toArray := ⟨_, rfl⟩
  rw [← hitR] at gt
  have hRz : itR.size = R.length := by rw [hitR]; simp
  have ps1 := P.s1
  have ps2 := P.s2
  have ph1 := P.h1
  have ph2 := P.h2
  have hRl : R.length ≤ 100 := by
    have := count_le t1.row
    have := count_le t2.row
    omega
  have N₀ := News.expose gt Nw
  (try k_fold)
  k_steps
  refine ⟨wpAny_mono (count_spec 14 t1.row (by omega) _ hG _ _ _ _ (G0.amb F rfl rfl) (x.rr.mono gv_hv) (by omega) (by show dep + 1 + _ < _; omega) (by show un + 3 + _ < _; omega)) (fun y s₁ h₁ => ?_) fun _ _ e => e⟩
  obtain ⟨⟨h1, tk1, rfl, hk1⟩, u1, rfl⟩ := h₁
  have F1 := F.keeps hk1
  have N1 := N₀.grown hk1
  k_steps
  refine ⟨wpAny_mono (count_spec 14 t2.row (by omega) _ hG _ _ _ _ (G0.amb F1 rfl rfl) ((x.rs.mono (gv_keeps hk1)).mono gv_hv) (by omega) (by show dep + 1 + _ < _; omega) (by show un + 3 + _ < _; omega)) (fun y s₁ h₁ => ?_) fun _ _ e => e⟩
  obtain ⟨⟨h2, tk2, rfl, hk2⟩, u2, rfl⟩ := h₁
  dsimp only at hk2
  have F2 := F1.keeps hk2
  have N2 := N1.grown hk2
  clear N1 F1
  k_steps
  · exfalso
    rename ¬ ((itR.size : Int) = _) => hne
    exact hne (by rw [hRz]; exact hlen)
  tm_at "my compSC"
  k_steps
  rename IsRange _ _ _ _ _ _ _ _ => hR
  rename ∀ b o, _ = some o → _ => hk3
  dsimp only at hk1 hk2 hk3
  have hobs : ∀ n ∈ R, ∃ o, s.heap.get? n.addr = some o ∧ o.cls ≠ .type "tuple" := fun n hn => ((hRv n hn).mono gv_hv).obj
  rename Fr hG _ _ _ => F3
  rename News hG _ _ _ => N3
  rename_i h3 tk3 _ _ _ _
  refine ⟨_, ⟨keeps_refl _, Nat.le_refl _, itR.size, _, src_range rfl hR (by omega), by rw [sizeLine_eq]; omega, fun (j : Nat) (ys : List Value) (_ : View) => ys = [], fun _ _ _ _ _ h => h, fun _ _ _ h => by subst h; exact Nat.zero_le _, rfl, ?_, ?_⟩⟩
  · intro C c Z2 oc j v ys s₃ oC m₃ E' hC hc hCc hZ1 hZ2 hjn hj hoC hns hoc hdc hk₃ hI
    obtain ⟨tv, rfl⟩ := hj
    have F₃ := F3.keeps (kold hk₃)
    have N₃ := news_add' F3 (news_add' F3 (N3.grown (kold hk₃)) hoC hC) hoc hc
    clear F3 N3
    refine wpAny_tests_one ?_
    k_steps
    tm_at "my compSF"
    k_steps
    rename Fr hG _ _ _ => F4
    rename News hG _ _ _ => N4
    rename (c < _ ∧ _) => l4
    have e0 : slicePick itR none (some (0 + (j : Int) * 1)) none = (itR.toList.take j).toArray := by
      rw [show (0 + (j : Int) * 1) = (j : Int) by omega]
      exact slicePick_upto itR j (Nat.le_of_lt hjn)
    rw [e0] at N4
    obtain ⟨nj, hnj⟩ : ∃ nj, R[j]? = some nj := ⟨R[j]'(by omega), by simp⟩
    have hitj : itR[((0 + (j : Int) * 1)).toNat]? = some nj.val := by
      rw [show ((0 + (j : Int) * 1)).toNat = j by omega, hitR]; simp [hnj]
    rename ∀ b o, s₃.heap.get? b = some o → _ => h34
    refine compIn_self (items := itR.toList.take j) rfl (.inl (N4.isList (.head _))) (by rw [sizeLine_eq, List.length_take, Array.length_toList]; omega) (fun (j : Nat) (ys : List Value) (_ : View) => ys = []) (fun _ _ _ _ _ h => h) (fun _ _ _ h => by subst h; exact Nat.zero_le _) rfl ?_ ?_
    · intro C2 Z4 j2 v2 ys2 s₄ oC2 m₄ E2 hC2 hZ3 hZ4 hj2 hoC2 hns2 hm3 hk₄ hI2
      have F₉ := F4.keeps (kold hk₄)
      have N₉ := news_add' F4 (N4.grown (kold hk₄)) hoC2 hC2
      rw [hitR] at hj2
      have hj2l : j2 < j := by
        have := (List.getElem?_eq_some_iff.mp hj2).1
        rw [List.length_take] at this; omega
      rw [List.getElem?_take_of_lt hj2l] at hj2
      obtain ⟨d, hdj, rfl⟩ := vals_get (by simpa using hj2)
      refine wpAny_tests_one ?_
      have hm4 : m₄ "one" = some (.ref d.addr) := hm3
      clear hm3
      have hlist := N₉.isList (a := td) (items := itR) (by k_mem)
      k_steps
      refine ⟨kba_turn (value' := .Name "_" ⟨0, 0, 0, 0⟩) (fun _ => rfl) (item_list hlist (by omega) (by omega) hitj ?_ (by with_unfolding_all rfl) (fun _ => rfl))⟩
      obtain ⟨od, hod1, hod2⟩ := hobs d (List.mem_of_getElem? hdj)
      obtain ⟨oq, hoq1, hoq2⟩ := hobs nj (List.mem_of_getElem? hnj)
      have up : ∀ b o, s.heap.get? b = some o → s₄.heap.get? b = some o := fun b o e => kold hk₄ _ _ (h34 _ _ (kold hk₃ _ _ (hk3 _ _ (hk2 _ _ (hk1 _ _ e)))))
      refine is_refs (up _ _ hod1) (up _ _ hoq1) hod2 ?_
      have hdn : (d.addr == nj.addr) = false := by
        rw [beq_eq_false_iff_ne]
        intro q
        have h1 : (R.map N.addr)[j2]? = some d.addr := by rw [List.getElem?_map, hdj]; rfl
        have h2 : (R.map N.addr)[j]? = some nj.addr := by rw [List.getElem?_map, hnj]; rfl
        rw [q, ← h2] at h1
        have := (List.getElem?_inj (by rw [List.length_map]; omega) hnd).mp h1
        omega
      rw [hdn]
      k_steps
    · intro D9 Z9 s' ys9 hD9 hZ9 ⟨e9, hl9⟩ hI9 hk9
      obtain ⟨h9, tk9, rfl, hk9'⟩ := hk9
      obtain ⟨F₉, N₉, l9⟩ := comp_finS F4 N4 hk9' hl9 hD9
      subst hI9
      (try dsimp only at N₉ F₉ ⊢)
      k_steps
      rename ∀ b o, Heap.get? h9 b = some o → _ => hk10
      exact ⟨_, _, rfl, fun b o e => hk10 b o (hk9' b o (h34 b o e))⟩
  · intro D9 Z9 s' ys9 hD9 hZ9 ⟨e9, hl9⟩ hI9 hk9
    obtain ⟨h9, tk9, rfl, hk9'⟩ := hk9
    obtain ⟨F₉, N₉, l9⟩ := comp_finS F3 N3 hk9' hl9 hD9
    k_lt l9
    subst hI9
    (try dsimp only at N₉ F₉ hk9' ⊢)
    k_steps
    show wpAny _ _ (execs rest _) _ _ _
    rename Fr hG _ _ _ => F6
    rename News hG _ _ _ => N6
    have S6 := LSt.of_news F6 N6 (by k_mem) (by k_mem) (by k_mem) (by k_mem) (by k_mem) (by k_mem) d1 d2 d3 d4 d5 h194
    have v06 := gv_step N6 (fun a o g => by have := (hZ a o).mp g; simp only [List.mem_cons, this, or_true])
    have em : (fun y : Str => if y = ("row" : Str) then some (Value.ref ra) else if y = ("second" : Str) then some (Value.ref sa) else m y) = m := by
      funext y
      split
      · subst y; exact hrow.symm
      · split
        · subst y; exact hsec.symm
        · rfl
    rw [em] at S6
    exact K _ _ S6 v06
end
end Mine
end
/-! part R1 -/
section
open PySem PySem.W PyProof.Rows PySem.Spec PySem.Calls
set_option maxRecDepth 100000
set_option maxHeartbeats 1000000
namespace Mine
open PySem.SeqAt
/-! ## tuples, put in order -/
def LtAt (A : Around) (s : Shared) (x y : Value) (b : Bool) : Prop :=
  ∀ (prog : Program) (w : World) (E : Value → Shared → Prop) (Q : Value → Shared → Prop), Q (.bool b) s → wpAny (model prog w) A (richCompare .Lt x y) Q E s
inductive LexAt (A : Around) (s : Shared) (fin : Bool) : List (Value × Value) → Bool → Prop where
  | nil : LexAt A s fin [] fin
  | eq {x y rest r} : EqAt A s x y true → LexAt A s fin rest r → LexAt A s fin ((x, y) :: rest) r
  | ne {x y rest r} : EqAt A s x y false → LtAt A s x y r → LexAt A s fin ((x, y) :: rest) r
theorem tuple_ltAt (l b : Addr) (items items2 : Array Value) (n n2 : Nat) (dd dd2 : Option Addr) (sl sl2 : Array (Option Value)) (r : Bool) :
    Meets (Builtin.«tuple.__lt__» ⟨[.ref l, .ref b], []⟩)
      (fun A R s => s.heap.get? l = some { cls := .type "tuple", dict := dd, data := .seq items n, slots := sl } ∧ s.heap.get? b = some { cls := .type "tuple", dict := dd2, data := .seq items2 n2, slots := sl2 } ∧
        LexAt A.in1 s (decide (items.size < items2.size)) (items.toList.zip items2.toList) r ∧ R (.ok (.ret (.bool r))) s) :=
  .of_wp fun prog w A R s h => by
    obtain ⟨hp, g, d, tk, os⟩ := s; obtain ⟨hl, hb, he, h⟩ := h
    have f2 := AutoSeq1.sub_tuple_tuple
    wp_walk using wpAny_loadPart' hl, wpAny_loadPart' hb, wpAny_forIn_list _ (fun rest b s' => b.1 = none ∧ s' = ⟨hp, g, d, tk, os⟩ ∧ LexAt A.in1 s' (decide (items.size < items2.size)) rest r) _
    case turn =>
      rintro ⟨y, x⟩ rest b s' ⟨hb', rfl, hL⟩
      cases hL with
      | eq h1 h2 =>
        refine wpAny_bind (h1 prog w _ _ ?_)
        wp_walk
        exact ⟨rfl, rfl, h2⟩
      | ne h1 h2 =>
        refine wpAny_bind (h1 prog w _ _ ?_)
        simp only [Bool.not_false, if_true]
        refine wpAny_bind (wpAny_rule ?_)
        refine wpAny_bind (h2 prog w _ _ ?_)
        wp_walk
        exact ⟨_, rfl, h⟩
    case fin =>
      rintro ⟨b1, b2⟩ s' ⟨hb', rfl, hL⟩
      simp only at hb'
      subst hb'
      cases hL
      wp_walk
      exact ⟨_, rfl, by simpa [Builtin.Tuple.tupleCompareSizes] using h⟩
    case h => exact ⟨rfl, rfl, he⟩
theorem LexAt.tuples {A : Around} {s : Shared} {l b : Addr} {items items2 : Array Value} {r : Bool} (hl : s.heap.IsTuple l items) (hb : s.heap.IsTuple b items2) (hu : A.units < cLine)
    (he : LexAt A.in1 s (decide (items.size < items2.size)) (items.toList.zip items2.toList) r) : LtAt A s (.ref l) (.ref b) r := fun prog w E Q h => by
  obtain ⟨⟨cls, dd, data, sl⟩, ho, hc, n, hd⟩ := id hl
  obtain ⟨⟨cls2, dd2, data2, sl2⟩, ho2, hc2, n2, hd2⟩ := id hb
  simp only at hc hd hc2 hd2
  subst hc hd hc2 hd2
  exact richCompare_meets_room (op := .Lt) ⟨_, ho, rfl⟩ ⟨_, ho2, rfl⟩ F.slot_tuple_lt F.entry_tuple_lt (F.args_tuple_lt_2 _ _) (tuple_ltAt l b items items2 n n2 dd dd2 sl sl2 r)
    ⟨ho, ho2, he, show Value.bool r ≠ Value.notImplemented ∧ Q (.bool r) s from ⟨(fun x => nomatch x), h⟩⟩ hu
end Mine
end
/-! part R2 -/
section
open PySem PySem.W PyProof.Rows PySem.Spec PySem.Calls
set_option maxRecDepth 100000
set_option maxHeartbeats 1000000
namespace Mine
open PySem.SeqAt
/-! ## rows, put in order -/
def sLt (a b : Str) : Bool := decide (a.cps.toList < b.cps.toList)
theorem sLt_irrefl (a : Str) : sLt a a = false := decide_eq_false (List.lt_irrefl _)
theorem sLt_trans {a b c : Str} (h : sLt a b = true) (h' : sLt b c = true) : sLt a c = true := decide_eq_true (List.lt_trans (of_decide_eq_true h) (of_decide_eq_true h'))
theorem sLt_tri {a b : Str} (h : sLt a b = false) (h' : sLt b a = false) : a = b := by
  have h1 := of_decide_eq_false h
  have h2 := of_decide_eq_false h'
  have : a.cps.toList = b.cps.toList := List.le_antisymm (List.not_lt.mp h2) (List.not_lt.mp h1)
  cases a; cases b
  simp only at this
  rw [Array.toList_inj.mp this]
mutual
def rowLt : Row → Row → Bool
  | .tok t v, .tok t' v' => if t = t' then decide (v < v') else sLt t t'
  | .tok _ _, .tree _ _ => true
  | .tree _ _, .tok _ _ => false
  | .tree n ks, .tree n' ks' => if n = n' then rowsLt ks ks' else sLt n n'
def rowsLt : List Row → List Row → Bool
  | [], [] => false
  | [], _ :: _ => true
  | _ :: _, [] => false
  | r :: rs, q :: qs => if rowEq r q = true then rowsLt rs qs else rowLt r q
end
theorem rowEq_refl (a : Row) : rowEq a a = true := (rowEq_iff a a).mpr rfl
mutual
theorem rowLt_irrefl : ∀ a : Row, rowLt a a = false
  | .tok t v => by simp [rowLt]
  | .tree n ks => by simp [rowLt, rowsLt_irrefl ks]
theorem rowsLt_irrefl : ∀ a : List Row, rowsLt a a = false
  | [] => by simp [rowsLt]
  | r :: rs => by simp [rowsLt, rowEq_refl, rowsLt_irrefl rs]
end
mutual
theorem rowLt_trans : ∀ a b c : Row, rowLt a b = true → rowLt b c = true → rowLt a c = true
  | .tok t v, .tok t' v', .tok t'' v'', h, h' => by
    simp only [rowLt] at h h' ⊢
    split at h <;> rename_i e1 <;> split at h' <;> rename_i e2
    · subst e1 e2; rw [if_pos rfl]; exact decide_eq_true (Int.lt_trans (of_decide_eq_true h) (of_decide_eq_true h'))
    · subst e1; rw [if_neg e2]; exact h'
    · subst e2; rw [if_neg e1]; exact h
    · have := sLt_trans h h'
      split
      · rename_i e; subst e; rw [sLt_irrefl] at this; cases this
      · exact this
  | .tok _ _, .tok _ _, .tree _ _, _, _ => by simp [rowLt]
  | .tok _ _, .tree _ _, .tok _ _, _, h' => by simp [rowLt] at h'
  | .tok _ _, .tree _ _, .tree _ _, _, _ => by simp [rowLt]
  | .tree _ _, .tok _ _, _, h, _ => by simp [rowLt] at h
  | .tree _ _, .tree _ _, .tok _ _, _, h' => by simp [rowLt] at h'
  | .tree t v, .tree t' v', .tree t'' v'', h, h' => by
    simp only [rowLt] at h h' ⊢
    split at h <;> rename_i e1 <;> split at h' <;> rename_i e2
    · subst e1 e2; rw [if_pos rfl]; exact rowsLt_trans v v' v'' h h'
    · subst e1; rw [if_neg e2]; exact h'
    · subst e2; rw [if_neg e1]; exact h
    · have := sLt_trans h h'
      split
      · rename_i e; subst e; rw [sLt_irrefl] at this; cases this
      · exact this
theorem rowsLt_trans : ∀ a b c : List Row, rowsLt a b = true → rowsLt b c = true → rowsLt a c = true
  | [], [], _, h, _ => by simp [rowsLt] at h
  | [], _ :: _, [], _, h' => by simp [rowsLt] at h'
  | [], _ :: _, _ :: _, _, _ => by simp [rowsLt]
  | _ :: _, [], _, h, _ => by simp [rowsLt] at h
  | _ :: _, _ :: _, [], _, h' => by simp [rowsLt] at h'
  | r :: rs, q :: qs, p :: ps, h, h' => by
    simp only [rowsLt] at h h' ⊢
    split at h <;> rename_i e1 <;> split at h' <;> rename_i e2
    · obtain rfl := (rowEq_iff _ _).mp e1
      obtain rfl := (rowEq_iff _ _).mp e2
      rw [if_pos (rowEq_refl _)]; exact rowsLt_trans rs qs ps h h'
    · obtain rfl := (rowEq_iff _ _).mp e1
      rw [if_neg e2]; exact h'
    · obtain rfl := (rowEq_iff _ _).mp e2
      rw [if_neg e1]; exact h
    · have := rowLt_trans r q p h h'
      split
      · rename_i e; obtain rfl := (rowEq_iff _ _).mp e; rw [rowLt_irrefl] at this; cases this
      · exact this
end
mutual
theorem rowLt_tri : ∀ a b : Row, rowLt a b = false → rowLt b a = false → a = b
  | .tok t v, .tok t' v', h, h' => by
    simp only [rowLt] at h h'
    by_cases e : t = t'
    · subst e
      rw [if_pos rfl] at h h'
      have h1 := of_decide_eq_false h
      have h2 := of_decide_eq_false h'
      rw [show v = v' by omega]
    · rw [if_neg e] at h
      rw [if_neg (Ne.symm e)] at h'
      exact absurd (sLt_tri h h') e
  | .tok _ _, .tree _ _, h, _ => by simp [rowLt] at h
  | .tree _ _, .tok _ _, _, h => by simp [rowLt] at h
  | .tree t v, .tree t' v', h, h' => by
    simp only [rowLt] at h h'
    by_cases e : t = t'
    · subst e
      rw [if_pos rfl] at h h'
      rw [rowsLt_tri v v' h h']
    · rw [if_neg e] at h
      rw [if_neg (Ne.symm e)] at h'
      exact absurd (sLt_tri h h') e
theorem rowsLt_tri : ∀ a b : List Row, rowsLt a b = false → rowsLt b a = false → a = b
  | [], [], _, _ => rfl
  | [], _ :: _, h, _ => by simp [rowsLt] at h
  | _ :: _, [], _, h => by simp [rowsLt] at h
  | r :: rs, q :: qs, h, h' => by
    simp only [rowsLt] at h h'
    by_cases e : r = q
    · subst e
      rw [if_pos (rowEq_refl _)] at h h'
      rw [rowsLt_tri rs qs h h']
    · rw [if_neg (fun x => e ((rowEq_iff _ _).mp x))] at h
      rw [if_neg (fun x => e ((rowEq_iff _ _).mp x).symm)] at h'
      exact absurd (rowLt_tri r q h h') e
end
theorem rowLt_asymm {a b : Row} (h : rowLt a b = true) : rowLt b a = false := by
  cases q : rowLt b a with
  | false => rfl
  | true => have := rowLt_trans a b a h q; rw [rowLt_irrefl] at this; cases this
theorem rowLe_trans {a b c : Row} (h : rowLt b a = false) (h' : rowLt c b = false) : rowLt c a = false := by
  cases q : rowLt c a with
  | false => rfl
  | true =>
    cases e : rowLt a b with
    | true => have := rowLt_trans c a b q e; rw [h'] at this; cases this
    | false => obtain rfl := rowLt_tri a b e h; rw [h'] at q; cases q
theorem ltAt_str {A : Around} {s : Shared} (x y : Str) (t u : Tok) : LtAt A s (.str x t) (.str y u) (sLt x y) := fun _ _ _ _ h => lt_str h
theorem ltAt_int {A : Around} {s : Shared} (x y : Int) (t u : Tok) : LtAt A s (.int x t) (.int y u) (decide (x < y)) := fun _ _ _ _ h => lt_int h
theorem eqAt_str {A : Around} {s : Shared} (x y : Str) (t u : Tok) : EqAt A s (.str x t) (.str y u) (x == y) := EqAt.str_str x t y u
theorem eqAt_int {A : Around} {s : Shared} (x y : Int) (t u : Tok) : EqAt A s (.int x t) (.int y u) (x == y) := EqAt.int_int x t y u
theorem eqAt_strS {A : Around} {s : Shared} (x : Str) (t u : Tok) : EqAt A s (.str x t) (.str x u) true := by
  have := eqAt_str (A := A) (s := s) x x t u
  rwa [beq_self_eq_true] at this
theorem eqAt_strN {A : Around} {s : Shared} {x y : Str} (h : x ≠ y) (t u : Tok) : EqAt A s (.str x t) (.str y u) false := by
  have := eqAt_str (A := A) (s := s) x y t u
  rwa [beq_eq_false_iff_ne.mpr h] at this
theorem eqAt_intS {A : Around} {s : Shared} (x : Int) (t u : Tok) : EqAt A s (.int x t) (.int x u) true := by
  have := eqAt_int (A := A) (s := s) x x t u
  rwa [beq_self_eq_true] at this
theorem eqAt_intN {A : Around} {s : Shared} {x y : Int} (h : x ≠ y) (t u : Tok) : EqAt A s (.int x t) (.int y u) false := by
  have := eqAt_int (A := A) (s := s) x y t u
  rwa [beq_eq_false_iff_ne.mpr h] at this
theorem LexAt.eq' {A : Around} {s : Shared} {fin : Bool} {x y : Value} {rest r} (e : EqAt A s x y true) (h : LexAt A s fin rest r) : LexAt A s fin ((x, y) :: rest) r := .eq e h
theorem eqAt_row {A : Around} {s : Shared} {v v' : Value} {r r' : Row} (h : RV (hv s.heap) v r) (h' : RV (hv s.heap) v' r') (k : r.ok = true) (k' : r'.ok = true) (hu : A.units + 2 * r.hgt + 1 < cLine) : EqAt A s v v' (rowEq r r') := by
  have := eqAt_reads _ _ A s _ _ _ _ h.reads h'.reads (row_lay _ k) (row_lay _ k') (by have := row_depth r; omega)
  rwa [row_eqv] at this
theorem eqAt_kids {A : Around} {s : Shared} {a b : Addr} {vs vs' : List Value} {ks ks' : List Row} (ha : TupV (hv s.heap) a vs.toArray) (hb : TupV (hv s.heap) b vs'.toArray) (h : RVs (hv s.heap) vs ks) (h' : RVs (hv s.heap) vs' ks') (k : Row.oks ks = true) (k' : Row.oks ks' = true)
    (hu : A.units + 2 * Row.hgts ks + 2 < cLine) : EqAt A s (.ref a) (.ref b) (rowsEq ks ks') := by
  obtain ⟨o, g, c, n, e⟩ := ha
  obtain ⟨o', g', c', n', e'⟩ := hb
  have := eqAt_reads _ _ A s _ _ _ _ (Reads.tuple g c e (by simpa using h.reads)) (Reads.tuple g' c' e' (by simpa using h'.reads)) (by simpa [PyData.canLay0] using rows_lay _ k) (by simpa [PyData.canLay0] using rows_lay _ k') (by have := rows_depth ks; simp only [PyData.depth]; omega)
  rwa [show PyData.eqv (.tuple (Row.ds ks)) (.tuple (Row.ds ks')) = PyData.eqvAll (Row.ds ks) (Row.ds ks') by simp [PyData.eqv], rows_eqv] at this
mutual
theorem lexAt_row : ∀ (r r' : Row) (A : Around) (s : Shared) (a b : Addr), RV (hv s.heap) (.ref a) r → RV (hv s.heap) (.ref b) r' → r.ok = true → r'.ok = true → A.units + 4 * r.hgt + 2 < cLine →
    ∃ items items2, s.heap.IsTuple a items ∧ s.heap.IsTuple b items2 ∧ items[0]? = some items[0]! ∧ LexAt A s (decide (items.size < items2.size)) (items.toList.zip items2.toList) (rowLt r r')
  | .tok t v, .tok t' v', A, s, _, _, .tok ⟨o, g, c, n, e⟩, .tok ⟨o', g', c', n', e'⟩, _, _, _ => by
    refine ⟨_, _, ⟨o, g, c, n, e⟩, ⟨o', g', c', n', e'⟩, rfl, .eq' (eqAt_strS _ _ _) ?_⟩
    simp only [rowLt]
    by_cases q : t = t'
    · subst q
      rw [if_pos rfl]
      refine .eq' (eqAt_strS t _ _) ?_
      by_cases q2 : v = v'
      · subst q2
        refine .eq' (eqAt_intS v _ _) ?_
        rw [decide_eq_false (Int.lt_irrefl _)]
        exact .nil
      · exact .ne (eqAt_intN q2 _ _) (ltAt_int _ _ _ _)
    · rw [if_neg q]
      exact .ne (eqAt_strN q _ _) (ltAt_str _ _ _ _)
  | .tok t v, .tree t' ks, A, s, _, _, .tok ⟨o, g, c, n, e⟩, .tree ⟨o', g', c', n', e'⟩ _ _, _, _, _ => by
    refine ⟨_, _, ⟨o, g, c, n, e⟩, ⟨o', g', c', n', e'⟩, rfl, .ne (eqAt_str _ _ _ _) ?_⟩
    simp only [rowLt]
    exact ltAt_str ("token" : Str) ("tree" : Str) _ _
  | .tree t ks, .tok t' v, A, s, _, _, .tree ⟨o, g, c, n, e⟩ _ _, .tok ⟨o', g', c', n', e'⟩, _, _, _ => by
    refine ⟨_, _, ⟨o, g, c, n, e⟩, ⟨o', g', c', n', e'⟩, rfl, .ne (eqAt_str _ _ _ _) ?_⟩
    simp only [rowLt]
    exact ltAt_str ("tree" : Str) ("token" : Str) _ _
  | .tree t ks, .tree t' ks', A, s, _, _, .tree ⟨o, g, c, n, e⟩ hk hks, .tree ⟨o', g', c', n', e'⟩ hk' hks', k, k', hu => by
    simp only [Row.ok, Bool.and_eq_true] at k k'
    simp only [Row.hgt] at hu
    refine ⟨_, _, ⟨o, g, c, n, e⟩, ⟨o', g', c', n', e'⟩, rfl, .eq' (eqAt_strS _ _ _) ?_⟩
    simp only [rowLt]
    by_cases q : t = t'
    · subst q
      rw [if_pos rfl]
      refine .eq' (eqAt_strS t _ _) ?_
      have eq3 := eqAt_kids (A := A) hk hk' hks hks' k.2 k'.2 (by omega)
      by_cases q2 : rowsEq ks ks' = true
      · rw [q2] at eq3
        refine .eq' eq3 ?_
        obtain rfl := (rowsEq_iff _ _).mp q2
        rw [rowsLt_irrefl]
        exact .nil
      · rw [Bool.not_eq_true] at q2
        rw [q2] at eq3
        refine .ne eq3 ?_
        obtain ⟨o1, g1, c1, n1, e1⟩ := hk
        obtain ⟨o2, g2, c2, n2, e2⟩ := hk'
        refine LexAt.tuples ⟨o1, g1, c1, n1, e1⟩ ⟨o2, g2, c2, n2, e2⟩ (by omega) ?_
        refine lexAt_rows ks ks' A.in1 s _ _ _ hks hks' k.2 k'.2 (by rw [units_in1]; omega) ?_
        simp only [List.size_toArray, hks.length, hks'.length]
    · rw [if_neg q]
      exact .ne (eqAt_strN q _ _) (ltAt_str _ _ _ _)
theorem lexAt_rows : ∀ (rs rs' : List Row) (A : Around) (s : Shared) (vs vs' : List Value) (fin : Bool), RVs (hv s.heap) vs rs → RVs (hv s.heap) vs' rs' → Row.oks rs = true → Row.oks rs' = true → A.units + 4 * Row.hgts rs + 4 < cLine →
    fin = decide (rs.length < rs'.length) → LexAt A s fin (vs.zip vs') (rowsLt rs rs')
  | [], [], A, s, _, _, _, .nil, .nil, _, _, _, hf => by subst hf; exact .nil
  | [], _ :: _, A, s, _, _, _, .nil, .cons _ _, _, _, _, hf => by subst hf; simp only [rowsLt]; exact .nil
  | _ :: _, [], A, s, _, _, _, .cons _ _, .nil, _, _, _, hf => by subst hf; simp only [rowsLt]; exact .nil
  | r :: rs, q :: qs, A, s, _, _, fin, .cons h hs, .cons h' hs', k, k', hu, hf => by
    simp only [Row.oks, Bool.and_eq_true] at k k'
    simp only [Row.hgts] at hu
    have e1 := eqAt_row (A := A) h h' k.1 k'.1 (by omega)
    simp only [rowsLt]
    by_cases q2 : rowEq r q = true
    · rw [if_pos q2]
      rw [q2] at e1
      refine .eq' e1 (lexAt_rows rs qs A s _ _ fin hs hs' k.2 k'.2 (by omega) (by subst hf; simp))
    · rw [if_neg q2]
      rw [Bool.not_eq_true] at q2
      rw [q2] at e1
      obtain ⟨a, rfl⟩ := h.ref
      obtain ⟨b, rfl⟩ := h'.ref
      obtain ⟨i1, i2, t1, t2, _, hl⟩ := lexAt_row r q A.in1 s a b h h' k.1 k'.1 (by rw [units_in1]; omega)
      exact .ne e1 (LexAt.tuples t1 t2 (by omega) hl)
end
end Mine
end
/-! part R3 -/
section
open PySem PySem.W PyProof.Rows PySem.Spec PySem.Calls
set_option maxRecDepth 100000
set_option maxHeartbeats 1000000
namespace Mine
/-! ## the sorting tree puts in order -/
def KOk {α : Type} (lt : Nat → Nat → Bool) (N : Nat) : KasT α → (α → Prop) → Prop
  | .ret a, G => G a
  | .ask i j k, G => i < N ∧ j < N ∧ KOk lt N (k (lt i j)) G
theorem KOk.bind {α β : Type} {lt : Nat → Nat → Bool} {N : Nat} {f : α → KasT β} {G : β → Prop} : ∀ {t : KasT α}, KOk lt N t (fun a => KOk lt N (f a) G) → KOk lt N (t.bind f) G
  | .ret _, h => h
  | .ask _ _ _, ⟨h1, h2, h3⟩ => ⟨h1, h2, KOk.bind h3⟩
theorem KOk.ask {α : Type} {lt : Nat → Nat → Bool} {N i j : Nat} {k : Bool → KasT α} {G : α → Prop} (hi : i < N) (hj : j < N) (h1 : lt i j = true → KOk lt N (k true) G) (h2 : lt i j = false → KOk lt N (k false) G) : KOk lt N (.ask i j k) G := by
  refine ⟨hi, hj, ?_⟩
  cases q : lt i j with
  | true => exact h1 q
  | false => exact h2 q
theorem KOk.wp {α : Type} {lt : Nat → Nat → Bool} {N : Nat} {cmp : Nat → Nat → (Bool → Shared → Prop) → Shared → Prop} {s : Shared} {G : α → Prop} {Q : α → Shared → Prop} (hc : ∀ i j C, i < N → j < N → C (lt i j) s → cmp i j C s) (hq : ∀ a, G a → Q a s) : ∀ {t : KasT α}, KOk lt N t G → t.kasWp cmp Q s
  | .ret a, h => hq a h
  | .ask i j _, ⟨h1, h2, h3⟩ => hc i j _ h1 h2 (KOk.wp hc hq h3)
structure LtOrd (lt : Nat → Nat → Bool) : Prop where
  tr : ∀ {a b c}, lt b a = false → lt c b = false → lt c a = false
  asy : ∀ {a b}, lt a b = true → lt b a = false
section
variable {lt : Nat → Nat → Bool} {N : Nat} {p : Array Nat}
theorem LtOrd.rf (O : LtOrd lt) (a : Nat) : lt a a = false := by
  cases q : lt a a with
  | false => rfl
  | true => have := O.asy q; rw [q] at this; cases this
def Srt (lt : Nat → Nat → Bool) (p : Array Nat) (k : Nat) : Prop := ∀ i j, i ≤ j → j < k → lt (p.getD j 0) (p.getD i 0) = false
def Dsc (lt : Nat → Nat → Bool) (p : Array Nat) (k : Nat) : Prop := ∀ i j, i ≤ j → j < k → lt (p.getD i 0) (p.getD j 0) = false
def Blk (lt : Nat → Nat → Bool) (p : Array Nat) (i j : Nat) : Prop := ∀ a b, i ≤ a → a < j → i ≤ b → b < j → lt (p.getD a 0) (p.getD b 0) = false
structure PR (p : Array Nat) (N : Nat) : Prop where
  perm : p.toList.Perm (List.range N)
  pos : 0 < N
theorem PR.size (h : PR p N) : p.size = N := by have := h.perm.length_eq; simpa using this
theorem PR.bd (h : PR p N) (i : Nat) : p.getD i 0 < N := by
  have hs := h.size
  by_cases q : i < p.size
  · have e : p.getD i 0 = p[i] := by simp [q]
    rw [e]
    exact List.mem_range.mp (h.perm.mem_iff.mp (by simp))
  · have e : p.getD i 0 = 0 := by simp [Array.getD, q]
    rw [e]; exact h.pos
theorem PR.of (h : PR p N) {p' : Array Nat} (hp : p'.Perm p) : PR p' N := ⟨(Array.perm_iff_toList_perm.mp hp).trans h.perm, h.pos⟩
theorem getD_opt (p : Array Nat) (i : Nat) : p.getD i 0 = (p[i]?).getD 0 := by simp
theorem rev_getD {i j : Nat} (hj : j ≤ p.size) (k : Nat) : (kas_rev p i j).getD k 0 = if i ≤ k ∧ k < j then p.getD (i + j - 1 - k) 0 else p.getD k 0 := by
  rw [getD_opt, kas_rev, getElem?_mirror_all hj]
  split <;> rw [getD_opt]
theorem PR.rev (h : PR p N) (i j : Nat) : PR (kas_rev p i j) N := h.of (mirror_perm _ _ _ _)
theorem Srt.step (O : LtOrd lt) {n : Nat} (h : Srt lt p n) (hn : 1 ≤ n) (q : lt (p.getD n 0) (p.getD (n - 1) 0) = false) : Srt lt p (n + 1) := by
  intro i j hij hj
  by_cases e : j = n
  · subst e
    by_cases e2 : i = j
    · subst e2; exact O.rf _
    · exact O.tr (h i (j - 1) (by omega) (by omega)) q
  · exact h i j hij (by omega)
theorem Dsc.step (O : LtOrd lt) {n : Nat} (h : Dsc lt p n) (hn : 1 ≤ n) (q : lt (p.getD (n - 1) 0) (p.getD n 0) = false) : Dsc lt p (n + 1) := by
  intro i j hij hj
  by_cases e : j = n
  · subst e
    by_cases e2 : i = j
    · subst e2; exact O.rf _
    · exact O.tr q (h i (j - 1) (by omega) (by omega))
  · exact h i j hij (by omega)
theorem Srt.one (O : LtOrd lt) : Srt lt p 1 := fun i j h1 h2 => by
  obtain rfl : i = j := by omega
  exact O.rf _
theorem Dsc.rev {n i j : Nat} (h : Dsc lt p n) (hb : Blk lt p i j) (hjn : j ≤ n) (hs : j ≤ p.size) : Dsc lt (kas_rev p i j) n := by
  intro a b hab hb2
  rw [rev_getD hs, rev_getD hs]
  by_cases q1 : i ≤ a ∧ a < j <;> by_cases q2 : i ≤ b ∧ b < j
  · rw [if_pos q1, if_pos q2]; exact hb _ _ (by omega) (by omega) (by omega) (by omega)
  · rw [if_pos q1, if_neg q2]; exact h _ _ (by omega) (by omega)
  · rw [if_neg q1, if_pos q2]; exact h _ _ (by omega) (by omega)
  · rw [if_neg q1, if_neg q2]; exact h _ _ (by omega) (by omega)
theorem Dsc.srt {n : Nat} (h : Dsc lt p n) (hs : n ≤ p.size) : Srt lt (kas_rev p 0 n) n := by
  intro a b hab hb
  rw [rev_getD hs, rev_getD hs, if_pos ⟨Nat.zero_le _, hb⟩, if_pos ⟨Nat.zero_le _, by omega⟩]
  exact h _ _ (by omega) (by omega)
theorem asc_ok (O : LtOrd lt) (P : PR p N) {G : Nat → Prop} : ∀ (f n : Nat), 1 ≤ n → Srt lt p n → (∀ m, n ≤ m → m ≤ n + f → Srt lt p m → (m < n + f → lt (p.getD m 0) (p.getD (m - 1) 0) = true) → G m) → KOk lt N (kas_asc p f n) G
  | 0, n, _, h, k => k n (Nat.le_refl _) (Nat.le_refl _) h (fun q => absurd q (Nat.lt_irrefl _))
  | f + 1, n, h1, h, k => by
    unfold kas_asc
    refine .ask (P.bd _) (P.bd _) (fun q => ?_) fun q => ?_
    · rw [if_pos rfl]; exact k n (Nat.le_refl _) (by omega) h fun _ => q
    · rw [if_neg (by decide)]
      exact asc_ok O P f (n + 1) (by omega) (h.step O h1 q) fun m a1 a2 a3 a4 => k m (by omega) (by omega) a3 fun q => a4 (by omega)
theorem desc_ok (O : LtOrd lt) {G : Array Nat × Nat × Nat → Prop} : ∀ (f : Nat) (p : Array Nat) (n q : Nat), PR p N → n + f ≤ N → q + 1 ≤ n → Dsc lt p n → Blk lt p (n - (q + 1)) n →
    (∀ p' n' q', PR p' N → n ≤ n' → n' ≤ n + f → q' + 1 ≤ n' → Dsc lt p' n' → Blk lt p' (n' - (q' + 1)) n' → G (p', n', q')) → KOk lt N (kas_desc f p n q) G
  | 0, p, n, q, P, _, hq, hd, hb, k => k p n q P (Nat.le_refl _) (Nat.le_refl _) hq hd hb
  | f + 1, p, n, q, P, hN, hq, hd, hb, k => by
    have hs := P.size
    unfold kas_desc
    have one : ∀ p', Blk lt p' (n + 1 - (0 + 1)) (n + 1) := fun p' a b h1 h2 h3 h4 => by
      obtain rfl : a = b := by omega
      exact O.rf _
    refine .ask (P.bd _) (P.bd _) (fun c => ?_) fun c => ?_
    · rw [if_pos rfl]
      have hd1 := hd.step O (by omega) (O.asy c)
      split
      · exact desc_ok O f _ (n + 1) 0 (P.rev _ _) (by omega) (by omega) (hd1.rev hb (by omega) (by omega)) (one _) fun p' n' q' a1 a2 a3 => k p' n' q' a1 (by omega) (by omega)
      · exact desc_ok O f _ (n + 1) 0 P (by omega) (by omega) hd1 (one _) fun p' n' q' a1 a2 a3 => k p' n' q' a1 (by omega) (by omega)
    · rw [if_neg (by decide)]
      refine .ask (P.bd _) (P.bd _) (fun d => ?_) fun d => ?_
      · rw [if_pos rfl]; exact k p n q P (Nat.le_refl _) (by omega) hq hd hb
      · rw [if_neg (by decide)]
        have hd1 := hd.step O (by omega) d
        refine desc_ok O f p (n + 1) (q + 1) P (by omega) (by omega) hd1 ?_ fun p' n' q' a1 a2 a3 => k p' n' q' a1 (by omega) (by omega)
        intro a b h1 h2 h3 h4
        by_cases ea : a = n <;> by_cases eb : b = n
        · subst ea eb; exact O.rf _
        · subst ea; exact O.tr (hb _ _ (by omega) (by omega) (by omega) (by omega)) c
        · subst eb; exact hd1 _ _ (by omega) (by omega)
        · exact hb _ _ (by omega) (by omega) (by omega) (by omega)
theorem tail3_ok (O : LtOrd lt) (P : PR p N) {n : Nat} {G : Nat × Array Nat → Prop} (h1 : 1 ≤ n) (hn : n ≤ N) (hd : Dsc lt p n) (k : ∀ m p', PR p' N → 1 ≤ m → m ≤ N → Srt lt p' m → G (m, p')) : KOk lt N (kas_tail3 n N p) G := by
  have hs := P.size
  unfold kas_tail3
  exact .bind (asc_ok O (P.rev _ _) _ _ h1 (hd.srt (by omega)) fun m a1 a2 a3 _ => k m _ (P.rev _ _) (by omega) (by omega) a3)
theorem descPart_ok (O : LtOrd lt) (P : PR p N) {n : Nat} {G : Nat × Array Nat → Prop} (hn : n + 1 ≤ N) (hd : Dsc lt p (n + 1)) (k : ∀ m p', PR p' N → 1 ≤ m → m ≤ N → Srt lt p' m → G (m, p')) : KOk lt N (kas_descPart n N p) G := by
  unfold kas_descPart
  refine .bind (desc_ok O _ _ _ _ P (by omega) (by omega) hd (fun a b h1 h2 h3 h4 => by
    obtain rfl : a = b := by omega
    exact O.rf _) fun p' n' q' P' a1 a2 a3 a4 a5 => ?_)
  dsimp only
  have hs := P'.size
  split
  · exact tail3_ok O (P'.rev _ _) (by omega) (by omega) (a4.rev a5 (Nat.le_refl _) (by omega)) k
  · exact tail3_ok O P' (by omega) (by omega) a4 k
theorem count_ok (O : LtOrd lt) (P : PR p N) {G : Nat × Array Nat → Prop} (k : ∀ m p', PR p' N → 1 ≤ m → m ≤ N → Srt lt p' m → G (m, p')) : KOk lt N (kas_count N p) G := by
  have hs := P.size
  have h0 := P.pos
  unfold kas_count
  refine .bind (asc_ok O P _ _ (Nat.le_refl _) (Srt.one O) fun m a1 a2 a3 a4 => ?_)
  split
  · exact k m p P a1 (by omega) a3
  · rename_i hne
    have hmN : m < N := by
      have : m ≠ N := fun e => hne (by rw [e]; simp)
      omega
    have stop := a4 (by omega)
    split
    · refine .ask (P.bd _) (P.bd _) (fun c => ?_) fun c => ?_
      · rw [if_pos rfl]; exact k m p P a1 (by omega) a3
      · rw [if_neg (by decide)]
        have hb : Blk lt p 0 m := fun a b _ h1 _ h2 => O.tr (O.tr (a3 b (m - 1) (by omega) (by omega)) c) (a3 0 a (by omega) (by omega))
        have hd : Dsc lt p (m + 1) := Dsc.step O (fun i j h1 h2 => hb i j (by omega) (by omega) (by omega) (by omega)) (by omega) (O.asy stop)
        exact descPart_ok O (P.rev _ _) (by omega) (hd.rev hb (by omega) (by omega)) k
    · obtain rfl : m = 1 := by omega
      exact descPart_ok O P (by omega) (Dsc.step O (fun i j h1 h2 => by obtain rfl : i = j := by omega
                                                                        exact O.rf _) (by omega) (O.asy stop)) k
theorem place_ok (O : LtOrd lt) (P : PR p N) {kk : Nat} (hs : Srt lt p kk) {G : Nat → Prop} : ∀ (f l r : Nat), r - l ≤ f → l ≤ r → r ≤ kk → (∀ i, i < l → lt (p.getD kk 0) (p.getD i 0) = false) → (∀ i, r ≤ i → i < kk → lt (p.getD kk 0) (p.getD i 0) = true) →
    (∀ l, l ≤ kk → (∀ i, i < l → lt (p.getD kk 0) (p.getD i 0) = false) → (∀ i, l ≤ i → i < kk → lt (p.getD kk 0) (p.getD i 0) = true) → G l) → KOk lt N (kas_place p kk f l r) G
  | 0, l, r, h1, h2, h3, a, b, k => by
    obtain rfl : l = r := by omega
    exact k l h3 a b
  | f + 1, l, r, h1, h2, h3, a, b, k => by
    unfold kas_place
    split
    · obtain rfl : l = r := by omega
      exact k l h3 a b
    · refine .ask (P.bd _) (P.bd _) (fun c => ?_) fun c => ?_
      · rw [if_pos rfl]
        refine place_ok O P hs f l _ (by omega) (by omega) (by omega) a (fun i hi hk => ?_) k
        cases q : lt (p.getD kk 0) (p.getD i 0) with
        | true => rfl
        | false => have := O.tr (hs _ _ hi hk) q; rw [c] at this; cases this
      · rw [if_neg (by decide)]
        exact place_ok O P hs f _ r (by omega) (by omega) h3 (fun i hi => O.tr (hs i _ (by omega) (by omega)) c) b k
theorem bin_ok (O : LtOrd lt) {G : Array Nat → Prop} (k : ∀ p', PR p' N → Srt lt p' N → G p') : ∀ (f : Nat) (p : Array Nat) (kk : Nat), PR p N → Srt lt p kk → kk + f = N → KOk lt N (kas_bin f p kk) G
  | 0, p, kk, P, hs, e => by obtain rfl : kk = N := by omega
                             exact k p P hs
  | f + 1, p, kk, P, hs, e => by
    unfold kas_bin
    have hz := P.size
    refine .bind (place_ok O P hs _ _ _ (by omega) (by omega) (by omega) (fun i hi => absurd hi (Nat.not_lt_zero _)) (fun i h1 h2 => absurd h2 (by omega)) fun l hl a b => ?_)
    refine bin_ok O k f _ (kk + 1) (P.of (bubble_perm _ _ _)) ?_ (by omega)
    have hg : ∀ x, (bubble p kk (kk - l)).getD x 0 = if x = l then p.getD kk 0 else if l < x ∧ x ≤ kk then p.getD (x - 1) 0 else p.getD x 0 := by
      intro x
      rw [getD_opt, getElem?_bubble (by omega) _ (by omega), show kk - (kk - l) = l by omega]
      split
      · rw [getD_opt]
      · split <;> rw [getD_opt]
    intro i j hij hj
    rw [hg, hg]
    by_cases ej : j = l <;> by_cases ei : i = l
    · rw [if_pos ej, if_pos ei]; exact O.rf _
    · rw [if_pos ej, if_neg ei, if_neg (by omega)]; exact a i (by omega)
    · rw [if_neg ej, if_pos ei, if_pos (by omega)]; exact O.asy (b _ (by omega) (by omega))
    · rw [if_neg ej, if_neg ei]
      split <;> split
      · exact hs _ _ (by omega) (by omega)
      · exact hs _ _ (by omega) (by omega)
      · exact hs _ _ (by omega) (by omega)
      · exact hs _ _ (by omega) (by omega)
theorem sort_ok (O : LtOrd lt) (h : 0 < N) {G : Array Nat → Prop} (k : ∀ p', PR p' N → Srt lt p' N → G p') : KOk lt N (kas_sort N) G := by
  unfold kas_sort
  refine .bind (count_ok O ⟨by simp, h⟩ fun m p' P a1 a2 a3 => ?_)
  dsimp only
  split
  · rw [show max m 1 = m by omega]
    exact bin_ok O k _ _ _ P a3 (by omega)
  · obtain rfl : m = N := by omega
    exact k p' P a3
end
end Mine
end
/-! part R4 -/
section
open PySem PySem.W PyProof.Rows PySem.Spec PySem.Calls
set_option maxRecDepth 100000
set_option maxHeartbeats 1000000
namespace Mine
open PySem.SeqAt
/-! ## sorted, over rows of trees -/
def Row.isTree : Row → Bool
  | .tree _ _ => true
  | .tok _ _ => false
section
variable {prog : Program} {w : World} {A : Around} {s : Shared} {b fin : Bool} {Q : Bool → Shared → Prop}
theorem katLex_of {l : List (Value × Value)} {r : Bool} (h : LexAt A s fin l r) (hq : Q r s) : ∀ i, 1 ≤ i → KatLex prog w A b fin Q l i s := by
  induction h with
  | nil => exact fun i _ => kat_nil hq
  | eq e _ ih => exact fun i hi => kat_cons (e prog w _ _ (kat_yes (ih hq (i + 1) (by omega))))
  | ne e l =>
    intro i hi
    refine kat_cons (e prog w _ _ (kat_no ?_))
    rw [show (b && i == 0) = false by rw [show (i == 0) = false by simp; omega, Bool.and_false]]
    exact kat_one _ _ (l prog w _ _ hq)
theorem katLex_tree {r r' : Row} {x y : Addr} (h : RV (hv s.heap) (.ref x) r) (h' : RV (hv s.heap) (.ref y) r') (t : r.isTree = true) (t' : r'.isTree = true) (k : r.ok = true) (k' : r'.ok = true) (hu : A.units + 4 * r.hgt + 2 < cLine) (hq : Q (rowLt r r') s) {E : Value → Shared → Prop} :
    wpAny (model prog w) A (keyLt' (tuples' b) (.ref x) (.ref y)) Q E s := by
  cases h with
  | tok => cases t
  | @tree _ b1 _ _ n vs ks g1 hk hks =>
  cases h' with
  | tok => cases t'
  | @tree _ b2 _ _ n' vs' ks' g2 hk' hks' =>
    obtain ⟨o, g, c, m, e⟩ := g1
    obtain ⟨o', g', c', m', e'⟩ := g2
    simp only [Row.ok, Bool.and_eq_true] at k k'
    simp only [Row.hgt] at hu
    refine kat_lt g e g' e' ?_
    refine kat_cons (eqAt_strS _ _ _ prog w _ _ (kat_yes ?_))
    refine katLex_of (r := rowLt (.tree n ks) (.tree n' ks')) ?_ hq _ (Nat.le_refl _)
    simp only [rowLt]
    by_cases q : n = n'
    · subst q
      rw [if_pos rfl]
      refine .eq' (eqAt_strS n _ _) ?_
      have eq3 := eqAt_kids (A := A) hk hk' hks hks' k.2 k'.2 (by omega)
      by_cases q2 : rowsEq ks ks' = true
      · rw [q2] at eq3
        refine .eq' eq3 ?_
        obtain rfl := (rowsEq_iff _ _).mp q2
        rw [rowsLt_irrefl]
        exact .nil
      · rw [Bool.not_eq_true] at q2
        rw [q2] at eq3
        refine .ne eq3 ?_
        obtain ⟨o1, g1, c1, n1, e1⟩ := hk
        obtain ⟨o2, g2, c2, n2, e2⟩ := hk'
        refine LexAt.tuples ⟨o1, g1, c1, n1, e1⟩ ⟨o2, g2, c2, n2, e2⟩ (by omega) ?_
        refine lexAt_rows ks ks' A.in1 s _ _ _ hks hks' k.2 k'.2 (by rw [units_in1]; omega) ?_
        simp only [List.size_toArray, hks.length, hks'.length]
    · rw [if_neg q]
      exact .ne (eqAt_strN q _ _) (ltAt_str _ _ _ _)
end
theorem katTups_rows {h : Heap} : ∀ {vs : List Value} {rs : List Row}, RVs (hv h) vs rs → (∀ r ∈ rs, r.isTree = true) → ∃ fs, KatTups h vs fs ∧ fs.length = vs.length ∧ ∀ f ∈ fs, ∃ t, f = .str ("tree" : Str) t
  | _, _, .nil, _ => ⟨[], .nil, rfl, fun _ h => nomatch h⟩
  | _, _, .cons a b, ht => by
    obtain ⟨fs, h1, h2, h3⟩ := katTups_rows b fun r hr => ht r (.tail _ hr)
    cases a with
    | tok => exact absurd (ht _ (.head _)) (by simp [Row.isTree])
    | tree g _ _ =>
      obtain ⟨o, g, c, m, e⟩ := g
      refine ⟨_ :: fs, .cons g c e rfl h1, by simp [h2], fun f hf => ?_⟩
      rcases List.mem_cons.mp hf with rfl | hf
      · exact ⟨_, rfl⟩
      · exact h3 f hf
theorem RVs.getD {G : View} : ∀ {vs : List Value} {rs : List Row} (_ : RVs G vs rs) {i : Nat} (_ : i < rs.length), RV G (vs.getD i Value.none) (rs.getD i (.tok "" 0))
  | _, _, .cons a _, 0, _ => a
  | _, _, .cons _ b, i + 1, h => by simpa using b.getD (i := i) (by simpa using h)
theorem RVs.of_map {G : View} {vs : List Value} {rs : List Row} (h : RVs G vs rs) : ∀ {l : List Nat}, (∀ i ∈ l, i < rs.length) → RVs G (l.map fun i => vs.getD i Value.none) (l.map fun i => rs.getD i (.tok "" 0))
  | [], _ => .nil
  | i :: _, hl => .cons (h.getD (hl i (.head _))) (h.of_map fun j hj => hl j (.tail _ hj))
theorem range_getD (rs : List Row) : (List.range rs.length).map (fun i => rs.getD i (.tok "" 0)) = rs := by
  apply List.ext_getElem
  · simp
  · intro i h1 h2; simp [h2]
theorem hgts_getD {rs : List Row} {i : Nat} (h : i < rs.length) : (rs.getD i (.tok "" 0)).hgt ≤ Row.hgts rs := by
  have e : rs.getD i (.tok "" 0) = rs[i] := by simp [h]
  rw [e]
  exact hgt_mem (List.getElem_mem h)
theorem oks_getD {rs : List Row} {i : Nat} (k : Row.oks rs = true) (h : i < rs.length) : (rs.getD i (.tok "" 0)).ok = true := by
  have e : rs.getD i (.tok "" 0) = rs[i] := by simp [h]
  rw [e]
  exact oks_mem.mp k _ (List.getElem_mem h)
theorem rowOrd (rs : List Row) : LtOrd fun i j => rowLt (rs.getD i (.tok "" 0)) (rs.getD j (.tok "" 0)) := ⟨fun h h' => rowLe_trans h h', fun h => rowLt_asymm h⟩
theorem srt_pairwise {rs : List Row} {p : Array Nat} (P : PR p rs.length) (h : Srt (fun i j => rowLt (rs.getD i (.tok "" 0)) (rs.getD j (.tok "" 0))) p rs.length) : (p.toList.map fun i => rs.getD i (.tok "" 0)).Pairwise fun a b => rowLt b a = false := by
  rw [List.pairwise_iff_getElem]
  intro i j hi hj hij
  have hs := P.size
  simp only [List.length_map, Array.length_toList] at hi hj
  have := h i j (Nat.le_of_lt hij) (by omega)
  simp only [List.getElem_map, Array.getElem_toList]
  have e1 : p.getD i 0 = p[i] := by simp [hi]
  have e2 : p.getD j 0 = p[j] := by simp [hj]
  simp only [e1, e2] at this
  exact this
section
variable {prog : Program} {w : World} {A : Around} {hG : Heap} {L : Nat} {m : Str → Option Value} {s : Shared} {E Q : Value → Shared → Prop} {vT vN vO vH vA : Option Value} {ps : Array Value} {l : Addr} {vs : List Value} {rs : List Row} {n : Nat}
theorem law_sorted (S : LSt hG L m vT vN vO vH vA ps s.heap) (gl : gv hG L s.heap l (listOf vs.toArray n)) (hr : RVs (gv hG L s.heap) vs rs) (ht : ∀ r ∈ rs, r.isTree = true) (ho : Row.oks rs = true) (h2 : 2 ≤ rs.length) (h64 : rs.length < 64) (hu : A.units + 4 * Row.hgts rs + 10 < cLine)
    (h : ∀ D h' vs' rs' c, LSt hG L m vT vN vO vH vA ps h' → vle (gv hG L s.heap) (gv hG L h') → gv hG L h' D (listOf (vs' : List Value).toArray c) → RVs (gv hG L h') vs' rs' → rs'.Perm rs → rs'.Pairwise (fun a b => rowLt b a = false) → Q (.ref D) { s with heap := h' }) :
    wpAny (model prog w) A (call (.builtin "sorted") [.ref l]) Q E s := by
  obtain ⟨o5, o4, o3, o2, o1, Z, d1, d2, d3, d4, d5, Nw, hZ⟩ := S.news
  have h194 := S.lt194
  have hlen := hr.length
  refine kat_sorted S.F Nw ⟨_, gl.2.2, rfl, _, rfl⟩ (by omega) (by omega) fun D e1 h' F' N' hlt => ?_
  have v' := gv_step N' (fun a o g => by have := (hZ a o).mp g; simp only [List.mem_cons, this, or_true])
  have hr' : RVs (hv h') vs rs := (hr.mono v').mono gv_hv
  obtain ⟨fs, t, tl, tf⟩ := katTups_rows hr' ht
  refine kat_kind (s := { s with heap := h' }) (T := .type "str") t (by omega) (fun f hf => ?_) (by decide) ?_
  · obtain ⟨t, rfl⟩ := tf f hf
    exact Looks.of_pure rfl
  · rw [hlen]
    refine KOk.wp (lt := fun i j => rowLt (rs.getD i (.tok "" 0)) (rs.getD j (.tok "" 0))) (N := rs.length) (fun i j C hi hj hC => ?_) (fun p hp => ?_) (sort_ok (rowOrd rs) (by omega) (G := fun p => PR p rs.length ∧ Srt (fun i j => rowLt (rs.getD i (.tok "" 0)) (rs.getD j (.tok "" 0))) p rs.length) fun p' a b => ⟨a, b⟩)
    · unfold kas_ask
      have ri := hr'.getD hi
      have rj := hr'.getD hj
      obtain ⟨x, ex⟩ := ri.ref
      obtain ⟨y, ey⟩ := rj.ref
      rw [ex] at ri ⊢
      rw [ey] at rj ⊢
      have tree : ∀ i, i < rs.length → (rs.getD i (.tok "" 0)).isTree = true := fun i hi => by
        have e : rs.getD i (.tok "" 0) = rs[i] := by simp [hi]
        rw [e]; exact ht _ (List.getElem_mem hi)
      exact katLex_tree ri rj (tree _ hi) (tree _ hj) (oks_getD ho hi) (oks_getD ho hj) (by have := hgts_getD hi; simp only [units_in1]; omega) hC
    · obtain ⟨P, hs⟩ := hp
      refine KasFin.intro F' N' (.head (fun q hq => Nat.ne_of_lt (hlt q hq))) fun h'' c F'' N'' => ?_
      have v'' := gv_step N'' (fun a o g => by have := (hZ a o).mp g; simp only [List.mem_cons, this, or_true])
      have gD := gv_new N'' (.head _) (hlt _ (.head _)) (hlt (194, tabObj ps) (by k_mem))
      refine h D h'' _ _ c (.of_news F'' N'' (by k_mem) (by k_mem) (by k_mem) (by k_mem) (by k_mem) (by k_mem) d1 d2 d3 d4 d5 h194) v'' gD (RVs.of_map (hr.mono v'') fun i hi => ?_) ?_ (srt_pairwise P hs)
      · exact List.mem_range.mp (P.perm.mem_iff.mp hi)
      · have := P.perm.map fun i => rs.getD i (Row.tok "" 0)
        rwa [range_getD] at this
end
theorem rows_sorted_eq {a b : List Row} (h : a.Perm b) (h1 : a.Pairwise fun a b => rowLt b a = false) (h2 : b.Pairwise fun a b => rowLt b a = false) : a = b :=
  h.eq_of_pairwise (fun x y _ _ h h' => rowLt_tri x y h' h) h1 h2
end Mine
end
/-! part L14 -/
section
open PySem PySem.W PyProof.Rows PySem.Spec PySem.Calls
set_option maxRecDepth 100000
set_option maxHeartbeats 4000000
namespace Mine
section
variable {prog : Program} {w : World} {A : Around} {E : Value → Shared → Prop} {s : Shared} {a b : Addr} {ra rb : List Row} {va vb : List Value} {n1 n2 : Nat} {Q : Value → Shared → Prop}
theorem cmpNe_rowsL (ga : s.heap.get? a = some (W.listOf va.toArray n1)) (gb : s.heap.get? b = some (W.listOf vb.toArray n2)) (ha : RVs (hv s.heap) va ra) (hb : RVs (hv s.heap) vb rb) (ka : Row.oks ra = true) (kb : Row.oks rb = true) (hu : A.units + 2 * Row.hgts ra + 5 < cLine) (h : Q (.bool (!rowsEq ra rb)) s) :
    wpAny (model prog w) A (compareOp .NotEq (.ref a) (.ref b)) Q E s := by
  have xa : Reads s.heap (.ref a) (.list (Row.ds ra)) _ := Reads.list ga rfl rfl (by simpa using ha.reads)
  have xb : Reads s.heap (.ref b) (.list (Row.ds rb)) _ := Reads.list gb rfl rfl (by simpa using hb.reads)
  refine SeqAt.compareNe_reads xa xb (by simpa [PyData.canLay0] using rows_lay _ ka) (by simpa [PyData.canLay0] using rows_lay _ kb) ?_ (by simpa [PyData.eqv, rows_eqv] using h)
  have := rows_depth ra
  simp only [PyData.depth]; omega
end
section
variable {prog : Program} {w : World} {A : Around} {E : Value → Shared → Prop} {s : Shared} {env : Env}
theorem compInC_self {scope : Scope} {cl : List (Str × Addr)} {x : Str} {ifs : List Expr} {elt : Expr} {Q : Value → Shared → Prop} {l : Addr} {items : List Value}
    (hh : A.handled = none) (hl : s.heap.IsList l items.toArray) (hn : items.length ≤ sizeLine)
    (Inv : Nat → List Value → View → Prop) (hmono : ∀ j ys G G', vle G G' → Inv j ys G → Inv j ys G') (hlen : ∀ j ys G, Inv j ys G → ys.length ≤ j) (h0 : Inv 0 [] (hv s.heap))
    (turn : ∀ C c X oc j v ys s₃ oC m₃ E', s.heap.objs.size ≤ C → s.heap.objs.size ≤ c → C ≠ c → (∀ b ∈ X, ∃ o, s₃.heap.get? b = some o) → (∀ b ∈ X, s.heap.objs.size ≤ b) → items[j]? = some v → s₃.heap.get? C = some oC → (∀ h : Heap, h.get? C = some oC → h.Ns C m₃) → s₃.heap.get? c = some oc → oc.data = .cell (some v) → Keeps s s₃ → Inv j ys (hvx X s₃.heap) →
        wpAny (model prog w) A (forIn ifs true fun e r => if r = true then do let ok ← isTrue e (compEnvK scope ((x, c) :: cl) C env) (eval e (compEnvK scope ((x, c) :: cl) C env)); pure (ForInStep.yield ok) else pure (ForInStep.yield r)) (fun ok s₅ =>
          if ok = true then wpAny (model prog w) A (eval elt (compEnvK scope ((x, c) :: cl) C env)) (fun y s₆ => Keeps s₃ s₆ ∧ Inv (j + 1) (ys ++ [y]) (hvx X s₆.heap)) E' s₅
          else Keeps s₃ s₅ ∧ Inv (j + 1) ys (hvx X s₅.heap)) E' s₃)
    (fin : ∀ D X s' ys, s.heap.objs.size ≤ D → (∀ b ∈ X, s.heap.objs.size ≤ b) → s'.heap.PlainList D ys.toArray → Inv items.length ys (hvx X s'.heap) → Keeps s s' → Q (.ref D) s') :
    Opq (∃ s₀, CompInC prog w A s₀ env scope cl x ifs elt Q (.ref l) s) := ⟨s, compInC_src ⟨_, _, rfl, fun _ _ e => e⟩ (Nat.le_refl _) (by have := src_list (prog := prog) (w := w) hh (Nat.le_refl _) hl; simpa using this) hn Inv hmono hlen h0 turn fin⟩
end
section
local macro_rules | `(tactic| tm_at "w compareOp Is ref ref") => `(tactic| ((with_reducible show wpAny _ _ (compareOp CmpOp.Is (Value.ref _) (Value.ref _)) _ _ _); refine stop_here ?_))
local macro_rules | `(tactic| tm_at "w call ref") => `(tactic| refine stop_here ?_)
local macro_rules | `(tactic| tm_at "my compSC") => `(tactic| (refine ⟨?_⟩; k_dflt (refine' comp1CS ?hclos ?hpc ?hcf ?hkind ?hnames ?hx ?_ ?hs; (case hclos => exact rfl); (case hpc => exact fun _ => rfl); (case hcf => exact fun _ => rfl); (case hkind => exact rfl); (case hnames => decide); (case hx => exact fun _ _ => rfl); (case hs => exact fun _ => rfl); k_whole)))
local macro_rules | `(tactic| tm_at "my compSF") => `(tactic| (refine ⟨?_⟩; k_dflt (refine' comp1S ?hclos ?hpc ?hcf ?hkind ?hnames ?hx ?_ ?hs; (case hclos => exact rfl); (case hpc => exact fun _ => rfl); (case hcf => exact fun _ => rfl); (case hkind => exact rfl); (case hnames => decide); (case hx => exact rfl); (case hs => exact fun _ => rfl); k_whole)))
local macro_rules | `(tactic| tm_at "w Opq") => `(tactic| fail "stop")
local macro_rules | `(tactic| tm_at "w call builtin:len") => `(tactic| ((with_reducible show wpAny _ _ (call _ [Value.ref _]) _ _ _); k_dflt (refine' len_list ?hl ?hfit ?_; (case hl => exact News.isList (by k_asm) (by k_mem)); (case hfit => omega); k_whole)))
local macro_rules | `(tactic| tm_at "w subscriptTail Name Slice ref ref") => `(tactic| ((with_reducible show wpAny _ _ (subscriptTail _ (PySem.Expr.Slice _ _ none _) (Value.ref _) (Value.ref _)) _ _ _); k_dflt (refine' kmk_slice ?F ?N ?l ?p ?q ?_ ?s ?t ?z; (case F => k_asm); (case N => k_asm); (case l => exact News.isList (by k_asm) (by k_mem)); (case p => kmk_part); (case q => kmk_part); (case s => with_unfolding_all rfl); (case t => kmk_pure); (case z => tm_at "my size")); intro D' h' F' N' l1; (try k_lt l1); (try k_sweep)))
local macro_rules | `(tactic| tm_at "w binaryOp Add ref ref") => `(tactic| ((with_reducible show wpAny _ _ (binaryOp _ (Value.ref _) (Value.ref _)) _ _ _); k_dflt (refine' kmk_add_lit ?F ?N ?a ?b ?e ?_ ?z; (case F => k_asm); (case N => k_asm); (case a => exact News.isList (by k_asm) (by k_mem)); (case b => exact News.isList (by k_asm) (by k_mem)); (case e => exact rfl); (case z => (simp only [Array.length_toList, List.length_cons, List.length_nil]; rw [sizeLine_eq]; first | omega | (refine Nat.le_trans (Nat.add_le_add_right (slicePick_size_le _ _ _ _) _) ?_; omega)))); intro D' h' F' N' l1; (try k_lt l1); (try k_sweep)))
local macro_rules | `(tactic| tm_at "w call type:tuple") => `(tactic| ((with_reducible show wpAny _ _ (call (Value.type _) [Value.ref _]) _ _ _); k_dflt (refine' kde_tupleOf ?k1 ?k2 ?k3 ?k4 ?k5 ?_; (case k1 => k_asm); (case k2 => k_asm); (case k3 => exact News.isList (by k_asm) (by k_mem)); (case k4 => tm_at "my size"); (case k5 => exact rfl); k_whole); intro D' h' F' N' l1; (try k_lt l1); (try k_sweep)))
local macro_rules | `(tactic| tm_at "w subscriptTail") => `(tactic| ((with_reducible show wpAny _ _ (subscriptTail _ _ (Value.ref _) (Value.int _ _)) _ _ _); (try dsimp only); k_dflt (refine' menu2 ?k1 ?k2 ?k3 ?k4 ?_ ?k5 ?k6; (case k1 => k_asm); (case k2 => k_mem); (case k3 => omega); (case k4 => omega); (case k5 => with_unfolding_all rfl); (case k6 => kmk_pure); k_whole); intro tt))
local macro_rules | `(tactic| tm_at "w call builtin:min") => `(tactic| ((with_reducible show wpAny _ _ (call _ [Value.int _ _, Value.int _ _]) _ _ _); (rename Fr _ _ _ _ => kF); (rename News _ _ _ _ => kN); k_dflt (refine' min2_N ?hh kF kN ?_; (case hh => first | assumption | exact rfl); k_whole); intro h' t' k' F' N'; clear kN kF))
local macro_rules | `(tactic| tm_at "w subscriptTail List") => `(tactic| k_dflt (refine kba_turn (value' := PySem.Expr.Name (PySem.Str.ofString "_") ⟨0, 0, 0, 0⟩) (fun _ => rfl) ?_))
local macro_rules | `(tactic| tm_at "w binaryOp Add ref ref") => `(tactic| ((with_reducible show wpAny _ _ (binaryOp _ (Value.ref _) (Value.ref _)) _ _ _); refine stop_here ?_))
local macro_rules | `(tactic| tm_at "w compareOp NotEq ref ref") => `(tactic| refine stop_here ?_)
local macro_rules | `(tactic| tm_at "w compareOp Eq ref ref") => `(tactic| refine stop_here ?_)
local macro_rules | `(tactic| tm_at "w call builtin:sorted") => `(tactic| refine stop_here ?_)
local macro_rules | `(tactic| tm_at "w newList") => `(tactic| ((with_reducible show wpAny _ _ (newList []) _ _ _); k_dflt (refine' newListKp ?k1 ?k2 ?_ ?k3; (case k1 => k_asm); (case k2 => k_asm); (case k3 => exact Nat.zero_le _); k_whole); intro l' h' F' N' l1 nlK; (try k_lt l1); (try k_sweep)))
variable {w : World} {p : Program} {loose : List Str} {mean : ExcName → Option Value} {mg mb : Str → Option Value} {A : Around} {hG : Heap} {L : Nat} {m : Str → Option Value} {s : Shared} {E : Value → Shared → Prop} {Q : Flow → Shared → Prop}
theorem st14 (G : LG w p loose mean mg mb A hG) {vT vN : Option Value} {td nd hd0 nh : Nat} {R H : List N} {xs ys : List Int} {t1 t2 : N} {ra sa : Addr} (hrow : m "row" = some (.ref ra)) (hsec : m "second" = some (.ref sa))
    (P : Pu xs ys t1 t2) (x : Fx (gv hG L s.heap) t1 t2 ra sa) (gt : gv hG L s.heap td (listOf (R.map N.val).toArray nd)) (gh : gv hG L s.heap hd0 (listOf (H.map N.val).toArray nh)) (hRv : ∀ n ∈ R, TV (gv hG L s.heap) n) (hHv : ∀ n ∈ H, TV (gv hG L s.heap) n)
    (hRz : ∀ n ∈ R, n.row.size ≤ 100) (hR2 : 2 ≤ R.length) (hR6 : R.length < 64) (hH6 : H.length ≤ 100) (hRt : ∀ n ∈ R, n.isTree = true) (hRo : Row.oks (N.rows R) = true) (hRH : ∀ n ∈ R, ∃ k ∈ H, k.addr = n.addr)
    (hperm : (N.rows R).Perm (t1.row.subs ++ t2.row.subs ++ [.tree "in" [t2.row, t1.row], .tree "both" [t1.row, .tree "in" [t2.row, t1.row], t1.row]]))
    (S : LSt hG L m vT vN (some (.ref td)) (some (.ref hd0)) none #[] s.heap) : ∀ oc od fd osl, (hd.heap_39 w.params).lookup 197 = some ⟨oc, od, .func fd, osl⟩ → ∀ rest,
    (∀ h' tk', LSt hG L m vT vN (some (.ref td)) (some (.ref hd0)) none #[] h' → vle (gv hG L s.heap) (gv hG L h') →
      wpAny (model PySem.Challenge.rw_fi0013_01.row.prog w) (A.deeper (lawEnv fd L)) (execs rest (lawEnv fd L)) Q E { s with heap := h', toks := tk' }) →
    wpAny (model PySem.Challenge.rw_fi0013_01.row.prog w) (A.deeper (lawEnv fd L)) (execs (stmtAt fd 14 :: rest) (lawEnv fd L)) Q E s := by
  have G0 := G
  obtain ⟨hd0, dep, frs, gds, un⟩ := A
  obtain ⟨X, T, B, hh, hdp, hun, C⟩ := G
  obtain rfl : frs = some [] := B.stack
  obtain rfl : hd0 = none := hh
  dsimp only at hdp hun
  revert X; k_fill; intro X
  (with_unfolding_all k_dflt refine' (fn_case ?e ?h))
  case e => k_is
  case h =>
  intro rest K
  conv => arg 3; arg 1; arg 1; whnf
  dsimp only [lawEnv] at K ⊢
  obtain ⟨o5, o4, o3, o2, o1, Z, d1, d2, d3, d4, d5, Nw, hZ⟩ := S.news
  have h194 := S.lt194
  have F := S.F
  rw [upd_self hrow, upd_self hsec] at F
  have ps1 := P.s1
  have ps2 := P.s2
  have ph1 := P.h1
  have ph2 := P.h2
  have hRtr : ∀ r ∈ N.rows R, r.isTree = true := by
    intro r hr
    rw [rows_eq] at hr
    obtain ⟨n, hn, rfl⟩ := List.mem_map.mp hr
    have := hRt n hn
    cases n with
    | tok => cases this
    | tree => rfl
  have hRh : ∀ r ∈ N.rows R, r.hgt ≤ 100 := by
    intro r hr
    rw [rows_eq] at hr
    obtain ⟨n, hn, rfl⟩ := List.mem_map.mp hr
    exact Nat.le_trans (hgt_size _) (hRz n hn)
  have N₀ := News.expose gt (News.expose gh Nw)
  (try k_fold)
  k_steps
  tm_at "my compSF"
  k_steps
  refine compIn_self (items := R.map N.val) rfl (.inl (N₀.isList (.head _))) (by rw [sizeLine_eq, List.length_map]; omega) (fun (j : Nat) (ys : List Value) (V : View) => RVs (fun b o => s.heap.get? b = none ∧ V b o) ys ((R.take j).map N.row)) (fun _ _ _ _ v h => h.mono fun b o q => ⟨q.1, v _ _ q.2⟩) ?_ ?_ ?_ ?_
  · intro j ys V h; have := h.length; rw [List.length_map, List.length_take] at this; omega
  · exact .nil
  · intro C X j v ys s₃ oC m₃ E' hC hX1 hX2 hj hoC hns hm' hk₃ hI
    have F₃ := F.keeps (kold hk₃)
    have N₃ := news_add' F (N₀.grown (kold hk₃)) hoC hC
    obtain ⟨d, hdj, rfl⟩ := vals_get hj
    have hdR := List.mem_of_getElem? hdj
    have hm2 : m₃ "one" = some (.ref d.addr) := hm'
    clear hm'
    rw [List.forIn_nil]
    refine wpAny_pure ?_
    rw [if_pos rfl]
    k_steps
    refine ⟨wpAny_mono (row_spec 101 d (by have := hRz d hdR; omega) _ hG _ _ _ (G0.amb F₃ rfl rfl) ((hRv d hdR).mono fun b o q => kold hk₃ b o q.2.2) (by have := hRz d hdR; omega) (by have := hgt_size d.row; have := hRz d hdR; show dep + 1 + _ < _; omega) (by have := hgt_size d.row; have := hRz d hdR; show un + 3 + _ < _; omega)) (fun y s₆ h₆ => ?_) fun _ _ e => e⟩
    obtain ⟨hk₆, hrv⟩ := h₆
    refine ⟨hk₆, ?_⟩
    rw [take_succ_get hdj, List.map_append]
    refine (hI.mono fun b o q => ⟨q.1, q.2.1, kold hk₆ _ _ q.2.2⟩).snoc (hrv.mono fun b o q => ⟨?_, fun hb => ?_, q.2⟩)
    · cases e : s.heap.get? b with
      | none => rfl
      | some o' => have := kold hk₃ _ _ e; rw [q.1] at this; cases this
    · obtain ⟨o', e'⟩ := hX1 b hb
      rw [q.1] at e'; cases e'
  · intro D1 X s' ys hD1 hX ⟨e1, hl1⟩ hI hk₁
    obtain ⟨h1, tk1, rfl, hk1⟩ := hk₁
    rw [List.length_map, List.take_of_length_le (Nat.le_refl _), ← rows_eq] at hI
    have S1 := S.keeps hk1
    have v01 : vle (gv hG L s.heap) (gv hG L h1) := gv_keeps hk1
    have gD1 := S.frv _ _ ⟨Heap.get?_none_of_le hD1, hl1⟩
    have rv1 : RVs (gv hG L h1) ys (N.rows R) := hI.mono fun b o q => S.frv _ _ ⟨q.1, q.2.2⟩
    clear hI
    (try dsimp only)
    k_steps
    refine ⟨law_sorted S1 gD1 rv1 ?_ hRo (by rw [rows_length]; exact hR2) (by rw [rows_length]; exact hR6) ?_ fun D2 h2 vs2 rs2 c2 S2 v12 gD2 rv2 hp2 hw2 => ?_⟩
    · exact hRtr
    · have := hgts_le hRh
      show un + 3 + _ + _ < _; omega
    have v02 : vle (gv hG L s.heap) (gv hG L h2) := fun a o g => v12 a o (v01 a o g)
    clear N₀ F Nw hZ d1 d2 d3 d4 d5
    obtain ⟨o5, o4, o3, o2, o1, Z, d1, d2, d3, d4, d5, Nw, hZ⟩ := S2.news
    have F := S2.F
    rw [upd_self hrow, upd_self hsec] at F
    k_steps
    have x2 := x.mono v02
    refine ⟨wpAny_mono (rows_spec 14 t1.row (by omega) _ hG _ _ _ (gv hG L h2) _ (G0.amb F rfl rfl) gv_hv x2.rr (by omega) (by show dep + 1 + _ < _; omega) (by show un + 3 + _ < _; omega)) (fun y s₁ h₁ => ?_) fun _ _ e => e⟩
    obtain ⟨⟨h3, tk3, rfl, hk3⟩, vs3, ⟨D3, n3, rfl, hD3a, hD3b⟩, rv3⟩ := h₁
    have S3 := S2.keeps hk3
    have v23 : vle (gv hG L h2) (gv hG L h3) := gv_keeps hk3
    have gD3 := S2.frv _ _ ⟨hD3a, hD3b⟩
    have F3 := F.keeps hk3
    have N3 := Nw.grown hk3
    clear Nw F
    k_steps
    refine ⟨wpAny_mono (rows_spec 14 t2.row (by omega) _ hG _ _ _ (gv hG L h3) _ (G0.amb F3 rfl rfl) gv_hv (x2.mono v23).rs (by omega) (by show dep + 1 + _ < _; omega) (by show un + 3 + _ < _; omega)) (fun y s₁ h₁ => ?_) fun _ _ e => e⟩
    obtain ⟨⟨h4, tk4, rfl, hk4⟩, vs4, ⟨D4, n4, rfl, hD4a, hD4b⟩, rv4⟩ := h₁
    dsimp only at hk4 hD4a hD4b
    have S4 := S3.keeps hk4
    have v34 : vle (gv hG L h3) (gv hG L h4) := gv_keeps hk4
    have gD4 := S3.frv _ _ ⟨hD4a, hD4b⟩
    have gD3' := v34 _ _ gD3
    clear N3 F3
    have l3 := rv3.length
    have l4 := rv4.length
    have sl1 := subs_len t1.row
    have sl2 := subs_len t2.row
    (try dsimp only)
    k_steps
    refine ⟨law_add S4 gD3' gD4 (by simp; omega) fun D5 h5 S5 v45 gD5 => ?_⟩
    clear hZ d1 d2 d3 d4 d5
    obtain ⟨o5, o4, o3, o2, o1, Z, d1, d2, d3, d4, d5, Nw, hZ⟩ := S5.news
    have F := S5.F
    rw [upd_self hrow, upd_self hsec] at F
    have z5 := fun a o g => (hZ a o).mp g
    k_steps
    rename_i T1 _ e1 T2 _ e2 T3 _ e3 T4 _ e4 T5 _ e5 T6 _ e6 lq h6 F6 N6 e7
    rw [← upd_self hsec, ← upd_self hrow] at F6
    have v56 := gv_step N6 (fun a o g => by have := z5 a o g; simp only [List.mem_cons, this, or_true])
    have S6 := LSt.of_news F6 N6 (by k_mem) (by k_mem) (by k_mem) (by k_mem) (by k_mem) (by k_mem) d1 d2 d3 d4 d5 h194
    have g1 := gv_new N6 (D := T1) (by k_mem) e1.1 e1.2.2.2.2.2.1
    have g2 := gv_new N6 (D := T2) (by k_mem) e2.2.1 e2.2.2.2.2.2.2.1
    have g3 := gv_new N6 (D := T3) (by k_mem) e3.2.2.1 e3.2.2.2.2.2.2.2.1
    have g4 := gv_new N6 (D := T4) (by k_mem) e4.2.2.2.1 e4.2.2.2.2.2.2.2.2.1
    have g5 := gv_new N6 (D := T5) (by k_mem) e5.2.2.2.2.1 e5.2.2.2.2.2.2.2.2.2.1
    have g6 := gv_new N6 (D := T6) (by k_mem) e6.2.2.2.2.2.1 e6.2.2.2.2.2.2.2.2.2.2.1
    have g7 := gv_new N6 (D := lq) (by k_mem) e7.2.2.2.2.2.2.1 e7.2.2.2.2.2.2.2.2.2.2.2.1
    have v26 : vle (gv hG L h2) (gv hG L h6) := fun a o g => v56 a o (v45 a o (v34 a o (v23 a o g)))
    have x6 := x2.mono v26
    have rA : RV (gv hG L h6) (.ref T2) (.tree "in" [t2.row, t1.row]) := .tree ⟨_, g2, rfl, _, rfl⟩ (vs := [_, _]) ⟨_, g1, rfl, _, rfl⟩ (.cons x6.rs (.cons x6.rr .nil))
    have rB : RV (gv hG L h6) (.ref T4) (.tree "in" [t2.row, t1.row]) := .tree ⟨_, g4, rfl, _, rfl⟩ (vs := [_, _]) ⟨_, g3, rfl, _, rfl⟩ (.cons x6.rs (.cons x6.rr .nil))
    have rC : RV (gv hG L h6) (.ref T6) (.tree "both" [t1.row, .tree "in" [t2.row, t1.row], t1.row]) := .tree ⟨_, g6, rfl, _, rfl⟩ (vs := [_, _, _]) ⟨_, g5, rfl, _, rfl⟩ (.cons x6.rr (.cons rB (.cons x6.rr .nil)))
    refine ⟨law_add (its := (vs3.toArray.toList ++ vs4.toArray.toList).toArray) (its2 := [Value.ref T2, Value.ref T6].toArray) S6 (v56 _ _ gD5) g7 (by simp; omega) fun D7 h7 S7 v67 gD7 => ?_⟩
    have rv7 : RVs (gv hG L h7) ((vs3.toArray.toList ++ vs4.toArray.toList).toArray.toList ++ [Value.ref T2, Value.ref T6].toArray.toList) (t1.row.subs ++ t2.row.subs ++ [.tree "in" [t2.row, t1.row], .tree "both" [t1.row, .tree "in" [t2.row, t1.row], t1.row]]) := by
      have a3 := rv3.mono (fun a o g => v67 a o (v26 a o g))
      have a4 := rv4.mono (fun a o g => v67 a o (v56 a o (v45 a o (v34 a o g))))
      have := (a3.append a4).append (.cons (rA.mono v67) (.cons (rC.mono v67) .nil))
      simpa using this
    have hmem : ∀ r, r ∈ (t1.row.subs ++ t2.row.subs ++ [.tree "in" [t2.row, t1.row], .tree "both" [t1.row, .tree "in" [t2.row, t1.row], t1.row]]) → r ∈ N.rows R := fun r h => hperm.mem_iff.mpr h
    have hlen7 := hperm.length_eq
    rw [rows_length] at hlen7
    k_steps
    refine ⟨law_sorted S7 gD7 rv7 (fun r hr => hRtr r (hmem r hr)) (oks_mem.mpr fun r hr => oks_mem.mp hRo r (hmem r hr)) (by omega) (by omega) ?_ fun D8 h8 vs8 rs8 c8 S8 v78 gD8 rv8 hp8 hw8 => ?_⟩
    · have := hgts_le (fun r hr => hRh r (hmem r hr))
      show un + 3 + _ + _ < _; omega
    have v28 : vle (gv hG L h2) (gv hG L h8) := fun a o g => v78 a o (v67 a o (v26 a o g))
    have erows : rs2 = rs8 := rows_sorted_eq (hp2.trans (hperm.trans hp8.symm)) hw2 hw8
    subst erows
    k_steps
    have hok2 : Row.oks rs2 = true := oks_mem.mpr fun r hr => oks_mem.mp hRo r (hp2.mem_iff.mp hr)
    refine ⟨cmpNe_rowsL (v28 _ _ gD2).2.2 gD8.2.2 ((rv2.mono v28).mono gv_hv) (rv8.mono gv_hv) hok2 hok2 ?_ ?_⟩
    · have := hgts_le (fun r hr => hRh r (hp2.mem_iff.mp hr))
      show un + 3 + _ + _ < _; omega
    rw [(rowsEq_iff rs2 rs2).mpr rfl, Bool.not_true]
    k_steps
    have v08 : vle (gv hG L s.heap) (gv hG L h8) := fun a o g => v28 a o (v02 a o g)
    have gt8 := v08 _ _ gt
    have gh8 := v08 _ _ gh
    clear hZ d1 d2 d3 d4 d5 z5 N6 F6
    obtain ⟨o5, o4, o3, o2, o1, Z, d1, d2, d3, d4, d5, Nw, hZ⟩ := S8.news
    have F8 := S8.F
    rw [upd_self hrow, upd_self hsec] at F8
    have N8 := News.expose gt8 (News.expose gh8 Nw)
    have hobs : ∀ n : N, TV (gv hG L s.heap) n → ∃ o, h8.get? n.addr = some o ∧ o.cls ≠ .type "tuple" := fun n hn => (hn.mono fun b o q => (v08 b o q).2.2).obj
    tm_at "my compSC"
    k_steps
    refine compInC_self (items := R.map N.val) rfl (N8.isList (.head _)) (by rw [sizeLine_eq, List.length_map]; omega) (fun (j : Nat) (ys : List Value) (V : View) => ys = []) (fun _ _ _ _ v h => h) (fun _ _ _ h => by subst h; exact Nat.zero_le _) rfl ?_ ?_
    · intro C c X oc j v ys s₃ oC m₃ E' hC hc hCc hX1 hX2 hj hoC hns hoc hdc hk₃ hI
      have F₃ := F8.keeps (kold hk₃)
      have N₃ := news_add' F8 (news_add' F8 (N8.grown (kold hk₃)) hoC hC) hoc hc
      obtain ⟨d, hdj, rfl⟩ := vals_get hj
      have hdR := List.mem_of_getElem? hdj
      refine wpAny_tests_one ?_
      k_steps
      tm_at "my compSF"
      k_steps
      refine compIn_self (items := H.map N.val) rfl (.inl (N₃.isList (by k_mem))) (by rw [sizeLine_eq, List.length_map]; omega) (fun (j : Nat) (ys : List Value) (_ : View) => ys = ((H.take j).filter fun k => k.addr == d.addr).map N.val) (fun _ _ _ _ _ h => h) ?_ ?_ ?_ ?_
      · intro j ys G h; subst h; rw [List.length_map]; exact Nat.le_trans (List.length_filter_le _ _) (by rw [List.length_take]; exact Nat.min_le_left _ _)
      · simp
      · intro C2 Z4 j2 v2 ys2 s₄ oC2 m₄ E2 hC2 hZ3 hZ4 hj2 hoC2 hns2 hm3 hk₄ hI2
        have F₉ := F₃.keeps (kold hk₄)
        have N₉ := news_add' F₃ (N₃.grown (kold hk₄)) hoC2 hC2
        obtain ⟨k, hkj, rfl⟩ := vals_get hj2
        refine wpAny_tests_one ?_
        have hm4 : m₄ "x" = some (.ref k.addr) := hm3
        clear hm3
        k_steps
        obtain ⟨od, hod1, hod2⟩ := hobs k (hHv k (List.mem_of_getElem? hkj))
        obtain ⟨oq, hoq1, hoq2⟩ := hobs d (hRv d hdR)
        refine ⟨?_⟩
        refine is_refs (kold hk₄ _ _ (kold hk₃ _ _ hod1)) (kold hk₄ _ _ (kold hk₃ _ _ hoq1)) hod2 ?_
        k_steps
        · rename (k.addr == d.addr) = true => hq2
          rw [hI2, take_succ_get hkj, List.filter_append, List.map_append]; simp [hq2]
        · rename (k.addr == d.addr) = false => hq2
          rw [hI2, take_succ_get hkj, List.filter_append, List.map_append]; simp [hq2]
      · intro D9 Z9 s' ys9 hD9 hZ9 ⟨e9, hl9⟩ hI9 hk9
        obtain ⟨h9, tk9, rfl, hk9'⟩ := hk9
        obtain ⟨F₉, N₉, l9⟩ := comp_finS F₃ N₃ hk9' hl9 hD9
        rw [List.length_map, List.take_of_length_le (Nat.le_refl _)] at hI9
        have hne : ys9 ≠ [] := by
          obtain ⟨k, hk, e⟩ := hRH d hdR
          rw [hI9]
          intro q
          have := List.map_eq_nil_iff.mp q
          have hm : k ∈ H.filter (fun k => k.addr == d.addr) := List.mem_filter.mpr ⟨hk, by simpa using e⟩
          rw [this] at hm; cases hm
        (try dsimp only at N₉ F₉ ⊢)
        k_steps
        rename ∀ b o, Heap.get? h9 b = some o → _ => hk10
        rename News hG _ _ _ => N10
        refine ⟨SeqAt.eq_list_lengthsAt ⟨_, (N10 _ (.tail _ (.head _))).1, rfl, _, rfl⟩ (N10.isList (.head _)) ?_ (by show un + 3 < _; omega) ?_⟩
        · cases ys9 with
          | nil => exact absurd rfl hne
          | cons => simp
        k_steps
        exact ⟨_, _, rfl, fun b o e => hk10 b o (hk9' b o e)⟩
    · intro D9 Z9 s' ys9 hD9 hZ9 ⟨e9, hl9⟩ hI9 hk9
      obtain ⟨h9, tk9, rfl, hk9'⟩ := hk9
      obtain ⟨F₉, N₉, l9⟩ := comp_finS F8 N8 hk9' hl9 hD9
      k_lt l9
      subst hI9
      (try dsimp only at N₉ F₉ hk9' ⊢)
      clear N8 F8
      k_steps
      rename Fr hG _ _ _ => F6
      rename News hG _ _ _ => N6
      refine ⟨cmpNe_ints (va := []) (vb := []) (N6.get (.tail _ (.head _))) (N6.get (.head _)) .nil .nil (by show un + 3 + 10 < _; omega) ?_⟩
      rw [decide_eq_true rfl, Bool.not_true]
      k_steps
      show wpAny _ _ (execs rest _) _ _ _
      have S10 := LSt.of_news F6 N6 (by k_mem) (by k_mem) (by k_mem) (by k_mem) (by k_mem) (by k_mem) d1 d2 d3 d4 d5 h194
      have v8 := gv_step N6 (fun a o g => by have := (hZ a o).mp g; simp only [List.mem_cons, this, or_true])
      have em : (fun y : Str => if y = ("row" : Str) then some (Value.ref ra) else if y = ("second" : Str) then some (Value.ref sa) else m y) = m := by
        funext y
        split
        · subst y; exact hrow.symm
        · split
          · subst y; exact hsec.symm
          · rfl
      rw [em] at S10
      exact K _ _ S10 (fun a o g => v8 a o (v08 a o g))
end
end Mine
end
/-! part T9 -/
section
open PySem PySem.W PyProof.Rows PySem.Spec PySem.Calls
set_option maxRecDepth 100000
set_option maxHeartbeats 1000000
namespace Mine
/-! ## a loop over a tuple, at the law's level -/
section
variable {prog : Program} {w : World} {A : Around} {hG : Heap} {L : Nat} {s : Shared} {env : Env} {vT vH vA : Option Value} {ps : Array Value}
theorem LSt.except {m : Str → Option Value} {vN vO : Option Value} {h h' : Heap} {I : Addr} (S : LSt hG L m vT vN vO vH vA ps h) (g : hG.get? I = none) (hI : I ∉ mutL L) (k : ∀ b o, b ≠ I → h.get? b = some o → h'.get? b = some o) : LSt hG L m vT vN vO vH vA ps h' ∧ ∀ b o, b ≠ I → gv hG L h b o → gv hG L h' b o := by
  have ne : ∀ a ∈ mutL L, a ≠ I := fun a ha e => hI (e ▸ ha)
  have ck : ∀ c v, c ∈ mutL L → CellAt h c v → CellAt h' c v := fun c v hc ⟨o, e, d⟩ => ⟨o, k _ _ (ne c hc) e, d⟩
  refine ⟨⟨⟨S.F.ns.at' fun o e => k _ o (ne L (by simp [mutL])) e, fun b o e => k b o (fun q => by rw [q, g] at e; cases e) (S.F.keep b o e), S.F.above⟩, ck _ _ (by simp [mutL]) S.tree, ck _ _ (by simp [mutL]) S.names, ck _ _ (by simp [mutL]) S.told, ck _ _ (by simp [mutL]) S.there, ck _ _ (by simp [mutL]) S.again, k _ _ (ne 194 (by simp [mutL])) S.tab, S.g194, S.lt194⟩,
    fun b o hb e => ⟨e.1, e.2.1, k b o hb e.2.2⟩⟩
theorem src_tupF {l : Addr} {items : Array Value} {Q E : Value → Shared → Prop} (hh : A.handled = none) (hl : IsTup s.heap l items)
    (h : ∀ I s₂ fp St, Keeps s s₂ → s.heap.objs.size ≤ I → WalksS prog w A I fp [I] (fun a b => b = a) items.size (fun i v => items[i]? = some v) St → (∀ b ∈ fp, b < s₂.heap.objs.size) → (∀ i s', St i s' → ∃ o, s'.heap.get? I = some o) → St 0 s₂ → (∀ b ∈ fp, b = I ∨ b = l) → Q (.ref I) s₂) :
    wpAny (model prog w) A (pyIter (.ref l)) Q E s := by
  have hlt : l < s.heap.objs.size := let ⟨_, ho, _⟩ := hl; Heap.lt_size ho
  have hl' : s.heap.IsTuple l items := hl
  refine wpAny_pyIter_tuple hl' (h _ _ [s.heap.objs.size, l] _ ⟨_, s.toks, rfl, fun b o e => Heap.get?_push_of_some _ e⟩ (Nat.le_refl _) (Walks.tuple hh _ l (Nat.ne_of_lt hlt) items).toS ?_ (fun _ _ st => let ⟨o, e, _⟩ := st.1; ⟨o, e⟩) ⟨⟨_, Heap.get?_push_size _ rfl, rfl, rfl⟩, hl'.at fun o e => Heap.get?_push_of_some _ e⟩ (by simp))
  intro b hb
  simp only [List.mem_cons, List.not_mem_nil, or_false] at hb
  show b < (s.heap.push _).objs.size
  rw [Heap.size_push]
  rcases hb with rfl | rfl
  · exact Nat.lt_succ_self _
  · exact Nat.lt_succ_of_lt hlt
structure ForIn (prog : Program) (w : World) (A : Around) (env : Env) (hG : Heap) (L : Nat) (vT vH vA : Option Value) (ps : Array Value) (x : Str) (px : Pos) (body : List Stmt) (Q : Flow → Shared → Prop) (a : Addr) (items : List Value) (s : Shared) : Prop where
  hh : A.handled = none
  tup : IsTup s.heap a items.toArray
  mem : a ∉ mutL L
  out : ∃ m vN vO, LSt hG L m vT vN vO vH vA ps s.heap ∧ ∃ Inv : Nat → (Str → Option Value) → Option Value → Option Value → View → Prop, Inv 0 m vN vO (gv hG L s.heap) ∧ (∀ j m vN vO V V', vle V V' → Inv j m vN vO V → Inv j m vN vO V') ∧
    (∀ j v h₂ tk₂ V m vN vO E', items[j]? = some v → LSt hG L m vT vN vO vH vA ps h₂ → vle V (gv hG L h₂) → vle (gv hG L s.heap) V → Inv j m vN vO V →
      wpAny (model prog w) A (assign (.Name x px) env v) (fun _ s₃ => wpAny (model prog w) A (execs body env) (fun f s₄ => Opq (f = .next ∧ ∃ h' tk' m' vN' vO', s₄ = { s with heap := h', toks := tk' } ∧ LSt hG L m' vT vN' vO' vH vA ps h' ∧ vle (gv hG L h₂) (gv hG L h') ∧
        ∀ V', vle V V' → (∀ b o, h₂.get? b = none → gv hG L h' b o → V' b o) → Inv (j + 1) m' vN' vO' V')) E' s₃) E' { s with heap := h₂, toks := tk₂ }) ∧
    (∀ h' tk' m vN vO V, LSt hG L m vT vN vO vH vA ps h' → vle V (gv hG L h') → vle (gv hG L s.heap) V → Inv items.length m vN vO V → Q .next { s with heap := h', toks := tk' })
theorem law_for {x : Str} {px : Pos} {iter : Expr} {body : List Stmt} {pos : Pos} {Q : Flow → Shared → Prop} {E : Value → Shared → Prop} {s₀ : Shared}
    (h : wpAny (model prog w) A (eval iter env) (fun xv s => Opq (∃ a items, xv = .ref a ∧ ForIn prog w A env hG L vT vH vA ps x px body Q a items s)) E s₀) (hs : ∀ x, foldedSetIterable iter env x = pure x := by intro _; rfl) :
    wpAny (model prog w) A (exec (.For (.Name x px) iter body [] pos) env) Q E s₀ := by
  refine wpAny_For (wpAny_mono h (fun xv s hx => ?_) fun _ _ e => e) hs
  obtain ⟨a, items, rfl, FI⟩ := hx
  obtain ⟨m₀, vN₀, vO₀, S₀, Inv, hI0, hmono, turn, fin⟩ := FI.out
  have sz : items.toArray.size = items.length := by simp
  refine src_tupF FI.hh FI.tup fun I s₂ fp St hk₂ hI W hfp hlive hst hfe => ?_
  obtain ⟨h₂, tk₂, rfl, hk₂⟩ := hk₂
  rw [sz] at W
  have gI : hG.get? I = none := Heap.get?_none_of_le (Nat.le_trans S₀.F.above (Nat.le_trans (Nat.le_of_lt S₀.F.ns.lt) hI))
  have nI : I ∉ mutL L := fun q => by
    obtain ⟨o, e⟩ := S₀.mut_some I q
    exact Nat.lt_irrefl _ (Nat.lt_of_lt_of_le (Heap.lt_size e) hI)
  have neI : ∀ b o, gv hG L s.heap b o → b ≠ I := fun b o g q => Nat.lt_irrefl _ (Nat.lt_of_lt_of_le (Heap.lt_size g.2.2) (q ▸ hI))
  refine forLoopI (fun k s' => ∃ j h tk m vN vO, k = items.length - j ∧ j ≤ items.length ∧ s' = { s with heap := h, toks := tk } ∧ St j s' ∧ LSt hG L m vT vN vO vH vA ps h ∧ vle (gv hG L s.heap) (fun b o => b ≠ I ∧ gv hG L h b o) ∧ Inv j m vN vO (fun b o => b ≠ I ∧ gv hG L h b o)) ?_ items.length ?_ (fun _ => rfl)
  · rintro k s' ⟨j, h, tk, m, vN, vO, rfl, hj, rfl, hSt, S, v0, hInv⟩
    by_cases hlt : j < items.length
    · refine W.item j _ _ _ hlt hSt fun v s₁ hPv hSt₁ hM => ?_
      obtain ⟨h₁, g₁, dr₁, tk₁, os₁⟩ := s₁
      obtain rfl : g₁ = s.gens := hM.gens
      obtain rfl : dr₁ = s.drawn := hM.drawn
      obtain rfl : os₁ = s.os := hM.os
      have kb : ∀ b o, b ≠ I → h.get? b = some o → h₁.get? b = some o := fun b o hb e => hM.heap b o (by simpa using hb) e
      obtain ⟨S₁, v1⟩ := S.except gI nI kb
      obtain ⟨oI, hoI⟩ := hlive _ _ hSt₁
      have hvj : items[j]? = some v := by simpa using hPv
      refine wpAny_mono (wpAny_toks (turn j v h₁ tk₁ (fun b o => b ≠ I ∧ gv hG L h₁ b o) m vN vO _ hvj S₁ (fun b o q => q.2) (fun b o g => ⟨neI b o g, v1 b o (neI b o g) (v0 b o g).2⟩) (hmono _ _ _ _ _ _ (fun b o q => ⟨q.1, v1 b o q.1 q.2⟩) hInv))) (fun _ s₃ h₃ => wpAny_mono (wpAny_toks_of h₃.1 h₃.2) (fun f s₄ h₄ => ?_) fun _ _ e => e.2) fun _ _ e => e.2
      obtain ⟨htk, rfl, h', tk', m', vN', vO', rfl, S', v', hI'⟩ := h₄
      have ge1 : ∀ b, h₁.get? b = none → b ≠ I := fun b e q => by rw [q, hoI] at e; cases e
      have hIg : gv hG L h₁ I oI := ⟨gI, nI, hoI⟩
      have hold : ∀ b o, h₁.get? b = some o → b ∉ mutL L → h'.get? b = some o := fun b o e hb => by
        cases q : hG.get? b with
        | none => exact (v' b o ⟨q, hb, e⟩).2.2
        | some o' =>
          have := S₁.F.keep _ _ q
          rw [this] at e; cases e
          exact S'.F.keep _ _ q
      refine ⟨items.length - (j + 1), by omega, j + 1, h', tk', m', vN', vO', rfl, by omega, rfl, ?_, S', fun b o g => ⟨neI b o g, v' b o (v1 b o (neI b o g) (v0 b o g).2)⟩, hI' _ (fun b o q => ⟨q.1, v' b o q.2⟩) fun b o e g => ⟨ge1 b e, g⟩⟩
      refine W.frame _ { s with heap := h₁, toks := tk₁ } h' tk' hSt₁ htk fun b hb o e => hold b o e ?_
      rcases hfe b hb with rfl | rfl
      · exact nI
      · exact FI.mem
    · obtain rfl : j = items.length := by omega
      refine W.done _ _ _ hSt fun s₁ hM => ?_
      obtain ⟨h₁, g₁, dr₁, tk₁, os₁⟩ := s₁
      obtain rfl : g₁ = s.gens := hM.gens
      obtain rfl : dr₁ = s.drawn := hM.drawn
      obtain rfl : os₁ = s.os := hM.os
      have kb : ∀ b o, b ≠ I → h.get? b = some o → h₁.get? b = some o := fun b o hb e => hM.heap b o (by simpa using hb) e
      obtain ⟨S₁, v1⟩ := S.except gI nI kb
      exact wpAny_pure (fin h₁ tk₁ m vN vO (fun b o => b ≠ I ∧ gv hG L h₁ b o) S₁ (fun b o q => q.2) (fun b o g => ⟨neI b o g, v1 b o (neI b o g) (v0 b o g).2⟩) (hmono _ _ _ _ _ _ (fun b o q => ⟨q.1, v1 b o q.1 q.2⟩) hInv))
  · exact ⟨0, h₂, tk₂, m₀, vN₀, vO₀, rfl, Nat.zero_le _, rfl, hst, S₀.keeps hk₂, fun b o g => ⟨neI b o g, gv_keeps hk₂ b o g⟩, hmono _ _ _ _ _ _ (fun b o g => ⟨neI b o g, gv_keeps hk₂ b o g⟩) hI0⟩
end
end Mine
end
/-! part T10 -/
section
open PySem PySem.W PyProof.Rows PySem.Spec PySem.Calls
set_option maxRecDepth 100000
set_option maxHeartbeats 1000000
namespace Mine
section
variable {prog : Program} {w : World} {A : Around} {hG : Heap} {L : Nat} {m : Str → Option Value} {s : Shared} {E : Value → Shared → Prop} {vT vN vO vH vA : Option Value} {ps : Array Value} {a b : Addr}
theorem LSt.sameL {h h' : Heap} {m' : Str → Option Value} (S : LSt hG L m vT vN vO vH vA ps h) (hs : Heap.SameBut L h h') (n : h'.Ns L m') : LSt hG L m' vT vN vO vH vA ps h' ∧ vle (gv hG L h) (gv hG L h') := by
  have k : ∀ b o, b ≠ L → h.get? b = some o → h'.get? b = some o := fun b o hb e => hs.extBut b o hb e
  have ck : ∀ i v, CellAt h (L + (i + 1)) v → CellAt h' (L + (i + 1)) v := fun i v ⟨o, e, d⟩ => ⟨o, k _ _ (ne_add L i) e, d⟩
  exact ⟨⟨⟨n, fun b o e => k b o (Nat.ne_of_lt (Nat.lt_of_lt_of_le (Heap.lt_size e) S.F.above)) (S.F.keep b o e), S.F.above⟩, ck 0 _ S.tree, ck 1 _ S.names, ck 2 _ S.told, ck 3 _ S.there, ck 4 _ S.again, k _ _ S.l194 S.tab, S.g194, S.lt194⟩,
    fun a o e => ⟨e.1, e.2.1, k a o (fun q => e.2.1 (by rw [q]; exact .head _)) e.2.2⟩⟩
theorem law_store {env : Env} {x : Str} {v : Value} {Q : Unit → Shared → Prop} (hl : env.kindOf x = some .local) (hL : env.locals = L) (hp : (env.scope.kind == .class || (env.scope.kind == .module && env.locals != env.globals)) = false) (S : LSt hG L m vT vN vO vH vA ps s.heap)
    (h : ∀ h', LSt hG L (fun y => if y = x then some v else m y) vT vN vO vH vA ps h' → vle (gv hG L s.heap) (gv hG L h') → Q () { s with heap := h', toks := s.toks + 1 }) : wpAny (model prog w) A (storeName env x v) Q E s := by
  refine wpAny_storeName_local hl (hL ▸ S.F.ns) (fun h' n hs => ?_) hp
  rw [hL] at n hs
  obtain ⟨S', v'⟩ := S.sameL hs n
  exact h h' S' v'
theorem law_fresh {h h' : Heap} {Z X : List (Addr × Obj)} {D : Addr} {o : Obj} (hZ : ∀ a o, gv hG L h a o ↔ (a, o) ∈ Z) (g : gv hG L h' D o) (hlt : ∀ p ∈ X, p.1 < D) (hs : ∀ p ∈ Z, p ∈ X) : h.get? D = none := by
  cases q : h.get? D with
  | none => rfl
  | some o' => exact absurd (hlt _ (hs _ ((hZ D o').mp ⟨g.1, g.2.1, q⟩))) (Nat.lt_irrefl _)
theorem law_old {h h' : Heap} {D : Addr} (v : vle (gv hG L h) (gv hG L h')) (g : hG.get? D = none ∧ D ∉ mutL L) (e : h'.get? D = none) : h.get? D = none := by
  cases q : h.get? D with
  | none => rfl
  | some o' => have := (v D o' ⟨g.1, g.2, q⟩).2.2; rw [e] at this; cases this
theorem law_addF {Q : Value → Shared → Prop} (S : LSt hG L m vT vN vO vH vA ps s.heap) {its its2 : Array Value} {n n2 : Nat} (ga : gv hG L s.heap a (listOf its n)) (gb : gv hG L s.heap b (listOf its2 n2)) (hz : its.size + its2.size ≤ 10000)
    (h : ∀ D h', LSt hG L m vT vN vO vH vA ps h' → vle (gv hG L s.heap) (gv hG L h') → s.heap.get? D = none → gv hG L h' D (listOf (its.toList ++ its2.toList).toArray 0) → Q (.ref D) { s with heap := h' }) : wpAny (model prog w) A (binaryOp .Add (.ref a) (.ref b)) Q E s := by
  obtain ⟨o5, o4, o3, o2, o1, Z, d1, d2, d3, d4, d5, Nw, hZ⟩ := S.news
  refine kmk_add_lit S.F Nw ⟨_, ga.2.2, rfl, _, rfl⟩ ⟨_, gb.2.2, rfl, _, rfl⟩ rfl (fun D h' F' N' hlt => ?_) (by rw [sizeLine_eq]; simp only [Array.length_toList]; omega)
  have v' := gv_step N' (fun a o g => by have := (hZ a o).mp g; simp only [List.mem_cons, this, or_true])
  have gD := gv_new N' (.head _) (hlt _ (.head _)) (hlt (194, tabObj ps) (by k_mem))
  exact h D h' (.of_news F' N' (by k_mem) (by k_mem) (by k_mem) (by k_mem) (by k_mem) (by k_mem) d1 d2 d3 d4 d5 S.lt194) v' (law_fresh hZ gD hlt fun p hp => by simp only [List.mem_cons, hp, or_true]) gD
theorem law_listT {Q : Value → Shared → Prop} (S : LSt hG L m vT vN vO vH vA ps s.heap) {items : List Value} (tb : TupV (gv hG L s.heap) b items.toArray) (hz : items.length ≤ 10000)
    (h : ∀ D c h', LSt hG L m vT vN vO vH vA ps h' → vle (gv hG L s.heap) (gv hG L h') → s.heap.get? D = none → gv hG L h' D (listOf items.toArray c) → Q (.ref D) { s with heap := h' }) : wpAny (model prog w) A (call (.type "list") [.ref b]) Q E s := by
  obtain ⟨o5, o4, o3, o2, o1, Z, d1, d2, d3, d4, d5, Nw, hZ⟩ := S.news
  obtain ⟨o, g, c, n, e⟩ := tb
  refine list_copyKT S.F Nw ⟨o, g.2.2, c, n, e⟩ (fun D c h' F' N' hlt => ?_) (by rw [sizeLine_eq]; simp; omega)
  have v' := gv_step N' (fun a o g => by have := (hZ a o).mp g; simp only [List.mem_cons, this, or_true])
  have gD := gv_new N' (.head _) (hlt _ (.head _)) (hlt (194, tabObj ps) (by k_mem))
  exact h D c h' (.of_news F' N' (by k_mem) (by k_mem) (by k_mem) (by k_mem) (by k_mem) (by k_mem) d1 d2 d3 d4 d5 S.lt194) v' (law_fresh hZ gD hlt fun p hp => by simp only [List.mem_cons, hp, or_true]) gD
end
end Mine
end
/-! part L8 -/
section
open PySem PySem.W PyProof.Rows PySem.Spec PySem.Calls
set_option maxRecDepth 100000
set_option maxHeartbeats 4000000
namespace Mine
def openR (ws : List Str) : Row → List Row
  | .tok t v => [.tok t v]
  | .tree n ks => if ws.any (fun y => y == n) then ks else [.tree n ks]
def opn (ws : List Str) : Row → Bool
  | .tok _ _ => false
  | .tree n _ => ws.any fun y => y == n
theorem get_none_keeps {h h' : Heap} {b : Addr} (k : ∀ b o, h.get? b = some o → h'.get? b = some o) (e : h'.get? b = none) : h.get? b = none := by
  cases q : h.get? b with
  | none => rfl
  | some o' => have := k _ _ q; rw [e] at this; cases this
mutual
theorem RV.tup {G : View} : ∀ {v r}, RV G v r → RV (fun b o => G b o ∧ o.cls = .type "tuple") v r
  | _, _, .tok ⟨o, g, c, n, d⟩ => .tok ⟨o, ⟨g, c⟩, c, n, d⟩
  | _, _, .tree ⟨o, g, c, n, d⟩ ⟨o', g', c', n', d'⟩ k => .tree ⟨o, ⟨g, c⟩, c, n, d⟩ ⟨o', ⟨g', c'⟩, c', n', d'⟩ k.tup
theorem RVs.tup {G : View} : ∀ {v r}, RVs G v r → RVs (fun b o => G b o ∧ o.cls = .type "tuple") v r
  | _, _, .nil => .nil
  | _, _, .cons a b => .cons a.tup b.tup
end
theorem row_parts {G : View} {ra : Addr} {rnm : Str} {rks : List Row} (h : RV G (.ref ra) (.tree rnm rks)) : ∃ (rb : Nat) (rvs : List Value) (dd : Option Addr) (sl : Array (Option Value)) (n : Nat) (t0 t1 : Tok), G ra { cls := .type "tuple", dict := dd, data := .seq #[.str "tree" t0, .str rnm t1, .ref rb] n, slots := sl } ∧ TupV G rb rvs.toArray ∧ RVs G rvs rks := by
  cases h with
  | tree g1 g2 g3 =>
    obtain ⟨⟨cls, dd, data, sl⟩, g, c, n, d⟩ := g1
    simp only at c d
    subst c d
    exact ⟨_, _, _, _, _, _, _, g, g2, g3⟩
theorem filter_none (ws : List Str) : ∀ l : List Row, rowsEq (l.filter (opn ws)) [] = !l.any (opn ws)
  | [] => by simp [rowsEq]
  | r :: l => by
    rw [List.filter_cons, List.any_cons]
    cases h : opn ws r with
    | true => simp [rowsEq]
    | false => simpa using filter_none ws l
theorem TVs_openL {G : View} (ws : List Str) : ∀ {ks : List N}, TVs G ks → TVs G (openL ws ks)
  | [], _ => .nil
  | k :: ks, .cons a b => by
    have ih := TVs_openL ws b
    show TVs G ((if openK ws k then k.kids else [k]) ++ openL ws ks)
    split
    · cases a with
      | tok => exact ih
      | tree _ _ _ _ e => exact e.append ih
    · exact .cons a ih
theorem rows_openL (ws : List Str) : ∀ ks : List N, N.rows (openL ws ks) = (N.rows ks).flatMap (openR ws)
  | [] => rfl
  | k :: ks => by
    have ih := rows_openL ws ks
    show N.rows ((if openK ws k then k.kids else [k]) ++ openL ws ks) = _
    rw [rows_append, ih]
    simp only [N.rows, List.flatMap_cons]
    congr 1
    cases k with
    | tok => rfl
    | tree a da l nm kk =>
      simp only [openK, N.row, openR, N.kids]
      split <;> rename_i h <;> simp only [h] <;> rfl
theorem any_openL (ws : List Str) : ∀ ks : List N, ks.any (openK ws) = (N.rows ks).any (opn ws)
  | [] => rfl
  | k :: ks => by
    rw [List.any_cons, any_openL ws ks]
    simp only [N.rows, List.any_cons]
    cases k <;> rfl
theorem openR_sizes (ws : List Str) : ∀ l : List Row, Row.sizes (l.flatMap (openR ws)) ≤ Row.sizes l
  | [] => Nat.le_refl _
  | .tok t v :: l => by have := openR_sizes ws l; simp only [List.flatMap_cons, openR, sizes_app, Row.sizes, Row.size]; omega
  | .tree n ks :: l => by
    have := openR_sizes ws l
    simp only [List.flatMap_cons, openR, sizes_app, Row.sizes, Row.size]
    split
    · omega
    · simp only [Row.sizes, Row.size]; omega
theorem openR_ok (ws : List Str) : ∀ l : List Row, Row.oks l = true → Row.oks (l.flatMap (openR ws)) = true
  | [], _ => rfl
  | .tok t v :: l, h => by
    simp only [Row.oks, Bool.and_eq_true] at h
    have := openR_ok ws l h.2
    simp only [List.flatMap_cons, openR, oks_app, Row.oks, this, h.1, Bool.and_true]
  | .tree n ks :: l, h => by
    simp only [Row.oks, Row.ok, Bool.and_eq_true] at h
    have := openR_ok ws l h.2
    simp only [List.flatMap_cons, openR, oks_app, this, Bool.and_true]
    split
    · exact h.1.2
    · simp only [Row.oks, Row.ok, h.1.1, h.1.2, Bool.and_true]
theorem openR_len (ws : List Str) : ∀ l : List Row, (l.flatMap (openR ws)).length ≤ Row.sizes l
  | [] => Nat.zero_le _
  | .tok t v :: l => by have := openR_len ws l; simp only [List.flatMap_cons, openR, List.length_append, List.length_cons, List.length_nil, Row.sizes, Row.size]; omega
  | .tree n ks :: l => by
    have := openR_len ws l
    have := len_sizes ks
    simp only [List.flatMap_cons, openR, List.length_append, Row.sizes, Row.size]
    split
    · omega
    · simp only [List.length_cons, List.length_nil]; omega
section
local macro_rules | `(tactic| tm_at "w eval IfExp") => `(tactic| ((with_reducible show wpAny _ _ (eval (PySem.Expr.IfExp (PySem.Expr.Compare _ _ _ _) _ _ _) _) _ _ _); refine stop_here ?_))
local macro_rules | `(tactic| tm_at "w call type:list") => `(tactic| refine stop_here ?_)
local macro_rules | `(tactic| tm_at "w compareOp In") => `(tactic| refine stop_here ?_)
local macro_rules | `(tactic| tm_at "w call ref") => `(tactic| refine stop_here ?_)
local macro_rules | `(tactic| tm_at "w exec For") => `(tactic| refine stop_here ?_)
local macro_rules | `(tactic| tm_at "w Opq") => `(tactic| fail "stop")
local macro_rules | `(tactic| tm_at "my compSF") => `(tactic| (refine ⟨?_⟩; k_dflt (refine' comp1S ?hclos ?hpc ?hcf ?hkind ?hnames ?hx ?_ ?hs; (case hclos => exact rfl); (case hpc => exact fun _ => rfl); (case hcf => exact fun _ => rfl); (case hkind => exact rfl); (case hnames => decide); (case hx => exact rfl); (case hs => exact fun _ => rfl); k_whole)))
local macro_rules | `(tactic| tm_at "w call builtin:len") => `(tactic| ((with_reducible show wpAny _ _ (call _ [Value.ref _]) _ _ _); k_dflt (refine' len_list ?hl ?hfit ?_; (case hl => exact News.isList (by k_asm) (by k_mem)); (case hfit => omega); k_whole)))
local macro_rules | `(tactic| tm_at "w subscriptTail Name Slice ref ref") => `(tactic| ((with_reducible show wpAny _ _ (subscriptTail _ (PySem.Expr.Slice _ _ none _) (Value.ref _) (Value.ref _)) _ _ _); k_dflt (refine' kmk_slice ?F ?N ?l ?p ?q ?_ ?s ?t ?z; (case F => k_asm); (case N => k_asm); (case l => exact News.isList (by k_asm) (by k_mem)); (case p => kmk_part); (case q => kmk_part); (case s => with_unfolding_all rfl); (case t => kmk_pure); (case z => tm_at "my size")); intro D' h' F' N' l1; (try k_lt l1); (try k_sweep)))
local macro_rules | `(tactic| tm_at "w binaryOp Add ref ref") => `(tactic| ((with_reducible show wpAny _ _ (binaryOp _ (Value.ref _) (Value.ref _)) _ _ _); k_dflt (refine' kmk_add_lit ?F ?N ?a ?b ?e ?_ ?z; (case F => k_asm); (case N => k_asm); (case a => exact News.isList (by k_asm) (by k_mem)); (case b => exact News.isList (by k_asm) (by k_mem)); (case e => exact rfl); (case z => (simp only [Array.length_toList, List.length_cons, List.length_nil]; rw [sizeLine_eq]; first | omega | (refine Nat.le_trans (Nat.add_le_add_right (slicePick_size_le _ _ _ _) _) ?_; omega)))); intro D' h' F' N' l1; (try k_lt l1); (try k_sweep)))
local macro_rules | `(tactic| tm_at "w call type:tuple") => `(tactic| ((with_reducible show wpAny _ _ (call (Value.type _) [Value.ref _]) _ _ _); k_dflt (refine' kde_tupleOf ?k1 ?k2 ?k3 ?k4 ?k5 ?_; (case k1 => k_asm); (case k2 => k_asm); (case k3 => exact News.isList (by k_asm) (by k_mem)); (case k4 => tm_at "my size"); (case k5 => exact rfl); k_whole); intro D' h' F' N' l1; (try k_lt l1); (try k_sweep)))
local macro_rules | `(tactic| tm_at "w subscriptTail") => `(tactic| ((with_reducible show wpAny _ _ (subscriptTail _ _ (Value.ref _) (Value.int _ _)) _ _ _); (try dsimp only); k_dflt (refine' menu2 ?k1 ?k2 ?k3 ?k4 ?_ ?k5 ?k6; (case k1 => k_asm); (case k2 => k_mem); (case k3 => omega); (case k4 => omega); (case k5 => with_unfolding_all rfl); (case k6 => kmk_pure); k_whole); intro tt))
local macro_rules | `(tactic| tm_at "w call builtin:min") => `(tactic| ((with_reducible show wpAny _ _ (call _ [Value.int _ _, Value.int _ _]) _ _ _); (rename Fr _ _ _ _ => kF); (rename News _ _ _ _ => kN); k_dflt (refine' min2_N ?hh kF kN ?_; (case hh => first | assumption | exact rfl); k_whole); intro h' t' k' F' N'; clear kN kF))
local macro_rules | `(tactic| tm_at "w subscriptTail List") => `(tactic| k_dflt (refine kba_turn (value' := PySem.Expr.Name (PySem.Str.ofString "_") ⟨0, 0, 0, 0⟩) (fun _ => rfl) ?_))
local macro_rules | `(tactic| tm_at "w compareOp NotEq ref ref") => `(tactic| refine stop_here ?_)
local macro_rules | `(tactic| tm_at "w binaryOp Add ref ref") => `(tactic| ((with_reducible show wpAny _ _ (binaryOp _ (Value.ref _) (Value.ref _)) _ _ _); refine stop_here ?_))
variable {w : World} {p : Program} {loose : List Str} {mean : ExcName → Option Value} {mg mb : Str → Option Value} {A : Around} {hG : Heap} {L : Nat} {m : Str → Option Value} {s : Shared} {E : Value → Shared → Prop} {Q : Flow → Shared → Prop}
theorem st8 (G : LG w p loose mean mg mb A hG) {vO : Option Value} {t1 t2 : N} {ra sa nl nv : Nat} {nsv : List Value} {xs ys : List Int} (hrow : m "row" = some (.ref ra)) (hnum : m "numbers" = some (.ref nl))
    (P : Pu xs ys t1 t2) (x : Fx (gv hG L s.heap) t1 t2 ra sa) (gn : gv hG L s.heap nl (listOf nsv.toArray nv)) (hni : IntsAre nsv xs)
    (S : LSt hG L m (some t1.val) none none none none #[] s.heap) : ∀ oc od fd osl, (hd.heap_39 w.params).lookup 197 = some ⟨oc, od, .func fd, osl⟩ → ∀ rest,
    (∀ h' tk' m' vN vO, LSt hG L m' (some t1.val) vN vO none none #[] h' → vle (gv hG L s.heap) (gv hG L h') → (∀ x, x ≠ ("opened" : Str) → x ≠ ("children" : Str) → x ≠ ("due" : Str) → x ≠ ("below" : Str) → m' x = m x) →
      wpAny (model PySem.Challenge.rw_fi0013_01.row.prog w) (A.deeper (lawEnv fd L)) (execs rest (lawEnv fd L)) Q E { s with heap := h', toks := tk' }) →
    wpAny (model PySem.Challenge.rw_fi0013_01.row.prog w) (A.deeper (lawEnv fd L)) (execs (stmtAt fd 8 :: rest) (lawEnv fd L)) Q E s := by
  have G0 := G
  obtain ⟨hd0, dep, frs, gds, un⟩ := A
  obtain ⟨X, T, B, hh, hdp, hun, C⟩ := G
  obtain rfl : frs = some [] := B.stack
  obtain rfl : hd0 = none := hh
  dsimp only at hdp hun
  revert X; k_fill; intro X
  (with_unfolding_all k_dflt refine' (fn_case ?e ?h))
  case e => k_is
  case h =>
  intro rest K
  conv => arg 3; arg 1; arg 1; whnf
  dsimp only [lawEnv] at K ⊢
  obtain ⟨o5, o4, o3, o2, o1, Z, d1, d2, d3, d4, d5, Nw, hZ⟩ := S.news
  have h194 := S.lt194
  have F := S.F
  rw [upd_self hrow, upd_self hnum] at F
  (try k_fold)
  refine wpAny_execs_cons ?_
  with_reducible refine law_for (hG := hG) (L := L) (vT := some t1.val) (vH := none) (vA := none) (ps := #[]) ?_ ?_
  case' refine_2 => exact fun _ => rfl
  k_steps
  rename_i l1 h1 e1 l2 h2 e2 l3 h3 e3 D h4 F4 N4 e4
  rw [← upd_self hnum, ← upd_self hrow] at F4
  have S4 := LSt.of_news F4 N4 (by k_mem) (by k_mem) (by k_mem) (by k_mem) (by k_mem) (by k_mem) d1 d2 d3 d4 d5 h194
  have v04 := gv_step N4 (fun a o g => by have := (hZ a o).mp g; simp only [List.mem_cons, this, or_true])
  have gA1 := gv_new N4 (D := l1) (by k_mem) e1.1 e1.2.2.2.2.2.1
  have gA2 := gv_new N4 (D := l2) (by k_mem) e2.2.1 e2.2.2.2.2.2.2.1
  have gA3 := gv_new N4 (D := l3) (by k_mem) e3.2.2.1 e3.2.2.2.2.2.2.2.1
  have gD := gv_new N4 (D := D) (by k_mem) e4.2.2.2.1 e4.2.2.2.2.2.2.2.2.1
  refine ⟨D, [.ref l1, .ref l2, .ref l3], rfl, ⟨rfl, ⟨_, gD.2.2, rfl, _, rfl⟩, gD.2.1, m, none, none, S4, fun _ m' _ _ _ => ∀ y : Str, y ≠ ("opened" : Str) → y ≠ ("children" : Str) → y ≠ ("due" : Str) → y ≠ ("below" : Str) → m' y = m y, fun _ _ _ _ _ => rfl, fun _ _ _ _ _ _ _ h => h, ?_, ?_⟩⟩
  · intro j v h₂ tk₂ V m' vN vO E' hj S₂ vV v4V hInv
    have v42 : vle (gv hG L h4) (gv hG L h₂) := fun a o g => vV a o (v4V a o g)
    obtain ⟨lj, nvs, ws, cn, rfl, gl, hst, hws⟩ : ∃ (lj : Nat) (nvs : List Value) (ws : List Str) (c : Nat), v = .ref lj ∧ gv hG L h₂ lj (listOf nvs.toArray c) ∧ StrsAre nvs ws ∧ ((∃ x, ws = [x]) ∨ ws = [("p" : Str), ("pq" : Str)]) := by
      match j, hj with
      | 0, hj => cases hj; exact ⟨l1, _, [("p" : Str)], 0, rfl, v42 _ _ gA1, .cons _ _ .nil, .inl ⟨_, rfl⟩⟩
      | 1, hj => cases hj; exact ⟨l2, _, [("pq" : Str)], 0, rfl, v42 _ _ gA2, .cons _ _ .nil, .inl ⟨_, rfl⟩⟩
      | 2, hj => cases hj; exact ⟨l3, _, [("p" : Str), ("pq" : Str)], 0, rfl, v42 _ _ gA3, .cons _ _ (.cons _ _ .nil), .inr rfl⟩
      | j + 3, hj => simp at hj
    have hrow' : m' "row" = some (.ref ra) := by rw [hInv _ (by decide) (by decide) (by decide) (by decide), hrow]
    have hnum' : m' "numbers" = some (.ref nl) := by rw [hInv _ (by decide) (by decide) (by decide) (by decide), hnum]
    have v02 : vle (gv hG L s.heap) (gv hG L h₂) := fun a o g => v42 a o (v04 a o g)
    clear N4 F4 hZ d1 d2 d3 d4 d5 hj
    obtain ⟨o5, o4, o3, o2, o1, Z, d1, d2, d3, d4, d5, Nw, hZ⟩ := S₂.news
    have z2 := zne hZ (L + 1 + 1) (by simp [mutL])
    have F := S₂.F
    rw [upd_self hrow', upd_self hnum'] at F
    k_steps
    rename Fr hG _ _ _ => F5
    rename News hG _ _ _ => N5
    rename _ = PySem.Data.cell (some (Value.ref _)) => d2'
    rw [← upd_self hnum', ← upd_self hrow'] at F5
    have S5 := LSt.of_news F5 N5 (by k_mem) (by k_mem) (by k_mem) (by k_mem) (by k_mem) (by k_mem) d1 d2' d3 d4 d5 h194
    have v25 := gv_step N5 (fun a o g => by have := (hZ a o).mp g; simp only [List.mem_cons, this, or_true])
    have v05 := fun a o g => v25 a o (v02 a o g)
    have gl5 := v25 _ _ gl
    have xl2 := P.x2
    refine ⟨wpAny_mono (built_spec _ hG _ _ nl nsv xs _ (G0.amb F5 rfl rfl) ⟨_, (v05 _ _ gn).2.2, rfl, _, rfl⟩ hni (by omega) (by show dep + 1 + _ < _; omega) (by show un + 3 + _ < _; omega)) (fun y s₁ h₁ => ?_) fun _ _ e => e⟩
    obtain ⟨⟨h6, tk6, rfl, hk6⟩, t0, rfl, i0, tv0, r0, n0⟩ := h₁
    dsimp only at hk6 tv0
    have S6 := S5.keeps hk6
    have v56 := gv_keeps (hG := hG) (L := L) hk6
    cases t0 with
    | tok => cases i0
    | tree a0 b0 l0 nm0 k0 =>
    obtain ⟨_, _, _, _, _, _, _, it0, ep0, ho0f, hod0f, hl0f, hit0, hk0f⟩ := tv0.invG
    have f2 : ∀ b o, gv hG L h₂ b o → b ≠ l0 := fun b o g q => by
      have h := (v25 b o g).2.2
      rw [q, hl0f.1] at h; cases h
    have ho0 := S5.frv _ _ ho0f
    have hod0 := S5.frv _ _ hod0f
    have hl0 := S5.frv _ _ hl0f
    clear hZ d1 d2 d3 d4 d5 N5 F5
    obtain ⟨o5, o4, o3, o2, o1, Z, d1, d2, d3, d4, d5, Nw, hZ⟩ := S6.news
    have F := S6.F
    rw [upd_self hrow', upd_self hnum'] at F
    have N6 := News.expose ho0 (News.expose hod0 (News.expose hl0 Nw))
    have hk0z : it0.size ≤ 13 := by
      have h1 := planned_size xs
      rw [← r0] at h1
      have h2 := len_sizes (N.rows k0); rw [rows_length] at h2
      simp only [N.row, Row.size] at h1
      have : it0.size = k0.length := by rw [← Array.length_toList, hit0, List.length_map]
      omega
    dsimp only
    k_steps
    rename Fr hG _ _ _ => F7
    rename News hG _ _ _ => N7
    rename_i chl _ lc _ dul _ ld h7
    have S7 := LSt.of_news F7 N7 (by k_mem) (by k_mem) (by k_mem) (by k_mem) (by k_mem) (by k_mem) d1 d2 d3 d4 d5 h194
    have v67 := gv_step N7 (fun a o g => by have := (hZ a o).mp g; simp only [List.mem_cons, this, or_true])
    have gch := gv_new N7 (D := chl) (by k_mem) lc.2.2.2.1 lc.2.2.2.2.2.2.2.2.1
    have gdu := gv_new N7 (D := dul) (by k_mem) ld.2.2.2.2.1 ld.2.2.2.2.2.2.2.2.2.1
    rw [slicePick_all] at gch
    have v57 := fun a o g => v67 a o (v56 a o g)
    have x7 := x.mono (fun a o g => v57 a o (v05 a o g))
    obtain ⟨rb, rvs, rks, rnm, erow, trow, tkids, hrks⟩ : ∃ (rb : Nat) (rvs : List Value) (rks : List Row) (rnm : Str), t1.row = .tree rnm rks ∧ (∃ o t0 t1' n, gv hG L h7 ra o ∧ o.cls = .type "tuple" ∧ o.data = .seq #[.str "tree" t0, .str rnm t1', .ref rb] n) ∧ TupV (gv hG L h7) rb rvs.toArray ∧ RVs (gv hG L h7) rvs rks := by
      have hr := x7.rr
      have hi := P.i1
      generalize e : t1.row = rr at hr
      cases hr with
      | tok => cases t1 with
        | tok => cases hi
        | tree => simp [N.row] at e
      | tree g1 g2 g3 =>
        obtain ⟨o, g, c, n, d⟩ := g1
        exact ⟨_, _, _, _, rfl, ⟨o, _, _, n, g, c, d⟩, g2, g3⟩
    obtain ⟨⟨cls, dd, data, sl⟩, rt0, rt1, rn, grow, hrowc, hrowd⟩ := trow
    simp only at hrowc hrowd
    subst hrowc hrowd
    have N8 := News.expose grow N7
    refine ⟨law_for (hG := hG) (L := L) (vT := some t1.val) (vH := none) (vA := none) (ps := #[]) ?_ (fun _ => rfl)⟩
    clear N7
    k_steps
    have hr7 := S7
    obtain ⟨m7, hm7⟩ : ∃ m7 : Str → Option Value, m7 = fun y => if y = ("due" : Str) then some (Value.ref dul) else if y = ("children" : Str) then some (Value.ref chl) else if y = ("opened" : Str) then some (Value.ref a0) else if y = ("row" : Str) then some (Value.ref ra) else if y = ("numbers" : Str) then some (Value.ref nl) else m' y := ⟨_, rfl⟩
    have S8 : LSt hG L m7 (some t1.val) (some (Value.ref lj)) vO none none #[] h7 := by rw [hm7]; exact S7
    have gl7 := v57 _ _ gl5
    have hrl : rvs.length ≤ 13 := by
      have h1 := P.s1
      rw [erow] at h1
      have h2 := len_sizes rks
      simp only [Row.size] at h1
      have := hrks.length
      omega
    refine ⟨rb, rvs, rfl, ⟨rfl, ?_, ?_, m7, _, _, S8, fun j m2 vN2 vO2 V => vN2 = some (.ref lj) ∧ vO2 = vO ∧ (∀ y : Str, y ≠ ("due" : Str) → y ≠ ("below" : Str) → m2 y = m7 y) ∧ ∃ (dl : Nat) (dvs : List Value) (dn : Nat), m2 "due" = some (.ref dl) ∧ V dl (listOf dvs.toArray dn) ∧ RVs V dvs ((rks.take j).flatMap (openR ws)) ∧ dl ≠ l0, ?_, ?_, ?_, ?_⟩⟩
    · obtain ⟨o, g, c, n, d⟩ := tkids
      exact ⟨o, g.2.2, c, n, d⟩
    · obtain ⟨o, g, c, n, d⟩ := tkids
      exact g.2.1
    · exact ⟨rfl, rfl, fun _ _ _ => rfl, dul, [], 0, by rw [hm7]; rfl, gdu, .nil, Nat.ne_of_gt ld.2.2.2.1⟩
    · rintro j m2 vN2 vO2 V V' hle ⟨h1, h2, h3, dl, dvs, dn, h4, h5, h6, h7⟩
      exact ⟨h1, h2, h3, dl, dvs, dn, h4, hle _ _ h5, h6.mono hle, h7⟩
    · rintro j v h₃ tk₃ V3 m2 vN2 vO2 E3 hj S₃ vV3 v73 ⟨rfl, rfl, hm2, dl, dvs, dn, hdue, gdl, hdr, _⟩
      obtain ⟨rj, hrj, hrv⟩ := hrks.get hj
      have v7h : vle (gv hG L h7) (gv hG L h₃) := fun a o g => vV3 a o (v73 a o g)
      have gdl3 := vV3 _ _ gdl
      have gl3 := v7h _ _ gl7
      clear hZ d1 d2 d3 d4 d5 N8 F7
      obtain ⟨o5, o4, o3, o2, o1, Z, d1, d2, d3, d4, d5, Nw, hZ⟩ := S₃.news
      have F := S₃.F
      rw [upd_self hdue] at F
      have hdl : dvs.length ≤ 5000 := by
        have h1 := hdr.length
        have h2 := openR_len ws rks
        have h3 : ((rks.take j).flatMap (openR ws)).length ≤ (rks.flatMap (openR ws)).length := by
          have := congrArg (fun l => (l.flatMap (openR ws)).length) (List.take_append_drop j rks)
          simp only [List.flatMap_append, List.length_append] at this
          omega
        have h4 := P.s1
        rw [erow] at h4
        simp only [Row.size] at h4
        omega
      have hne5 : ∀ {D : Nat}, h₃.get? D = none → D ≠ l0 := fun e q => by
        have := (v7h _ _ (v67 _ _ hl0)).2.2
        rw [← q, e] at this; cases this
      have em2 : ∀ (v : Value) (D : Nat), (fun y : Str => if y = ("due" : Str) then some (Value.ref D) else if y = ("below" : Str) then some v else if y = ("due" : Str) then some (Value.ref dl) else m2 y) = (fun y : Str => if y = ("due" : Str) then some (Value.ref D) else if y = ("below" : Str) then some v else m2 y) := fun v D => by
        funext y
        by_cases e1 : y = ("due" : Str)
        · rw [if_pos e1, if_pos e1]
        · rw [if_neg e1, if_neg e1, if_neg e1]
      have hsm : ∀ (v : Value) (D : Nat) (y : Str), y ≠ ("due" : Str) → y ≠ ("below" : Str) → (fun y : Str => if y = ("due" : Str) then some (Value.ref D) else if y = ("below" : Str) then some v else m2 y) y = m7 y := fun v D y e1 e2 => by
        show (if y = ("due" : Str) then some (Value.ref D) else if y = ("below" : Str) then some v else m2 y) = m7 y
        rw [if_neg e1, if_neg e2]; exact hm2 y e1 e2
      cases hrv with
      | @tok a t0 t1' t2' ty vv htv =>
        have hself : RV V3 (.ref a) (.tok ty vv) := RV.mono v73 (.tok htv)
        obtain ⟨⟨cls, dd, data, sl⟩, gb, hbc, bn, hbd⟩ := htv
        simp only at hbc hbd
        subst hbc hbd
        have N9 := News.expose (v7h _ _ gb) (News.expose gl3 Nw)
        k_steps
        rename Fr hG _ _ _ => F10
        rename News hG _ _ _ => N10
        rename (a < _ ∧ _) => la
        have S10 := LSt.of_news F10 N10 (by k_mem) (by k_mem) (by k_mem) (by k_mem) (by k_mem) (by k_mem) d1 d2 d3 d4 d5 h194
        have v310 := gv_step N10 (fun a o g => by have := (hZ a o).mp g; simp only [List.mem_cons, this, or_true])
        have gq := gv_new N10 (.head _) la.2.2.1 la.2.2.2.2.2.2.2.1
        refine ⟨law_addF (its := dvs.toArray) (its2 := [Value.ref a].toArray) S10 (v310 _ _ gdl3) gq (by simp; omega) fun D5 h11 S11 v1011 fD5 gD5 => ?_⟩
        refine law_store (L := L) rfl rfl rfl S11 fun h12 S12 v1112 => ?_
        rw [em2] at S12
        refine wpAny_pure ⟨rfl, h12, _, _, _, _, rfl, S12, fun b o g => v1112 b o (v1011 b o (v310 b o g)), fun V' hV hnew => ⟨rfl, rfl, hsm _ _, D5, dvs ++ [.ref a], 0, rfl, hnew _ _ (law_old v310 ⟨gD5.1, gD5.2.1⟩ fD5) ?_, ?_, hne5 (law_old v310 ⟨gD5.1, gD5.2.1⟩ fD5)⟩⟩
        · have := v1112 _ _ gD5
          simpa using this
        · rw [take_succ_get hrj, List.flatMap_append]
          exact (hdr.mono hV).append (by simpa [openR] using RVs.cons (hself.mono hV) .nil)
      | @tree a b t0 t1' nm kvs ks htv htk hks =>
        have hself : RV V3 (.ref a) (.tree nm ks) := RV.mono v73 (.tree htv htk hks)
        obtain ⟨⟨cls, dd, data, sl⟩, gb, hbc, bn, hbd⟩ := htv
        simp only at hbc hbd
        subst hbc hbd
        have N9 := News.expose (v7h _ _ gb) (News.expose gl3 Nw)
        k_steps
        · rename (_ = true) => hin
          rename Fr hG _ _ _ => F10
          rename News hG _ _ _ => N10
          have S10 := LSt.of_news F10 N10 (by k_mem) (by k_mem) (by k_mem) (by k_mem) (by k_mem) (by k_mem) d1 d2 d3 d4 d5 h194
          have v310 := gv_step N10 (fun a o g => by have := (hZ a o).mp g; simp only [List.mem_cons, this, or_true])
          have hkl : kvs.length ≤ 13 := by
            have h1 := hks.length
            have h2 := len_sizes ks
            have h3 := size_mem (List.mem_of_getElem? hrj)
            have h4 := P.s1
            rw [erow] at h4
            simp only [Row.size] at h3 h4
            omega
          refine ⟨law_listT S10 (htk.mono fun b o g => v310 b o (v7h b o g)) (by omega) fun Dk ck h10 S10' v10' fDk gDk => ?_⟩
          have F11 := S10'.F
          have v310' := fun b o g => v10' b o (v310 b o g)
          refine law_addF (its := dvs.toArray) (its2 := kvs.toArray) S10' (v310' _ _ gdl3) gDk (by simp; omega) fun D5 h11 S11 v1011 fD5 gD5 => ?_
          refine law_store (L := L) rfl rfl rfl S11 fun h12 S12 v1112 => ?_
          rw [em2] at S12
          refine wpAny_pure ⟨rfl, h12, _, _, _, _, rfl, S12, fun b o g => v1112 b o (v1011 b o (v310' b o g)), fun V' hV hnew => ⟨rfl, rfl, hsm _ _, D5, dvs ++ kvs, 0, rfl, hnew _ _ (law_old v310' ⟨gD5.1, gD5.2.1⟩ fD5) ?_, ?_, hne5 (law_old v310' ⟨gD5.1, gD5.2.1⟩ fD5)⟩⟩
          · have := v1112 _ _ gD5
            simpa using this
          · rw [take_succ_get hrj, List.flatMap_append]
            exact (hdr.mono hV).append (by simpa [openR, hin] using hks.mono fun b o g => hV b o (v73 b o g))
        · rename (_ = false) => hin
          rename Fr hG _ _ _ => F10
          rename News hG _ _ _ => N10
          rename (a < _ ∧ _) => la
          have S10 := LSt.of_news F10 N10 (by k_mem) (by k_mem) (by k_mem) (by k_mem) (by k_mem) (by k_mem) d1 d2 d3 d4 d5 h194
          have v310 := gv_step N10 (fun a o g => by have := (hZ a o).mp g; simp only [List.mem_cons, this, or_true])
          have gq := gv_new N10 (.head _) la.2.2.1 la.2.2.2.2.2.2.2.1
          refine ⟨law_addF (its := dvs.toArray) (its2 := [Value.ref a].toArray) S10 (v310 _ _ gdl3) gq (by simp; omega) fun D5 h11 S11 v1011 fD5 gD5 => ?_⟩
          refine law_store (L := L) rfl rfl rfl S11 fun h12 S12 v1112 => ?_
          rw [em2] at S12
          refine wpAny_pure ⟨rfl, h12, _, _, _, _, rfl, S12, fun b o g => v1112 b o (v1011 b o (v310 b o g)), fun V' hV hnew => ⟨rfl, rfl, hsm _ _, D5, dvs ++ [.ref a], 0, rfl, hnew _ _ (law_old v310 ⟨gD5.1, gD5.2.1⟩ fD5) ?_, ?_, hne5 (law_old v310 ⟨gD5.1, gD5.2.1⟩ fD5)⟩⟩
          · have := v1112 _ _ gD5
            simpa using this
          · rw [take_succ_get hrj, List.flatMap_append]
            exact (hdr.mono hV).append (by simpa [openR, hin] using RVs.cons (hself.mono hV) .nil)
    · rintro h8 tk8 m8 vN8 vO8 V8 S8' vV8 v7V8 ⟨rfl, rfl, hm8, dl, dvs, dn, hdue, gdl, hdr, hdl0⟩
      rw [List.take_of_length_le (by have := hrks.length; omega)] at hdr
      have v78 : vle (gv hG L h7) (gv hG L h8) := fun a o g => vV8 a o (v7V8 a o g)
      have hop8 : m8 "opened" = some (.ref a0) := by rw [hm8 _ (by decide) (by decide), hm7]; rfl
      have hch8 : m8 "children" = some (.ref chl) := by rw [hm8 _ (by decide) (by decide), hm7]; rfl
      have hrow8 : m8 "row" = some (.ref ra) := by rw [hm8 _ (by decide) (by decide), hm7]; rfl
      have gdl8 := vV8 _ _ gdl
      have hdr8 := hdr.mono vV8
      have v68 : vle (gv hG L h6) (gv hG L h8) := fun a o g => v78 a o (v67 a o g)
      have gl8 := v78 _ _ gl7
      have ho8 := v68 _ _ ho0
      have hod8 := v68 _ _ hod0
      have hl08 := v68 _ _ hl0
      clear hZ d1 d2 d3 d4 d5 N8 F7
      obtain ⟨o5, o4, o3, o2, o1, Z, d1, d2, d3, d4, d5, Nw, hZ⟩ := S8'.news
      have z3 := zne hZ (L + 1 + 1 + 1) (by simp [mutL])
      have F := S8'.F
      rw [upd_self hop8, upd_self hch8, upd_self hrow8, upd_self hdue] at F
      have N8 := News.expose ho8 (News.expose hod8 (News.expose hl08 (News.expose gl8 Nw)))
      have ntup : ∀ b o, gv hG L h8 b o → o.cls = .type "tuple" → b ≠ l0 := fun b o g c q => by
        have h1 := g.2.2
        rw [q, hl08.2.2] at h1
        cases h1
        simp at c
      show wpAny _ _ (execs _ _) _ _ _
      have hnl : nvs.length = ws.length := hst.length
      k_steps
      have tv6 : TV (gv hG L h6) (.tree a0 b0 l0 nm0 k0) := tv0.mono fun b o q => S5.frv b o q
      have tv8 := tv6.mono v68
      have hsz0 : (N.tree a0 b0 l0 nm0 k0).row.size ≤ 13 := by rw [r0, planned_size]; omega
      have hl0L : l0 ≠ L := fun q => hl08.2.1 (by rw [q]; exact .head _)
      refine ⟨wpAny_mono (Q := fun v s' => Opq (∃ h' tk n', s' = { s with heap := h', toks := tk } ∧ (∀ b o, b ≠ l0 → h8.get? b = some o → h'.get? b = some o) ∧ h'.get? l0 = some (W.listOf ((openL ws k0).map N.val).toArray n') ∧ v = .bool (k0.any (openK ws)))) ?_ (fun v s' hv => ?_) fun _ _ e => e⟩
      · rcases hws with ⟨x, rfl⟩ | rfl
        · cases hst with
          | cons _ tx hst =>
          cases hst
          refine IfExp_ ?_
          k_steps
          rename Fr hG _ _ _ => F9
          refine ⟨exp1 x tx a0 b0 l0 nm0 k0 _ hG _ _ _ (G0.amb F9 rfl rfl) X T hl08.1 ?_ (tv8.mono gv_hv) n0 (by omega) (by show dep + 1 + 10 < _; omega) (by show un + 3 + 400 < _; omega)⟩
          · intro q
            obtain ⟨e, he, hf⟩ := List.mem_filterMap.mp q
            obtain rfl := List.mem_singleton.mp he
            exact hl0L (Option.some.inj hf).symm
        · cases hst with
          | cons _ tx hst =>
          cases hst with
          | cons _ ty hst =>
          cases hst
          refine IfExp_ ?_
          k_steps
          rename Fr hG _ _ _ => F9
          refine ⟨exp2 ("p" : Str) ("pq" : Str) _ _ a0 b0 l0 nm0 k0 _ hG _ _ _ (G0.amb F9 rfl rfl) X T hl08.1 ?_ (tv8.mono gv_hv) n0 (by omega) (by show dep + 1 + 10 < _; omega) (by show un + 3 + 400 < _; omega)⟩
          · intro q
            obtain ⟨e, he, hf⟩ := List.mem_filterMap.mp q
            obtain rfl := List.mem_singleton.mp he
            exact hl0L (Option.some.inj hf).symm
      · obtain ⟨h9, tk9, n9, rfl, hk9, hl9, rfl⟩ := hv
        obtain ⟨S9, v89⟩ := S8'.except hl08.1 hl08.2.1 hk9
        clear hZ d1 d2 d3 d4 d5 z3 N8
        obtain ⟨o5, o4, o3, o2, o1, Z, d1, d2, d3, d4, d5, Nw9, hZ⟩ := S9.news
        have z3 := zne hZ (L + 1 + 1 + 1) (by simp [mutL])
        have F := S9.F
        rw [upd_self hop8, upd_self hch8, upd_self hrow8, upd_self hdue] at F
        k_steps
        rename Fr hG _ _ _ => F10
        rename News hG _ _ _ => N10
        rename _ = PySem.Data.cell (some (Value.bool _)) => d3'
        rw [← upd_self hdue, ← upd_self hrow8, ← upd_self hch8, ← upd_self hop8] at F10
        have S10 := LSt.of_news F10 N10 (by k_mem) (by k_mem) (by k_mem) (by k_mem) (by k_mem) (by k_mem) d1 d2 d3' d4 d5 h194
        have v910 := gv_step N10 (fun a o g => by have := (hZ a o).mp g; simp only [List.mem_cons, this, or_true])
        have v810 : ∀ b o, b ≠ l0 → gv hG L h8 b o → gv hG L _ b o := fun b o hb g => v910 b o (v89 b o hb g)
        have gl10 := v910 _ _ (⟨hl08.1, hl08.2.1, hl9⟩ : gv hG L h9 l0 _)
        have hnd : a0 ≠ l0 ∧ b0 ≠ l0 ∧ l0 ∉ N.feet k0 := by
          have h := n0
          simp only [N.foot, List.nodup_cons, List.mem_cons, not_or] at h
          exact ⟨h.1.2.1, h.2.1.1, h.2.2.1⟩
        have tvk : TVs (gv hG L _) k0 := (hk0f.mono (fun b o q => v68 _ _ (S5.frv b o q))).on fun b hb o g => v810 b o (fun q => hnd.2.2 (q ▸ hb)) g
        have tvN : TV (gv hG L _) (.tree a0 b0 l0 nm0 (openL ws k0)) := .tree (v810 _ _ hnd.1 ho8) (v810 _ _ hnd.2.1 hod8) gl10 rfl (TVs_openL ws tvk)
        have hks0 : N.rows k0 = rks ∧ nm0 = rnm := by
          have h1 := r0.trans (P.r1.symm.trans erow)
          simp only [N.row, Row.tree.injEq] at h1
          exact ⟨h1.2, h1.1⟩
        have hszk : Row.sizes rks ≤ 12 := by
          have h := P.s1
          rw [erow] at h
          simp only [Row.size] at h; omega
        have hrowN : (N.tree a0 b0 l0 nm0 (openL ws k0)).row = .tree rnm (rks.flatMap (openR ws)) := by
          simp only [N.row, rows_openL, hks0.1, hks0.2]
        have hszN : (N.tree a0 b0 l0 nm0 (openL ws k0)).row.size ≤ 13 := by
          rw [hrowN]
          have := openR_sizes ws rks
          simp only [Row.size]; omega
        have hhN := hgt_size (N.tree a0 b0 l0 nm0 (openL ws k0)).row
        refine ⟨wpAny_mono (row_spec 14 (.tree a0 b0 l0 nm0 (openL ws k0)) (by omega) _ hG _ _ _ (G0.amb F10 rfl rfl) (tvN.mono gv_hv) (by omega) (by show dep + 1 + _ < _; omega) (by show un + 3 + _ < _; omega)) (fun y s₁ h₁ => ?_) fun _ _ e => e⟩
        obtain ⟨⟨h11, tk11, rfl, hk11⟩, rvN⟩ := h₁
        dsimp only at hk11 rvN
        have S11 := S10.keeps hk11
        have v1011 := gv_keeps (hG := hG) (L := L) hk11
        have rvN11 : RV (gv hG L h11) y _ := rvN.mono fun b o q => S10.frv b o q
        obtain ⟨pN, rfl⟩ := rvN.ref
        have v811 : ∀ b o, b ≠ l0 → gv hG L h8 b o → gv hG L h11 b o := fun b o hb g => v1011 _ _ (v810 b o hb g)
        have gdl11 := v811 _ _ hdl0 gdl8
        clear hZ d1 d2 d3 d4 d5 z3 N10 F10 d3'
        obtain ⟨o5, o4, o3, o2, o1, Z, d1, d2, d3, d4, d5, Nw11, hZ⟩ := S11.news
        have F := S11.F
        rw [upd_self hop8, upd_self hch8, upd_self hrow8, upd_self hdue] at F
        have N11 := News.expose gdl11 Nw11
        have hdvl : dvs.length ≤ 13 := by
          have h1 := hdr.length
          have h2 := openR_len ws rks
          omega
        k_steps
        rename Fr hG _ _ _ => F12
        rename News hG _ _ _ => N12
        rename_i h12 l12
        rw [← upd_self hdue, ← upd_self hrow8, ← upd_self hch8, ← upd_self hop8] at F12
        have S12 := LSt.of_news F12 N12 (by k_mem) (by k_mem) (by k_mem) (by k_mem) (by k_mem) (by k_mem) d1 d2 d3 d4 d5 h194
        have v1112 := gv_step N12 (fun a o g => by have := (hZ a o).mp g; simp only [List.mem_cons, this, or_true])
        have v812 : ∀ b o, b ≠ l0 → gv hG L h8 b o → gv hG L _ b o := fun b o hb g => v1112 _ _ (v811 b o hb g)
        have hrn : rnm = ("top" : Str) := by
          have h := P.r1.symm.trans erow
          simp only [planned, Row.tree.injEq] at h
          exact h.1.symm
        have hok1 : (Row.tree rnm (rks.flatMap (openR ws))).ok = true := by
          have h := P.k1
          rw [erow] at h
          simp only [Row.ok, Bool.and_eq_true] at h ⊢
          exact ⟨h.1, openR_ok ws rks h.2⟩
        have hhg1 := hgt_size (Row.tree rnm (rks.flatMap (openR ws)))
        rw [hrowN] at hszN
        rw [hrowN] at rvN11
        have rvD : RV (hv _) (.ref _) (.tree rnm (rks.flatMap (openR ws))) := .tree ⟨_, N12.get (.head _), rfl, _, by rw [hrn]⟩ ⟨_, N12.get (.tail _ (.head _)), rfl, _, rfl⟩ ((hdr8.tup.mono fun b o q => v812 b o (ntup b o q.1 q.2) q.1).mono gv_hv)
        refine ⟨cmpNe_row ((rvN11.mono v1112).mono gv_hv) rvD hok1 hok1 (by show un + 3 + _ + _ < _; omega) ?_⟩
        rw [(rowEq_iff _ _).mpr rfl, Bool.not_true]
        k_steps
        have vS12 : vle (gv hG L s.heap) (gv hG L _) := fun b o g => v812 b o (f2 b o (v02 b o g)) (v78 b o (v57 b o (v05 b o g)))
        have gl12 := v812 _ _ (f2 _ _ gl) gl8
        have x12 := x.mono vS12
        have rr12 := x12.rr
        rw [erow] at rr12
        obtain ⟨rb', rvs', dd', sl', rn', rt0', rt1', grow', tk', hrks'⟩ := row_parts rr12
        clear hZ d1 d2 d3 d4 d5 N12 F12
        obtain ⟨o5, o4, o3, o2, o1, Z, d1, d2, d3, d4, d5, Nw13, hZ⟩ := S12.news
        have F13 := S12.F
        rw [upd_self hop8, upd_self hch8, upd_self hrow8, upd_self hdue] at F13
        have N13 := News.expose grow' (News.expose gl12 Nw13)
        tm_at "my compSF"
        k_steps
        have hrl' : rvs'.length ≤ 13 := by
          have := len_sizes rks
          have := hrks'.length
          omega
        obtain ⟨ok_, gk_, ck_, nk_, dk_⟩ := id tk'
        refine compIn_self (items := rvs') rfl (.inr ⟨ok_, gk_.2.2, ck_, nk_, dk_⟩) (by rw [sizeLine_eq]; omega) (fun (j : Nat) (ys : List Value) (_ : View) => RVs (gv hG L h12) ys ((rks.take j).filter (opn ws))) (fun _ _ _ _ _ h => h) ?_ .nil ?_ ?_
        · intro j ys G h
          have := h.length
          rw [this]; exact Nat.le_trans (List.length_filter_le _ _) (by rw [List.length_take]; exact Nat.min_le_left _ _)
        · intro C X j v ys s₃ oC m₃ E4 hC hX1 hX2 hj hoC hns hm' hk₃ hI
          have F₃ := F13.keeps (kold hk₃)
          have N₃ := news_add' F13 (N13.grown (kold hk₃)) hoC hC
          obtain ⟨rj, hrj, hrv⟩ := hrks'.get hj
          rw [take_succ_get hrj, List.filter_append]
          refine wpAny_tests_one ?_
          cases hrv with
          | @tok a t0 t1' t2' ty vv htv =>
            have hself := RV.tok htv
            obtain ⟨⟨cls, dd, data, sl⟩, gb, hbc, bn, hbd⟩ := htv
            simp only at hbc hbd
            subst hbc hbd
            have hm2 : m₃ "below" = some (.ref a) := hm'
            clear hm'
            have N₄ := News.expose (gv_keeps (kold hk₃) _ _ gb) N₃
            k_steps
            rw [show List.filter (opn ws) [Row.tok ty vv] = [] from rfl, List.append_nil]
            exact hI
          | @tree a b t0 t1' nm kvs ks htv htk hks =>
            have hself := RV.tree htv htk hks
            obtain ⟨⟨cls, dd, data, sl⟩, gb, hbc, bn, hbd⟩ := htv
            simp only at hbc hbd
            subst hbc hbd
            have hm2 : m₃ "below" = some (.ref a) := hm'
            clear hm'
            have N₄ := News.expose (gv_keeps (kold hk₃) _ _ gb) N₃
            k_steps
            · rename (_ = true) => hin
              rw [List.filter_cons, if_pos (show opn ws (.tree nm ks) = true from hin), List.filter_nil]
              exact hI.snoc hself
            · rename (_ = false) => hin
              rw [List.filter_cons, if_neg (by rw [show opn ws (.tree nm ks) = false from hin]; decide), List.filter_nil, List.append_nil]
              exact hI
        · rintro D9 X9 s' ys9 hD9 hX9 ⟨e9, hl9⟩ hI9 hk9
          obtain ⟨h14, tk14, rfl, hk14⟩ := hk9
          dsimp only at hk14 hl9
          rw [List.take_of_length_le (by have := hrks'.length; omega)] at hI9
          have S14 := S12.keeps hk14
          have v1214 := gv_keeps (hG := hG) (L := L) hk14
          have gD9 := S12.frv _ _ ⟨Heap.get?_none_of_le hD9, hl9⟩
          clear hZ d1 d2 d3 d4 d5 N13 F13
          obtain ⟨o5, o4, o3, o2, o1, Z, d1, d2, d3, d4, d5, Nw14, hZ⟩ := S14.news
          have F14 := S14.F
          rw [upd_self hop8, upd_self hch8, upd_self hrow8, upd_self hdue] at F14
          have N14 := News.expose gD9 Nw14
          k_steps
          rename Fr hG _ _ _ => F15
          rename News hG _ _ _ => N15
          have hokf : Row.oks (rks.filter (opn ws)) = true := by
            have h := P.k1
            rw [erow] at h
            simp only [Row.ok, Bool.and_eq_true] at h
            exact oks_mem.mpr fun r hr => oks_mem.mp h.2 r (List.mem_filter.mp hr).1
          have hhf : Row.hgts (rks.filter (opn ws)) ≤ 13 := hgts_le fun r hr => by
            have h1 := size_mem (List.mem_filter.mp hr).1
            have h2 := hgt_size r
            omega
          refine ⟨cmpNe_rowsL (vb := []) (N15.get (.tail _ (.head _))) (N15.get (.head _)) (((hI9.mono v1214).mono (fun b o g => by have := (hZ b o).mp g; exact N15.get (by simp only [List.mem_cons, this, or_true]))) : RVs (hv _) _ _) .nil hokf rfl (by show un + 3 + _ + _ < _; omega) ?_⟩
          rw [filter_none, Bool.not_not, any_openL, hks0.1]
          k_steps
          · rename (_ != _) = true => hc
            simp at hc
          rename_i _ h15 _ _
          have S15 := LSt.of_news F15 N15 (by k_mem) (by k_mem) (by k_mem) (by k_mem) (by k_mem) (by k_mem) d1 d2 d3 d4 d5 h194
          have v1415 := gv_step N15 (fun a o g => by have := (hZ a o).mp g; simp only [List.mem_cons, this, or_true])
          have v1215 := fun b o g => v1415 b o (v1214 b o g)
          have gch15 := v1215 _ _ (v812 _ _ (Nat.ne_of_gt lc.2.2.1) (v78 _ _ gch))
          have tvk15 := tvk.mono fun b o g => v1215 b o (v1112 b o (v1011 b o g))
          have grow15 := v1215 _ _ grow'
          have x15 := x12.mono v1215
          have hit0' : it0 = (k0.map N.val).toArray := by rw [← hit0]
          rw [hit0'] at gch15
          have hk0l : k0.length ≤ 13 := by
            have h1 := hks0.1
            have h2 := len_sizes rks
            have h3 := congrArg List.length h1
            rw [rows_length] at h3
            omega
          rw [← upd_self hdue, ← upd_self hrow8, ← upd_self hch8, ← upd_self hop8] at S15
          clear hZ d1 d2 d3 d4 d5 N15 F15
          obtain ⟨o5, o4, o3, o2, o1, Z, d1, d2, d3, d4, d5, Nw15, hZ⟩ := S15.news
          have F15 := S15.F
          rw [upd_self hop8, upd_self hch8, upd_self hrow8, upd_self hdue] at F15
          have N15 := News.expose gch15 (News.expose grow15 Nw15)
          tm_at "my compSF"
          k_steps
          refine compIn_self (items := k0.map N.val) rfl (.inl (N15.isList (.head _))) (by rw [sizeLine_eq, List.length_map]; omega) (fun (j : Nat) (ys : List Value) (V : View) => RVs (fun b o => Heap.get? h15 b = none ∧ V b o) ys ((k0.take j).map N.row)) (fun _ _ _ _ v h => h.mono fun b o q => ⟨q.1, v _ _ q.2⟩) ?_ .nil ?_ ?_
          · intro j ys V h; have := h.length; rw [List.length_map, List.length_take] at this; omega
          · intro C X j v ys s₃ oC m₃ E4 hC hX1 hX2 hj hoC hns hm' hk₃ hI
            have F₃ := F15.keeps (kold hk₃)
            have N₃ := news_add' F15 (N15.grown (kold hk₃)) hoC hC
            obtain ⟨d, hdj, rfl⟩ := vals_get hj
            have hdR := List.mem_of_getElem? hdj
            have hm2 : m₃ "child" = some (.ref d.addr) := hm'
            clear hm'
            rw [List.forIn_nil]
            refine wpAny_pure ?_
            rw [if_pos rfl]
            have hdz : d.row.size ≤ 13 := by
              have h1 : d.row ∈ N.rows k0 := by rw [rows_eq]; exact List.mem_map_of_mem hdR
              rw [hks0.1] at h1
              have := size_mem h1
              omega
            have hdh := hgt_size d.row
            k_steps
            refine ⟨wpAny_mono (row_spec 101 d (by omega) _ hG _ _ _ (G0.amb F₃ rfl rfl) ((tvk15.get hdR).mono fun b o q => kold hk₃ b o q.2.2) (by omega) (by show dep + 1 + _ < _; omega) (by show un + 3 + _ < _; omega)) (fun y s₆ h₆ => ?_) fun _ _ e => e⟩
            obtain ⟨hk₆, hrv⟩ := h₆
            refine ⟨hk₆, ?_⟩
            rw [take_succ_get hdj, List.map_append]
            refine (hI.mono fun b o q => ⟨q.1, q.2.1, kold hk₆ _ _ q.2.2⟩).snoc (hrv.mono fun b o q => ⟨?_, fun hb => ?_, q.2⟩)
            · refine get_none_keeps ?_ q.1
              exact kold hk₃
            · obtain ⟨o', e'⟩ := hX1 b hb
              rw [q.1] at e'; cases e'
          · rintro D16 X16 s' ys16 hD16 hX16 ⟨e16, hl16⟩ hI16 hk16
            obtain ⟨h16, tk16, rfl, hk16⟩ := hk16
            dsimp only at hk16 hl16
            rw [List.length_map, List.take_of_length_le (Nat.le_refl _), ← rows_eq, hks0.1] at hI16
            have S16 := S15.keeps hk16
            have v1516 := gv_keeps (hG := hG) (L := L) hk16
            have gD16 := S15.frv _ _ ⟨Heap.get?_none_of_le hD16, hl16⟩
            have rv16 : RVs (gv hG L h16) ys16 rks := hI16.mono fun b o q => S15.frv _ _ ⟨q.1, q.2.2⟩
            clear hI16
            have hyl : ys16.length ≤ 13 := by
              have := rv16.length
              have := len_sizes rks
              omega
            clear hZ d1 d2 d3 d4 d5 N15 F15
            obtain ⟨o5, o4, o3, o2, o1, Z, d1, d2, d3, d4, d5, Nw16, hZ⟩ := S16.news
            have F16 := S16.F
            rw [upd_self hop8, upd_self hch8, upd_self hrow8, upd_self hdue] at F16
            have N16 := News.expose gD16 (News.expose (v1516 _ _ grow15) Nw16)
            k_steps
            rename Fr hG _ _ _ => F17
            rename News hG _ _ _ => N17
            rw [← upd_self hdue, ← upd_self hrow8, ← upd_self hch8, ← upd_self hop8] at F17
            have S17 := LSt.of_news F17 N17 (by k_mem) (by k_mem) (by k_mem) (by k_mem) (by k_mem) (by k_mem) d1 d2 d3 d4 d5 h194
            have v1617 := gv_step N17 (fun a o g => by have := (hZ a o).mp g; simp only [List.mem_cons, this, or_true])
            have hokr : Row.oks rks = true := by
              have h := P.k1
              rw [erow] at h
              simp only [Row.ok, Bool.and_eq_true] at h
              exact h.2
            have hhr : Row.hgts rks ≤ 13 := hgts_le fun r hr => by
              have h1 := size_mem hr
              have h2 := hgt_size r
              omega
            refine ⟨cmpNe_rows (va := ys16.toArray) (vb := rvs'.toArray) ⟨_, N17.get (.head _), rfl, _, rfl⟩ ((tk'.mono fun b o g => v1617 b o (v1516 b o (v1215 b o g))).mono gv_hv) (by simpa using (rv16.mono v1617).mono gv_hv) (by simpa using (hrks'.mono fun b o g => v1617 b o (v1516 b o (v1215 b o g))).mono gv_hv) hokr hokr (by show un + 3 + _ + _ < _; omega) ?_⟩
            rw [(rowsEq_iff _ _).mpr rfl, Bool.not_true]
            k_steps
            refine ⟨rfl, _, _, _, _, _, rfl, S17, fun b o g => v1617 b o (v1516 b o (v1215 b o (v812 b o (f2 b o g) (v78 b o (v57 b o (v25 b o g)))))), fun _ _ _ y y1 y2 y3 y4 => ?_⟩
            rw [hm8 y y3 y4, hm7]
            simp only [if_neg y3, if_neg y2, if_neg y1]
            split
            · subst y; exact hrow.symm
            · split
              · subst y; exact hnum.symm
              · exact hInv y y1 y2 y3 y4
  · intro h' tk' m' vN vO' V S' vV v4V hInv
    exact K _ _ _ _ _ S' (fun a o g => vV a o (v4V a o (v04 a o g))) hInv
end
end Mine
end
/-! part Q2 -/
section
open PySem PySem.W PyProof.Rows PySem.Spec PySem.Calls
set_option maxRecDepth 100000
set_option maxHeartbeats 1000000
namespace Mine
/-! ## the objects of both trees -/
mutual
theorem objs_rows : ∀ t : N, t.objs.map N.row = t.row.subs
  | .tok _ _ _ _ => rfl
  | .tree _ _ _ _ ks => by simp only [N.objs, N.row, Row.subs, List.map_cons, objss_rows ks]
theorem objss_rows : ∀ ts : List N, (N.objss ts).map N.row = Row.subss (N.rows ts)
  | [] => rfl
  | t :: ts => by simp only [N.objss, N.rows, Row.subss, List.map_append, objs_rows t, objss_rows ts]
end
mutual
theorem subs_count : ∀ r : Row, r.subs.length = r.count
  | .tok _ _ => rfl
  | .tree _ ks => by simp only [Row.subs, Row.count, List.length_cons, subss_count ks]; omega
theorem subss_count : ∀ rs : List Row, (Row.subss rs).length = Row.counts rs
  | [] => rfl
  | r :: rs => by simp only [Row.subss, Row.counts, List.length_append, subs_count r, subss_count rs]
end
mutual
theorem objs_foot : ∀ t : N, (t.objs.map N.addr).Sublist t.foot
  | .tok _ _ _ _ => List.nil_sublist _
  | .tree a da l nm ks => by
    have := objss_feet ks
    simp only [N.objs, N.foot, List.map_cons, N.addr]
    exact (((this.cons _).cons _)).cons₂ _
theorem objss_feet : ∀ ts : List N, ((N.objss ts).map N.addr).Sublist (N.feet ts)
  | [] => List.nil_sublist _
  | t :: ts => by
    simp only [N.objss, N.feet, List.map_append]
    exact (objs_foot t).append (objss_feet ts)
end
theorem both_perm {t1 t2 : N} {ab db lb ai di li : Addr} {R : List N} (n1 : t1.foot.Nodup) (n2 : t2.foot.Nodup) (dj : ∀ a ∈ t1.foot, a ∉ t2.foot) (hb1 : ab ∉ t1.foot) (hb2 : ab ∉ t2.foot) (hi1 : ai ∉ t1.foot) (hi2 : ai ∉ t2.foot) (hab : ab ≠ ai)
    (hnd : (R.map N.addr).Nodup) (hR : ∀ x, x ∈ R ↔ x ∈ (N.tree ab db lb "both" [t1, .tree ai di li "in" [t2, t1], t1]).objs) :
    R.Perm (.tree ab db lb "both" [t1, .tree ai di li "in" [t2, t1], t1] :: .tree ai di li "in" [t2, t1] :: (t1.objs ++ t2.objs)) := by
  have s1 := (objs_foot t1).nodup n1
  have s2 := (objs_foot t2).nodup n2
  have m1 : ∀ a, a ∈ t1.objs.map N.addr → a ∈ t1.foot := fun a h => (objs_foot t1).subset h
  have m2 : ∀ a, a ∈ t2.objs.map N.addr → a ∈ t2.foot := fun a h => (objs_foot t2).subset h
  refine (List.perm_ext_iff_of_nodup (nodup_of_map hnd) (nodup_of_map (f := N.addr) ?_)).mpr fun x => ?_
  · simp only [List.map_cons, List.map_append, N.addr, List.nodup_cons, List.mem_cons, List.mem_append, not_or, List.nodup_append]
    exact ⟨⟨hab, fun h => hb1 (m1 _ h), fun h => hb2 (m2 _ h)⟩, ⟨fun h => hi1 (m1 _ h), fun h => hi2 (m2 _ h)⟩, s1, s2, fun a ha b hb e => dj a (m1 a ha) (e ▸ m2 b hb)⟩
  · rw [hR]
    simp only [N.objs, N.objss, List.mem_cons, List.mem_append, List.append_nil, List.not_mem_nil, or_false]
    constructor
    · rintro (h | h | (h | h | h) | h) <;> simp [h]
    · rintro (h | h | h | h) <;> simp [h]
theorem both_rows {t1 t2 : N} {ab db lb ai di li : Addr} {R : List N} (p : R.Perm (.tree ab db lb "both" [t1, .tree ai di li "in" [t2, t1], t1] :: .tree ai di li "in" [t2, t1] :: (t1.objs ++ t2.objs))) :
    (N.rows R).Perm (t1.row.subs ++ t2.row.subs ++ [.tree "in" [t2.row, t1.row], .tree "both" [t1.row, .tree "in" [t2.row, t1.row], t1.row]]) := by
  have h := p.map N.row
  rw [← rows_eq] at h
  simp only [List.map_cons, List.map_append, objs_rows, N.row, N.rows] at h
  refine h.trans ?_
  refine (List.Perm.swap _ _ _).trans ?_
  exact List.perm_append_comm (l₁ := [_, _])
theorem both_len {t1 t2 : N} {ab db lb ai di li : Addr} {R : List N} (p : R.Perm (.tree ab db lb "both" [t1, .tree ai di li "in" [t2, t1], t1] :: .tree ai di li "in" [t2, t1] :: (t1.objs ++ t2.objs))) :
    (R.length : Int) = 2 + t1.row.count + t2.row.count := by
  have h := p.length_eq
  have h1 := congrArg List.length (objs_rows t1)
  have h2 := congrArg List.length (objs_rows t2)
  rw [List.length_map, subs_count] at h1 h2
  simp only [List.length_cons, List.length_append] at h
  omega
end Mine
end
/-! part L22 -/
section
open PySem PySem.W PyProof.Rows PySem.Spec PySem.Calls
set_option maxRecDepth 100000
set_option maxHeartbeats 4000000
namespace Mine
/-! ## the whole body of the law -/
mutual
theorem subs_ok : ∀ t : Row, t.ok = true → ∀ r ∈ t.subs, r.ok = true
  | .tok _ _, _, _, h => nomatch h
  | .tree n ks, k, r, h => by
    rcases List.mem_cons.mp h with rfl | h
    · exact k
    · simp only [Row.ok, Bool.and_eq_true] at k
      exact subss_ok ks k.2 r h
theorem subss_ok : ∀ t : List Row, Row.oks t = true → ∀ r ∈ Row.subss t, r.ok = true
  | [], _, _, h => nomatch h
  | t :: ts, k, r, h => by
    simp only [Row.oks, Bool.and_eq_true] at k
    rcases List.mem_append.mp h with h | h
    · exact subs_ok t k.1 r h
    · exact subss_ok ts k.2 r h
end
section
variable {w : World} {p : Program} {loose : List Str} {mean : ExcName → Option Value} {mg mb : Str → Option Value} {A : Around} {hG : Heap} {L : Nat} {m : Str → Option Value} {s : Shared} {E : Value → Shared → Prop} {Q : Flow → Shared → Prop} {sc : Addr} {vs : List Value} {ns : List Int}
theorem LSt.treeEq {h : Heap} {vT vT' vN vO vH vA : Option Value} {ps : Array Value} (S : LSt hG L m vT vN vO vH vA ps h) (e : vT = vT') : LSt hG L m vT' vN vO vH vA ps h := e ▸ S
theorem eq_TV {V : View} {t t' : N} (e : t = t') (h : TV V t) : TV V t' := e ▸ h
theorem eq_sz {n : Nat} {t t' : N} (e : t = t') (h : t.row.size ≤ n) : t'.row.size ≤ n := e ▸ h
theorem eq_RV {V : View} {v : Value} {t t' : N} (e : t = t') (h : RV V v t.row) : RV V v t'.row := e ▸ h
theorem eq_ok {t t' : N} (e : t = t') (h : t.row.ok = true) : t'.row.ok = true := e ▸ h
theorem eq_Pu {xs ys : List Int} {t t' t2 : N} (e : t = t') (h : Pu xs ys t t2) : Pu xs ys t' t2 := e ▸ h
theorem eq_Fx {V : View} {t t' t2 : N} {ra sa : Addr} (e : t = t') (h : Fx V t t2 ra sa) : Fx V t' t2 ra sa := e ▸ h
theorem eq_val {t : N} {a1 da1 l1 : Addr} {nm : Str} {kk : List N} (e : t = N.tree a1 da1 l1 nm kk) : t.val = .ref a1 := by rw [e]; rfl
theorem law_chain (G : LG w p loose mean mg mb A hG) (hsc : m "script" = some (.ref sc)) (hl : hG.IsList sc vs.toArray) (hi : IntsAre vs ns) (hz : ns.length ≤ 63)
    (S : LSt hG L m none none none none none #[] s.heap) : ∀ oc od fd osl, (hd.heap_39 w.params).lookup 197 = some ⟨oc, od, .func fd, osl⟩ →
    (∀ h' gens' tk' ps, (∀ b o, hG.get? b = some o → h'.get? b = some o) → h'.get? 194 = some (tabObj ps) → Fins s.gens gens' → Q (.ret (.bool true)) ⟨h', gens', s.drawn, tk', s.os⟩) →
    wpAny (model PySem.Challenge.rw_fi0013_01.row.prog w) (A.deeper (lawEnv fd L)) (execs [stmtAt fd 0, stmtAt fd 1, stmtAt fd 2, stmtAt fd 3, stmtAt fd 4, stmtAt fd 5, stmtAt fd 6, stmtAt fd 7, stmtAt fd 8, stmtAt fd 9, stmtAt fd 10, stmtAt fd 11, stmtAt fd 12, stmtAt fd 13, stmtAt fd 14, stmtAt fd 15, stmtAt fd 16, stmtAt fd 17, stmtAt fd 18, stmtAt fd 19, stmtAt fd 20, stmtAt fd 21, stmtAt fd 22, stmtAt fd 23, stmtAt fd 24] (lawEnv fd L)) Q E s := by
  intro oc od fd osl ho K
  obtain ⟨h, g, dr, tk, os⟩ := s
  refine st0 G hsc hl hi hz S oc od fd osl ho _ fun h0 tk0 t0 m0 S0 sc0 hd0 => ?_
  show wpAny _ _ _ _ _ ⟨h0, g, dr, tk0, os⟩
  refine st1 G sc0 hd0 hl hi hz S0 oc od fd osl ho _ fun h1 tk1 m1 ln xs S1 hd1 nm1 xs1 x1 x2 => ?_
  show wpAny _ _ _ _ _ ⟨h1, g, dr, tk1, os⟩
  refine st23 G hd1 nm1 xs1 x1 x2 S1 oc od fd osl ho _ fun h3 tk3 m3 lo ys S3 hd3 nm3 ot3 xs3 ys3 xy => ?_
  show wpAny _ _ _ _ _ ⟨h3, g, dr, tk3, os⟩
  refine st4 G hd3 nm3 ot3 xs3 ys3 x2 (by omega) S3 oc od fd osl ho _ fun h4 tk4 m4 t1 t2 S4 hd4 nm4 ot4 oth4 xs4 ys4 v1 v2 i1 i2 r1 r2 n1 n2 dj => ?_
  show wpAny _ _ _ _ _ ⟨h4, g, dr, tk4, os⟩
  obtain ⟨a1, da1, l1, kk1, et1⟩ : ∃ a1 da1 l1 kk1, t1 = N.tree a1 da1 l1 "top" kk1 := by
    cases t1 with
    | tok => cases i1
    | tree a1 da1 l1 nm1 k1 =>
      have h := r1
      simp only [N.row, planned, Row.tree.injEq] at h
      rw [h.1]
      exact ⟨_, _, _, _, rfl⟩
  have P : Pu xs ys t1 t2 := ⟨i1, i2, r1, r2, n1, n2, dj, x1, x2, xy⟩
  refine st5 G hd4 nm4 ot4 xs4 ys4 oth4 P v1 v2 S4 oc od fd osl ho _ fun h5 tk5 m5 ra sa S5 hd5 nm5 ot5 oth5 row5 sec5 xs5 ys5 x5 => ?_
  show wpAny _ _ _ _ _ ⟨h5, g, dr, tk5, os⟩
  refine st6 G nm5 ot5 xs5 ys5 row5 sec5 P x5 S5 oc od fd osl ho _ fun h6 tk6 S6 v56 => ?_
  show wpAny _ _ _ _ _ ⟨h6, g, dr, tk6, os⟩
  have x6 := x5.mono v56
  refine st7 G oth5 row5 sec5 P x6 S6 oc od fd osl ho _ fun h7 tk7 S7 v67 => ?_
  show wpAny _ _ _ _ _ ⟨h7, g, dr, tk7, os⟩
  have x7 := x6.mono v67
  have v57 : vle (gv hG L h5) (gv hG L h7) := fun a o e => v67 a o (v56 a o e)
  obtain ⟨nsv, nv, gn, hni⟩ := xs5
  refine st8 (vO := none) G row5 nm5 P x7 (v57 _ _ gn) hni S7 oc od fd osl ho _ fun h8 tk8 m8 vN vO S8 v78 e8 => ?_
  show wpAny _ _ _ _ _ ⟨h8, g, dr, tk8, os⟩
  have x8 := x7.mono v78
  have oth8 : m8 "other" = some t2.val := by rw [e8 _ (by decide) (by decide) (by decide) (by decide)]; exact oth5
  have row8 : m8 "row" = some (.ref ra) := by rw [e8 _ (by decide) (by decide) (by decide) (by decide)]; exact row5
  have sec8 : m8 "second" = some (.ref sa) := by rw [e8 _ (by decide) (by decide) (by decide) (by decide)]; exact sec5
  have hd8 : m8 "head" = some (.int (ns.headD 1) t0) := by rw [e8 _ (by decide) (by decide) (by decide) (by decide)]; exact hd5
  refine st9 G oth8 x8.tv1 x8.tv2 S8 oc od fd osl ho _ fun h9 tk9 m9 ai di li S9 v89 e9 in9 vi9 fa fd9 fl => ?_
  show wpAny _ _ _ _ _ ⟨h9, g, dr, tk9, os⟩
  have x9 := x8.mono v89
  refine st10 G (ti := .tree ai di li "in" [t2, t1]) in9 x9.tv1 vi9 S9 oc od fd osl ho _ fun h10 tk10 m10 ab db lb S10 v910 e10 bo10 vb10 fab fdb flb => ?_
  show wpAny _ _ _ _ _ ⟨h10, g, dr, tk10, os⟩
  have x10 := x9.mono v910
  have sz1 := P.s1
  have sz2 := P.s2
  have hz1 : (N.tree ab db lb "both" [t1, .tree ai di li "in" [t2, t1], t1]).row.size ≤ 100 := by simp only [N.row, N.rows, Row.size, Row.sizes]; omega
  refine st11 G bo10 vb10 hz1 S10 oc od fd osl ho _ fun h11 tk11 R td nd S11 v1011 gt hnd hR => ?_
  show wpAny _ _ _ _ _ ⟨h11, g, dr, tk11, os⟩
  have x11 := x10.mono v1011
  have vb11 := vb10.mono v1011
  have row10 : m10 "row" = some (.ref ra) := by rw [e10 _ (by decide), e9 _ (by decide)]; exact row8
  have sec10 : m10 "second" = some (.ref sa) := by rw [e10 _ (by decide), e9 _ (by decide)]; exact sec8
  have oth10 : m10 "other" = some t2.val := by rw [e10 _ (by decide), e9 _ (by decide)]; exact oth8
  have in10 : m10 "inner" = some (.ref ai) := by rw [e10 _ (by decide)]; exact in9
  have hd10 : m10 "head" = some (.int (ns.headD 1) t0) := by rw [e10 _ (by decide), e9 _ (by decide)]; exact hd8
  have nf : ∀ {t : N} {h : Heap} {a : Addr}, TV (gv hG L h) t → h.get? a = none → a ∉ t.foot := fun tv e hm => by
    obtain ⟨o, g⟩ := tv.foot_mem _ hm
    have := g.2.2; rw [e] at this; cases this
  have hab : ab ≠ ai := fun q => by
    obtain ⟨_, _, _, _, _, _, _, _, _, hoi, _⟩ := vi9.invG
    have := hoi.2.2; rw [← q, fab] at this; cases this
  have perm := both_perm n1 n2 dj (nf x9.tv1 fab) (nf x9.tv2 fab) (nf x8.tv1 fa) (nf x8.tv2 fa) hab hnd hR
  have hRv : ∀ n ∈ R, TV (gv hG L h11) n := fun n hn => vb11.of_objs ((hR n).mp hn)
  have hlen := both_len perm
  refine st12 G row10 sec10 P x11 gt hnd hRv hlen S11 oc od fd osl ho _ fun h12 tk12 S12 v1112 => ?_
  show wpAny _ _ _ _ _ ⟨h12, g, dr, tk12, os⟩
  have x12 := x11.mono v1112
  refine st13 G bo10 in10 oth10 x12.tv1 x12.tv2 i1 i2 P.s1 P.s2 S12 oc od fd osl ho _ fun h13 tk13 hh nh S13 v1213 gh => ?_
  show wpAny _ _ _ _ _ ⟨h13, g, dr, tk13, os⟩
  have x13 := x12.mono v1213
  have v1113 : vle (gv hG L h11) (gv hG L h13) := fun a o e => v1213 a o (v1112 a o e)
  have hob1 := objs_len t1
  have hob2 := objs_len t2
  have c1 := count_le t1.row
  have c2 := count_le t2.row
  have vb13 := vb11.mono v1113
  have vi13 := vi9.mono fun a o e => v1113 a o (v1011 a o (v910 a o e))
  have hHv : ∀ n ∈ (.tree ab db lb "both" [t1, .tree ai di li "in" [t2, t1], t1] :: .tree ai di li "in" [t2, t1] :: (t1.objs ++ t2.objs) : List N), TV (gv hG L h13) n := by
    intro n hn
    rcases List.mem_cons.mp hn with rfl | hn
    · exact vb13
    · rcases List.mem_cons.mp hn with rfl | hn
      · exact vi13
      · rcases List.mem_append.mp hn with hn | hn
        · exact x13.tv1.of_objs hn
        · exact x13.tv2.of_objs hn
  have hRz : ∀ n ∈ R, n.row.size ≤ 100 := fun n hn => Nat.le_trans (objs_row_size ((hR n).mp hn)) hz1
  have hok : (N.tree ab db lb "both" [t1, .tree ai di li "in" [t2, t1], t1]).row.ok = true := by
    have k1 := P.k1
    have k2 := P.k2
    simp only [N.row, N.rows, Row.ok, Row.oks, k1, k2, Bool.and_true, Bool.and_eq_true, true_and]
    decide +kernel
  have hRo : Row.oks (N.rows R) = true := by
    refine oks_mem.mpr fun r hr => ?_
    have hr2 := (both_rows perm).mem_iff.mp hr
    have k1 := P.k1
    have k2 := P.k2
    have sub : ∀ (t : Row), t.ok = true → ∀ r ∈ t.subs, r.ok = true := fun t => subs_ok t
    simp only [List.mem_append, List.mem_cons, List.not_mem_nil, or_false] at hr2
    rcases hr2 with (h | h) | h | h
    · exact sub _ k1 r h
    · exact sub _ k2 r h
    · subst h
      simp only [Row.ok, Row.oks, k1, k2, Bool.and_true]
      decide +kernel
    · subst h; exact hok
  refine st14 (H := .tree ab db lb "both" [t1, .tree ai di li "in" [t2, t1], t1] :: .tree ai di li "in" [t2, t1] :: (t1.objs ++ t2.objs)) G row10 sec10 P x13 (v1113 _ _ gt) gh (fun n hn => (hRv n hn).mono v1113) hHv hRz (by omega) (by omega) (by simp only [List.length_cons, List.length_append]; omega) (fun n hn => objs_tree ((hR n).mp hn)) hRo
    (fun n hn => ⟨n, perm.mem_iff.mp hn, rfl⟩) (both_rows perm) S13 oc od fd osl ho _ fun h14 tk14 S14 v1314 => ?_
  have x14 := x13.mono v1314
  refine st15 G row10 sec10 x14.rr x14.rs P.s1 P.s2 S14 oc od fd osl ho _ fun h15 tk15 m15 ll lv lnn S15 v1415 e15 le15 gll pl => ?_
  show wpAny _ _ _ _ _ ⟨h15, g, dr, tk15, os⟩
  have x15 := x14.mono v1415
  have vb15 := (vb13.mono v1314).mono v1415
  have bo15 : m15 "both" = some (.ref ab) := by rw [e15 _ (by decide)]; exact bo10
  refine st16 G bo15 vb15 hz1 hok le15 gll (by simpa [N.row, N.rows, Row.toks, Row.tokss, List.append_assoc] using pl) S15 oc od fd osl ho _ fun h16 g16 tk16 c1 c2 S16 v1516 fin16 => ?_
  show wpAny _ _ _ _ _ ⟨h16, g16, dr, tk16, os⟩
  have x16 := x15.mono v1516
  have e1v : t1.val = .ref a1 := eq_val et1
  refine st17 G (k1 := kk1) (eq_TV et1 x16.tv1) (eq_sz et1 P.s1) (S16.treeEq (congrArg some e1v)) oc od fd osl ho _ fun h17 tk17 m17 at_ dt lt S17 v1617 e17 tu17 vt17 => ?_
  show wpAny _ _ _ _ _ ⟨h17, g16, dr, tk17, os⟩
  have x17 := x16.mono v1617
  have row15 : m15 "row" = some (.ref ra) := by rw [e15 _ (by decide)]; exact row10
  have row17 : m17 "row" = some (.ref ra) := by rw [e17 _ (by decide)]; exact row15
  have hd17 : m17 "head" = some (.int (ns.headD 1) t0) := by rw [e17 _ (by decide), e15 _ (by decide)]; exact hd10
  have oth17 : m17 "other" = some t2.val := by rw [e17 _ (by decide), e15 _ (by decide)]; exact oth10
  have sec17 : m17 "second" = some (.ref sa) := by rw [e17 _ (by decide), e15 _ (by decide)]; exact sec10
  refine st18 G tu17 row17 (eq_TV et1 x17.tv1) (eq_sz et1 P.s1) vt17 (eq_RV et1 x17.rr) (eq_ok et1 P.k1) S17 oc od fd osl ho _ fun h18 tk18 S18 v1718 => ?_
  show wpAny _ _ _ _ _ ⟨h18, g16, dr, tk18, os⟩
  have x18 := x17.mono v1718
  refine st19 G hd17 S18 oc od fd osl ho _ fun h19 tk19 m19 aw dw lw ks n S19 v1819 e19 wi19 vw19 hn hrs => ?_
  show wpAny _ _ _ _ _ ⟨h19, g16, dr, tk19, os⟩
  have x19 := x18.mono v1819
  have hd19 : m19 "head" = some (.int (ns.headD 1) t0) := by rw [e19 _ (by decide)]; exact hd17
  refine st20 G hd19 wi19 vw19 hn hrs S19 oc od fd osl ho _ fun h20 g20 tk20 ps S20 v1920 fin20 => ?_
  show wpAny _ _ _ _ _ ⟨h20, g20, dr, tk20, os⟩
  have x20 := x19.mono v1920
  refine st21 G (by rw [e19 _ (by decide)]; exact oth17) (by rw [e19 _ (by decide)]; exact row17) (by rw [e19 _ (by decide)]; exact sec17) (eq_Pu et1 P) (eq_Fx et1 x20) S20 oc od fd osl ho fun h21 tk21 hk ht => ?_
  exact K h21 g20 tk21 ps hk ht (fin16.trans fin20)
end
end Mine
end
/-! part L23 -/
section
open PySem PySem.W PyProof.Rows PySem.Spec PySem.Calls
set_option maxRecDepth 100000
set_option maxHeartbeats 4000000
namespace Mine
/-! ## the law is entered -/
section
local macro_rules | `(tactic| tm_at "my enterC") => `(tactic| (k_dflt (refine' (enterC ?k0 ?k1 ?k2 ?k3 ?k4 ?k5 ?k6 ?_ ?c2 ?c3 ?c4); (case k0 => assumption); (case k1 => k_is); (case k2 => k_is); (case k3 => decide); (case k4 => exact BindsTo.of_eq rfl); (case k5 => exact fun n y hy => .inl (locs rfl y hy)); (case k6 => decide); (case c2 => exact rfl); (case c3 => exact rfl); (case c4 => exact rfl); k_whole)))
theorem law_entry {w : World} {p : Program} {loose : List Str} {mean : ExcName → Option Value} {mg mb : Str → Option Value} {s₁ : Shared} {R : Result → Shared → Prop} {sc : Addr} {vs : List Value} {ns : List Int}
    (hT : TabsAt [(196, 194)] s₁.heap) (X : (hd.heap_39 w.params).In s₁.heap) (T : Top p loose mean mg mb s₁.heap) (hl : s₁.heap.IsList sc vs.toArray) (hi : IntsAre vs ns) (hz : ns.length ≤ 63)
    (h : ∀ h' gens' tk' ps, (∀ b o, (ghostOf s₁.heap [(196, 194)]).get? b = some o → h'.get? b = some o) → h'.get? 194 = some (tabObj ps) → Fins s₁.gens gens' → R (.ok (.ret (.bool true))) ⟨h', gens', s₁.drawn, tk', s₁.os⟩) :
    codeAny (model PySem.Challenge.rw_fi0013_01.row.prog w) callerA (.call (.ref 197) ⟨[.ref sc], []⟩) R s₁ := by
  revert X; k_fill; intro X
  have H : Amb w p loose mean mg mb callerA s₁.heap [] s₁.heap := ⟨X, T, below_caller _, rfl⟩
  have G : LG w _ _ mean mg mb callerA (ghostOf s₁.heap [(196, 194)]) := ⟨ghost_K hT X (by kernel_rfl), ghost_top hT T, ghost_below hT, rfl, by decide, by decide, (ghost_code hT).1⟩
  suffices all : ∀ oc od fd osl, (hd.heap_39 w.params).lookup 197 = some ⟨oc, od, .func fd, osl⟩ → (∀ (L' : Nat) (h₁ : Heap) (tk : Nat) (m : Str → Option Value), m "script" = some (.ref sc) → LSt (ghostOf s₁.heap [(196, 194)]) L' m none none none none none #[] h₁ → ∀ (E : Value → Shared → Prop) (Q : Flow → Shared → Prop),
      (∀ h' gens' tk' ps, (∀ b o, (ghostOf s₁.heap [(196, 194)]).get? b = some o → h'.get? b = some o) → h'.get? 194 = some (tabObj ps) → Fins s₁.gens gens' → Q (.ret (.bool true)) ⟨h', gens', s₁.drawn, tk', s₁.os⟩) →
      wpAny (model PySem.Challenge.rw_fi0013_01.row.prog w) (callerA.deeper (lawEnv fd L')) (execs [stmtAt fd 0, stmtAt fd 1, stmtAt fd 2, stmtAt fd 3, stmtAt fd 4, stmtAt fd 5, stmtAt fd 6, stmtAt fd 7, stmtAt fd 8, stmtAt fd 9, stmtAt fd 10, stmtAt fd 11, stmtAt fd 12, stmtAt fd 13, stmtAt fd 14, stmtAt fd 15, stmtAt fd 16, stmtAt fd 17, stmtAt fd 18, stmtAt fd 19, stmtAt fd 20, stmtAt fd 21, stmtAt fd 22, stmtAt fd 23, stmtAt fd 24] (lawEnv fd L')) Q E { s₁ with heap := h₁, toks := tk }) →
      codeAny (model PySem.Challenge.rw_fi0013_01.row.prog w) callerA (.call (.ref 197) ⟨[.ref sc], []⟩) R s₁ by
    have go : ∃ oc od fd osl, (hd.heap_39 w.params).lookup 197 = some ⟨oc, od, .func fd, osl⟩ := by
      exact ⟨_, _, _, _, by k_is⟩
    obtain ⟨oc, od, fd, osl, ho⟩ := go
    exact all oc od fd osl ho fun L' h₁ tk m hsc S E Q K => law_chain (s := { s₁ with heap := h₁, toks := tk }) G hsc (ghost_list hT hl) hi hz S oc od fd osl ho K
  (with_unfolding_all k_dflt refine' (fn_case ?e ?h))
  case e => k_is
  case h =>
  intro LC
  tm_at "my enterC"
  intro L' h₁ tk cells F' N' Y'
  k_cells Y'
  have Ng := ghost_news hT F' N'
  have Fg := ghost_fr hT F'
  have lt := ghost_lt hT F' (194, tabObj #[]) (.head _)
  simp only [tabNews, List.map_cons, List.map_nil, List.nil_append, List.cons_append] at Ng
  have S := LSt.of_news Fg Ng (by k_mem) (by k_mem) (by k_mem) (by k_mem) (by k_mem) (by k_mem) (by assumption) (by assumption) (by assumption) (by assumption) (by assumption) lt
  refine LC L' h₁ tk _ (by rfl) S _ _ fun h' gens' tk' ps k1 k2 k3 => ?_
  exact h h' gens' tk' ps k1 k2 k3
end
end Mine
end
/-! part L24 -/
section
open PySem PySem.W PyProof.Rows PySem.Spec PySem.Calls
set_option maxRecDepth 100000
set_option maxHeartbeats 1000000
namespace Mine
/-- what the claim asks, from what the law's end gives -/
theorem law_post {cw : ClaimW} {cl : Str → Option Addr} {mean : ExcName → Option Value} {args : List WData} {s₁ s' : Shared} {ps : Array Value} (hT : TabsAt [(196, 194)] s₁.heap) (hg : s₁.gens = #[]) (hn : ∀ x, cw.raises args x = false) (hp : cw.post args (.bool true) args = true)
    (hk : ∀ b o, (ghostOf s₁.heap [(196, 194)]).get? b = some o → s'.heap.get? b = some o) (h4 : s'.heap.get? 194 = some (tabObj ps)) (hf : Fins s₁.gens s'.gens) (hos : s'.os = s₁.os) : GoodWG cw cl mean args s₁ (.ok (.ret (.bool true))) s' := by
  have keep : ∀ b o, b ≠ 194 → s₁.heap.get? b = some o → s'.heap.get? b = some o := fun b o hb e => hk b o (ghost_ne e (by simpa using hb))
  have q := hT (196, 194) (.head _)
  refine ⟨.inl ⟨_, .bool true, [], rfl, hn, .bool _, hp, fun _ => ⟨.nil, fun _ h => nomatch h⟩⟩, ⟨fun b o e => ?_, fun b o e => ?_⟩, hos, fun y hy => ?_⟩
  · by_cases hb : b = 194
    · subst hb
      have e2 := q.2
      rw [e] at e2
      obtain rfl := Option.some.inj e2
      exact .inr (.inl ⟨(q.1.tab q.2).isCodeTable, rfl, #[], ps, rfl, by rw [Array.empty_append]; exact h4⟩)
    · exact .inl (keep b o hb e)
  · by_cases hb : b = 194
    · subst hb; exact ⟨_, h4⟩
    · exact ⟨o, keep b o hb e⟩
  · obtain ⟨i, hi⟩ := Array.getElem?_of_mem hy
    rcases hf i y hi with h | h
    · rw [hg] at h; simp at h
    · subst h; rfl
end Mine
end
/-! part Z1 -/
section
open PySem PySem.W PyProof.Rows PySem.Spec PySem.Calls
set_option maxRecDepth 100000
set_option maxHeartbeats 8000000
namespace Mine
theorem lawT : PySem.Challenge.rw_fi0013_01.Holds := hd (by
  k_fill
  intro w s₀ s₁ mg mb G Y fa o pm cd doc dV kV ho hd hcd hD hmg hg args vals as hpre hlay hrd hwl hlo
  have KX := km_in_of Y
  km_tabs Y
  refine Ground.open G ?_
  intro T B D TE TW
  km_lay T hmg ho hd cd
  wrow_args hpre hlay hrd hwl hlo
  have hfa := mg_of KX T.g (n := ("law" : Str)) (v := .ref 197) (by kernel_rfl)
  obtain rfl : fa = 197 := by
    have h := hmg
    rw [show (_ : Option Value) = some (.ref 197) from hfa] at h
    cases h; rfl
  refine enter_call ?_
  rename Heap.IsList _ _ _ => hl9
  rename IntsAre _ _ => hi9
  rename ¬ _ < _ => hz9
  refine law_entry hT9 KX T hl9 hi9 (by omega) fun h' gens' tk' ps k1 k2 k3 => ?_
  exact law_post hT9 hg (fun _ => rfl) (by wrow_post) k1 k2 k3 rfl)
end Mine
end
end
theorem PySem.Challenge.cw_fi0013_01_holds : PySem.Challenge.rw_fi0013_01.Holds :=
  Mine.lawT
