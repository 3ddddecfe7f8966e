import PyProof.Rows.All
import Open.Line
import Wide.FinOn
import OpenK.AllK
import Wide.All
import Lean
import PySem.Challenge.RW_in0188_01
set_option Elab.async false
set_option maxRecDepth 100000
section
open PySem PySem.W PySem.Calls
namespace Mine
noncomputable abbrev PW : Program := PySem.Challenge.pw_in0188_01
noncomputable def Kp (h h' : Heap) : Prop := ∀ b o, h.get? b = some o → h'.get? b = some o
theorem Kp.refl (h : Heap) : Kp h h := fun _ _ e => e
theorem Kp.trans {a b c : Heap} (x : Kp a b) (y : Kp b c) : Kp a c := fun l o e => y l o (x l o e)
theorem Kp.push (h : Heap) (o : Obj) : Kp h (h.push o) := fun _ _ e => Heap.get?_push_of_some o e
noncomputable abbrev Sh (s₀ : Shared) (h : Heap) (k : Nat) : Shared := { s₀ with heap := h, toks := k }
noncomputable abbrev Cell := Obj → Prop
noncomputable def lst (vs : List Value) : Cell := fun o => ∃ n, o = { cls := .type "list", data := .seq vs.toArray n }
noncomputable def its (o : Obj) : Cell := fun o' => o' = o
structure St (B : Heap) (L : Addr) (m : Str → Option Value) (U : List (Addr × Cell)) (h : Heap) : Prop where
  ns : h.Ns L m
  keep : Kp B h
  nl : B.get? L = none
  own : ∀ p ∈ U, (∃ o, h.get? p.1 = some o ∧ p.2 o) ∧ p.1 ≠ L ∧ B.get? p.1 = none
  nd : (U.map (·.1)).Nodup
theorem get_none_of_ge {h : Heap} {a : Addr} (ha : h.objs.size ≤ a) : h.get? a = none := by
  cases e : h.get? a with
  | none => rfl
  | some o => exact absurd (Heap.lt_size e) (Nat.not_lt.mpr ha)
section
variable {B : Heap} {L : Addr} {m m' : Str → Option Value} {U : List (Addr × Cell)} {h h' : Heap}
theorem St.locals (S : St B L m U h) (hn : h'.Ns L m') (hs : Heap.SameBut L h h') : St B L m' U h' :=
  ⟨hn, fun b o e => (hs.2 b (by rintro rfl; rw [S.nl] at e; cases e)).trans (S.keep b o e), S.nl,
    fun p hp => let ⟨⟨o, e, c⟩, n1, n2⟩ := S.own p hp; ⟨⟨o, (hs.2 p.1 n1).trans e, c⟩, n1, n2⟩, S.nd⟩
theorem St.mono (S : St B L m U h) (k : Kp h h') : St B L m U h' :=
  ⟨S.ns.keeps k, S.keep.trans k, S.nl, fun p hp => let ⟨⟨o, e, c⟩, n⟩ := S.own p hp; ⟨⟨o, k _ _ e, c⟩, n⟩, S.nd⟩
theorem St.push (S : St B L m U h) (o : Obj) : St B L m U (h.push o) := S.mono (Kp.push h o)
theorem St.notIn (S : St B L m U h) {a : Addr} (ha : h.get? a = none) : a ≠ L ∧ B.get? a = none ∧ a ∉ U.map (·.1) := by
  refine ⟨?_, ?_, ?_⟩
  · rintro rfl
    obtain ⟨o, _, _, e, _⟩ := S.ns
    rw [ha] at e; cases e
  · cases e : B.get? a with
    | none => rfl
    | some o => have := S.keep _ _ e; rw [ha] at this; cases this
  · intro q
    obtain ⟨p, hp, rfl⟩ := List.mem_map.mp q
    obtain ⟨⟨o, e, _⟩, _⟩ := S.own p hp
    rw [ha] at e; cases e
theorem St.take (S : St B L m U h) (k : Kp h h') {a : Addr} {c : Cell} (hn : h.get? a = none) {o : Obj} (ho : h'.get? a = some o) (hc : c o) : St B L m ((a, c) :: U) h' := by
  have S' := S.mono k
  obtain ⟨n1, n2, n3⟩ := S.notIn hn
  refine ⟨S'.ns, S'.keep, S'.nl, fun p hp => ?_, List.nodup_cons.mpr ⟨n3, S.nd⟩⟩
  rcases List.mem_cons.mp hp with rfl | hp
  · exact ⟨⟨o, ho, hc⟩, n1, n2⟩
  · exact S'.own p hp
theorem St.alloc (S : St B L m U h) (o : Obj) {c : Cell} (hc : c o) (hf : o.isFreed = false := by rfl) : St B L m ((h.objs.size, c) :: U) (h.push o) :=
  S.take (Kp.push h o) (get_none_of_ge (Nat.le_refl _)) (Heap.get?_push_size _ hf) hc
theorem St.sub {V : List (Addr × Cell)} (S : St B L m U h) (hs : V.Sublist U) : St B L m V h :=
  ⟨S.ns, S.keep, S.nl, fun p hp => S.own p (hs.subset hp), S.nd.sublist (hs.map _)⟩
theorem St.drop {p : Addr × Cell} (S : St B L m (p :: U) h) : St B L m U h := S.sub (List.sublist_cons_self _ _)
theorem St.get {a : Addr} {c : Cell} (S : St B L m U h) (hm : (a, c) ∈ U) : ∃ o, h.get? a = some o ∧ c o := (S.own _ hm).1
theorem St.upd {U₁ U₂ : List (Addr × Cell)} {a : Addr} {c c' : Cell} (S : St B L m (U₁ ++ (a, c) :: U₂) h) (hs : Heap.ExtBut a h h') {o' : Obj} (ho : h'.get? a = some o') (hc : c' o') :
    St B L m (U₁ ++ (a, c') :: U₂) h' := by
  have D := S.own (a, c) (by simp)
  have nd := S.nd
  rw [List.map_append, List.map_cons] at nd
  have na : ∀ p ∈ U₁ ++ U₂, p.1 ≠ a := by
    intro p hp e
    have nd' := (List.nodup_append.mp nd)
    rcases List.mem_append.mp hp with q | q
    · exact nd'.2.2 p.1 (List.mem_map_of_mem q) a (.head _) e
    · exact (List.nodup_cons.mp nd'.2.1).1 (by have z := List.mem_map_of_mem (f := fun x : Addr × Cell => x.1) q; rw [e] at z; exact z)
  refine ⟨?_, fun b o e => ?_, S.nl, fun p hp => ?_, by rw [List.map_append, List.map_cons]; exact nd⟩
  · exact S.ns.extBut hs (Ne.symm D.2.1)
  · refine hs b o ?_ (S.keep b o e)
    rintro rfl; rw [D.2.2] at e; cases e
  · rcases List.mem_append.mp hp with q | q
    · obtain ⟨⟨o, e, hc⟩, n⟩ := S.own p (by simp [q])
      exact ⟨⟨o, hs _ _ (na p (by simp [q])) e, hc⟩, n⟩
    · rcases List.mem_cons.mp q with rfl | q
      · exact ⟨⟨o', ho, hc⟩, D.2⟩
      · obtain ⟨⟨o, e, hc⟩, n⟩ := S.own p (by simp [q])
        exact ⟨⟨o, hs _ _ (na p (by simp [q])) e, hc⟩, n⟩
theorem St.other {U₁ U₂ : List (Addr × Cell)} {a : Addr} {c : Cell} (S : St B L m (U₁ ++ (a, c) :: U₂) h) (hs : Heap.ExtBut a h h') : St B L m (U₁ ++ U₂) h' := by
  have D := S.own (a, c) (by simp)
  have sub : (U₁ ++ U₂).Sublist (U₁ ++ (a, c) :: U₂) := List.Sublist.append (List.Sublist.refl _) (List.sublist_cons_self _ _)
  have nd := S.nd
  rw [List.map_append, List.map_cons] at nd
  have na : ∀ p ∈ U₁ ++ U₂, p.1 ≠ a := by
    intro p hp e
    have nd' := (List.nodup_append.mp nd)
    rcases List.mem_append.mp hp with q | q
    · exact nd'.2.2 p.1 (List.mem_map_of_mem q) a (.head _) e
    · exact (List.nodup_cons.mp nd'.2.1).1 (by have z := List.mem_map_of_mem (f := fun x : Addr × Cell => x.1) q; rw [e] at z; exact z)
  refine ⟨S.ns.extBut hs (Ne.symm D.2.1), fun b o e => hs b o ?_ (S.keep b o e), S.nl, fun p hp => ?_, S.nd.sublist (sub.map _)⟩
  · rintro rfl; rw [D.2.2] at e; cases e
  · obtain ⟨⟨o, e, hc⟩, n⟩ := S.own p (sub.subset hp)
    exact ⟨⟨o, hs _ _ (na p hp) e, hc⟩, n⟩
theorem St.upd0 {a : Addr} {c c' : Cell} (S : St B L m ((a, c) :: U) h) (hs : Heap.ExtBut a h h') {o' : Obj} (ho : h'.get? a = some o') (hc : c' o') :
    St B L m ((a, c') :: U) h' := St.upd (U₁ := []) S hs ho hc
theorem hide_self (h : Heap) (a : Addr) : (h.hide a).get? a = none := Heap.hide_self ..
theorem St.give {U₁ U₂ : List (Addr × Cell)} {a : Addr} {c : Cell} (S : St B L m (U₁ ++ (a, c) :: U₂) h) : ∃ B' o, Kp B B' ∧ B'.get? a = some o ∧ c o ∧ St B' L m (U₁ ++ U₂) h := by
  obtain ⟨⟨o, ho, hc⟩, hL, hB⟩ := S.own (a, c) (by simp)
  have nd := S.nd
  rw [List.map_append, List.map_cons] at nd
  have nd' := (List.nodup_append.mp nd)
  have na : ∀ p ∈ U₁ ++ U₂, p.1 ≠ a := by
    intro p hp e
    rcases List.mem_append.mp hp with q | q
    · exact nd'.2.2 p.1 (List.mem_map_of_mem q) a (.head _) e
    · exact (List.nodup_cons.mp nd'.2.1).1 (by have z := List.mem_map_of_mem (f := fun x : Addr × Cell => x.1) q; rw [e] at z; exact z)
  have sub : (U₁ ++ U₂).Sublist (U₁ ++ (a, c) :: U₂) := List.Sublist.append (List.Sublist.refl _) (List.sublist_cons_self _ _)
  refine ⟨hideAll h (L :: (U₁ ++ U₂).map (·.1)), o, fun b o' e => ?_, ?_, hc, S.ns, fun b o' e => of_hideAll _ e, hideAll_none _ (.head _), fun p hp => ?_, S.nd.sublist (sub.map _)⟩
  · refine hideAll_get _ (S.keep b o' e) fun q => ?_
    rcases List.mem_cons.mp q with rfl | q
    · rw [S.nl] at e; cases e
    · obtain ⟨p, hp, rfl⟩ := List.mem_map.mp q
      rw [(S.own p (sub.subset hp)).2.2] at e; cases e
  · refine hideAll_get _ ho fun q => ?_
    rcases List.mem_cons.mp q with rfl | q
    · exact hL rfl
    · obtain ⟨p, hp, e⟩ := List.mem_map.mp q
      exact na p hp e
  · obtain ⟨x, n1, _⟩ := S.own p (sub.subset hp)
    exact ⟨x, n1, hideAll_none _ (List.mem_cons_of_mem _ (List.mem_map_of_mem hp))⟩
theorem St.inner (S : St B L m U h) : ∃ B₀ oL, Kp B B₀ ∧ Kp B₀ h ∧ h.get? L = some oL ∧ (∀ h' : Heap, h'.get? L = some oL → h'.Ns L m) ∧ B₀.get? L = none ∧ ∀ p ∈ U, B₀.get? p.1 = none := by
  obtain ⟨oL, es, ep, hL, r⟩ := S.ns
  refine ⟨hideAll h (L :: U.map (·.1)), oL, fun b o e => ?_, fun b o e => of_hideAll _ e, hL, fun h' e => ⟨oL, es, ep, e, r⟩, hideAll_none _ (.head _), fun p hp => hideAll_none _ (List.mem_cons_of_mem _ (List.mem_map_of_mem hp))⟩
  refine hideAll_get _ (S.keep b o e) fun q => ?_
  rcases List.mem_cons.mp q with rfl | q
  · rw [S.nl] at e; cases e
  · obtain ⟨p, hp, rfl⟩ := List.mem_map.mp q
    rw [(S.own p hp).2.2] at e; cases e
theorem St.perm {V : List (Addr × Cell)} (S : St B L m U h) (hp : U.Perm V) : St B L m V h :=
  ⟨S.ns, S.keep, S.nl, fun p q => S.own p (hp.mem_iff.mpr q), (hp.map _).nodup_iff.mp S.nd⟩
theorem St.ne {a b : Addr} {c d : Cell} {U₁ U₂ U₃ : List (Addr × Cell)} (S : St B L m (U₁ ++ (a, c) :: (U₂ ++ (b, d) :: U₃)) h) : a ≠ b := by
  have nd := S.nd
  rw [List.map_append, List.map_cons] at nd
  have := (List.nodup_cons.mp (List.nodup_append.mp nd).2.1).1
  intro e; subst e
  exact this (by simp)
theorem St.old {a : Addr} {o : Obj} (S : St B L m U h) (e : B.get? a = some o) : h.get? a = some o := S.keep _ _ e
theorem St.give0 {a : Addr} {c : Cell} (S : St B L m ((a, c) :: U) h) : ∃ B' o, Kp B B' ∧ B'.get? a = some o ∧ c o ∧ St B' L m U h := St.give (U₁ := []) S
end
section
variable {w : World} {A : Around} {E : Value → Shared → Prop} {s₀ : Shared} {B : Heap} {L : Addr} {m m' : Str → Option Value} {U : List (Addr × Cell)} {h : Heap} {k : Nat} {env : Env}
theorem Str_dbg (x : Str) : (x == ("__debug__" : Str)) = decide (x = "__debug__") := by
  rw [Bool.eq_iff_iff]; simp
theorem nm {x : Str} {pos : Pos} {v : Value} {Q : Value → Shared → Prop} (S : St B env.locals m U h) (hk : env.scope.kind = .function) (hl : env.kindOf x = some .local) (hv : m x = some v)
    (hQ : Q v (Sh s₀ h k)) (hd : (x == ("__debug__" : Str)) = false := by decide) : wpAny (model PW w) A (eval (.Name x pos) env) Q E (Sh s₀ h k) :=
  wpAny_Name (wpAny_loadName_local (s := Sh s₀ h k) hk hl S.ns hv hQ) hd
theorem ldn {x : Str} {v : Value} {Q : Value → Shared → Prop} (S : St B env.locals m U h) (hk : env.scope.kind = .function) (hl : env.kindOf x = some .local) (hv : m x = some v)
    (hQ : Q v (Sh s₀ h k)) : wpAny (model PW w) A (loadName env x) Q E (Sh s₀ h k) :=
  wpAny_loadName_local (s := Sh s₀ h k) hk hl S.ns hv hQ
theorem stn {x : Str} {v : Value} {Q : Unit → Shared → Prop} (S : St B env.locals m U h) (hk : env.scope.kind = .function) (hl : env.kindOf x = some .local)
    (hQ : ∀ h' k', St B env.locals (fun y => if y = x then some v else m y) U h' → Q () (Sh s₀ h' k')) : wpAny (model PW w) A (storeName env x v) Q E (Sh s₀ h k) :=
  wpAny_storeName_local (s := Sh s₀ h k) hl S.ns (fun h' hn hs => hQ h' _ (S.locals hn hs)) (by rw [hk]; rfl)
theorem stn' {x : Str} {v : Value} {Q : Unit → Shared → Prop} (S : St B env.locals m U h) (hk : env.scope.kind = .function) (hl : env.kindOf x = some .local)
    (hQ : ∀ h', St B env.locals (fun y => if y = x then some v else m y) U h' → Q () (Sh s₀ h' (k + 1))) : wpAny (model PW w) A (storeName env x v) Q E (Sh s₀ h k) :=
  wpAny_storeName_local (s := Sh s₀ h k) hl S.ns (fun h' hn hs => hQ h' (S.locals hn hs)) (by rw [hk]; rfl)
end
structure Runs (w : World) (A : Around) {α : Type} (c : Sem α) (Q : α → Shared → Prop) (E : Value → Shared → Prop) (s : Shared) : Prop where
  go : wpAny (model PW w) A c Q E s
noncomputable def stmtAt (i : Nat) : Stmt := (PW.main.body[i]?).getD (.Pass default)
noncomputable def dBody : Stmt → List Stmt | .FunctionDef _ _ b _ _ _ _ _ _ _ => b | _ => []
noncomputable def dArgs : Stmt → Arguments | .FunctionDef _ a _ _ _ _ _ _ _ _ => a | _ => ⟨[], [], none, [], [], none, []⟩
noncomputable def dScope : Stmt → Scope | .FunctionDef _ _ _ _ _ _ s _ _ _ => s | _ => default
noncomputable def dName : Stmt → Str | .FunctionDef n _ _ _ _ _ _ _ _ _ => n | _ => Str.empty
noncomputable def cBody : Stmt → List Stmt | .ClassDef _ _ _ b _ _ _ _ _ _ _ => b | _ => []
noncomputable def inCls (i j : Nat) : Stmt := ((cBody (stmtAt i))[j]?).getD (.Pass default)
noncomputable def txts (xs : List Str) : Cell := fun o => ∃ l n, l.map (·.1) = xs ∧ o = { cls := .type "list", data := .seq (strValues l).toArray n }
theorem txts_lst {l : List (Str × Tok)} {xs : List Str} {o : Obj} (e : l.map (·.1) = xs) (h : lst (strValues l) o) : txts xs o := let ⟨n, h⟩ := h; ⟨l, n, e, h⟩
theorem plain_of {h : Heap} {a : Addr} {vs : List Value} {o : Obj} (e : h.get? a = some o) (c : lst vs o) : h.PlainList a vs.toArray := by
  obtain ⟨n, rfl⟩ := c; exact ⟨n, e⟩
theorem of_plain {h : Heap} {a : Addr} {vs : Array Value} (p : h.PlainList a vs) : ∃ o, h.get? a = some o ∧ lst vs.toList o := by
  obtain ⟨n, e⟩ := p; exact ⟨_, e, n, by simp⟩
section
variable {w : World} {A : Around} {E : Value → Shared → Prop} {s₀ : Shared} {B : Heap} {L : Addr} {m : Str → Option Value} {U : List (Addr × Cell)} {h : Heap} {k : Nat} {env : Env}
theorem meth {T id : String} {o : Expr} {name : Str} {apos pos : Pos} {args : List Expr} {Q : Value → Shared → Prop} {s : Shared} (pa : PlainAttrs T) (slot : Slot T name id)
    (ty : typeOf (.builtin id) = pure (.type "method_descriptor"))
    (hv : wpAny (model PW w) A (eval o env) (fun ov s₁ => s₁.TypeIs ov T ∧ (∀ a, ov = .ref a → ∃ ob, s₁.heap.get? a = some ob ∧ ob.dict = none) ∧
      wpAny (model PW w) A (spliced (backTo pos (starEach args env))) (fun vs s₂ => wpAny (model PW w) A (call (.builtin id) (ov :: vs)) Q E s₂) E s₁) E s)
    (hbase : attributeBase o name env (eval o env) = eval o env := by rfl)
    (hfew : ((backTo pos (starEach args env)).all (fun x => !x.1) && (backToKw pos (keywordEach [] env)).all (fun x => x.1.isSome)
      && decide (args.length + ([] : List Keyword).length + (if ([] : List Keyword).isEmpty then 0 else 1) < 30)) = true := by rfl)
    (hline : (apos.endLine == pos.line) = true := by rfl) (hst : (backTo pos (starEach args env)).any (·.1) = false := by rfl) :
    wpAny (model PW w) A (eval (.Call (.Attribute o name apos) args [] pos) env) Q E s := by
  refine wpAny_Call_method_lateS hbase hfew hline (wpAny_mono hv (fun ov s₁ q => ?_) fun _ _ e => e)
  obtain ⟨q1, q2, q3⟩ := q
  refine ⟨T, id, pa, slot, ty, q1, q2, callWith_builtin hst ?_⟩
  generalize hb : backTo pos (starEach args env) = bs at q3 hst ⊢
  cases bs with
  | nil => exact evalArgs_none (fun Γ p hΓ => q3 Γ p hΓ Γ p hΓ)
  | cons b r =>
    obtain ⟨st, x⟩ := b
    have : st = false := by simpa using (List.any_eq_false.mp hst (st, x) (.head _))
    subst this
    exact evalArgs_plain q3
theorem smeth {id : String} {o : Expr} {name : Str} {apos pos : Pos} {args : List Expr} {Q : Value → Shared → Prop} {s : Shared} (slot : Slot "str" name id)
    (ty : typeOf (.builtin id) = pure (.type "method_descriptor"))
    (hv : wpAny (model PW w) A (eval o env) (fun ov s₁ => (∃ x t, ov = .str x t) ∧
      wpAny (model PW w) A (spliced (backTo pos (starEach args env))) (fun vs s₂ => wpAny (model PW w) A (call (.builtin id) (ov :: vs)) Q E s₂) E s₁) E s)
    (hbase : attributeBase o name env (eval o env) = eval o env := by rfl)
    (hfew : ((backTo pos (starEach args env)).all (fun x => !x.1) && (backToKw pos (keywordEach [] env)).all (fun x => x.1.isSome)
      && decide (args.length + ([] : List Keyword).length + (if ([] : List Keyword).isEmpty then 0 else 1) < 30)) = true := by rfl)
    (hline : (apos.endLine == pos.line) = true := by rfl) (hst : (backTo pos (starEach args env)).any (·.1) = false := by rfl) :
    wpAny (model PW w) A (eval (.Call (.Attribute o name apos) args [] pos) env) Q E s := by
  refine meth F.plainAttrs_str slot ty (wpAny_mono hv (fun ov s₁ q => ?_) fun _ _ e => e) hbase hfew hline hst
  obtain ⟨⟨x, t, rfl⟩, q⟩ := q
  exact ⟨typeIs_str _ _ _, fun a e => (nomatch e), q⟩
theorem lmeth {id : String} {o : Expr} {name : Str} {apos pos : Pos} {args : List Expr} {Q : Value → Shared → Prop} {s : Shared} (slot : Slot "list" name id)
    (ty : typeOf (.builtin id) = pure (.type "method_descriptor"))
    (hv : wpAny (model PW w) A (eval o env) (fun ov s₁ => (∃ a vs, ov = .ref a ∧ s₁.heap.PlainList a vs) ∧
      wpAny (model PW w) A (spliced (backTo pos (starEach args env))) (fun vs s₂ => wpAny (model PW w) A (call (.builtin id) (ov :: vs)) Q E s₂) E s₁) E s)
    (hbase : attributeBase o name env (eval o env) = eval o env := by rfl)
    (hfew : ((backTo pos (starEach args env)).all (fun x => !x.1) && (backToKw pos (keywordEach [] env)).all (fun x => x.1.isSome)
      && decide (args.length + ([] : List Keyword).length + (if ([] : List Keyword).isEmpty then 0 else 1) < 30)) = true := by rfl)
    (hline : (apos.endLine == pos.line) = true := by rfl) (hst : (backTo pos (starEach args env)).any (·.1) = false := by rfl) :
    wpAny (model PW w) A (eval (.Call (.Attribute o name apos) args [] pos) env) Q E s := by
  refine meth F.plainAttrs_list slot ty (wpAny_mono hv (fun ov s₁ q => ?_) fun _ _ e => e) hbase hfew hline hst
  obtain ⟨⟨a, vs, rfl, n, ho⟩, q⟩ := q
  exact ⟨⟨_, ho, rfl⟩, fun a' e => by cases e; exact ⟨_, ho, rfl⟩, q⟩
theorem arg0 {Q : List Value → Shared → Prop} {s : Shared} (hQ : Q [] s) : wpAny (model PW w) A (spliced []) Q E s := spliced_nil hQ
theorem arg1 {pos : Pos} {e : Expr} {Q : List Value → Shared → Prop} {s : Shared} (hv : wpAny (model PW w) A (eval e env) (fun v s₁ => Q [v] s₁) E s)
    (hs : starEach [e] env = [(false, eval e env)] := by rfl) : wpAny (model PW w) A (spliced (backTo pos (starEach [e] env))) Q E s := by
  rw [hs]
  exact spliced_cons (wpAny_mono hv (fun _ _ q => spliced_nil q) fun _ _ q => q)
theorem arg2 {pos : Pos} {e f : Expr} {Q : List Value → Shared → Prop} {s : Shared} (hv : wpAny (model PW w) A (eval e env) (fun v s₁ => wpAny (model PW w) A (eval f env) (fun u s₂ => Q [v, u] s₂) E s₁) E s)
    (hs : starEach [e, f] env = [(false, eval e env), (false, eval f env)] := by rfl) : wpAny (model PW w) A (spliced (backTo pos (starEach [e, f] env))) Q E s := by
  rw [hs]
  exact spliced_cons (wpAny_mono hv (fun _ _ q => spliced_cons (wpAny_mono q (fun _ _ q => spliced_nil q) fun _ _ q => q)) fun _ _ q => q)
theorem arg3 {pos : Pos} {e f g : Expr} {Q : List Value → Shared → Prop} {s : Shared}
    (hv : wpAny (model PW w) A (eval e env) (fun v s₁ => wpAny (model PW w) A (eval f env) (fun u s₂ => wpAny (model PW w) A (eval g env) (fun z s₃ => Q [v, u, z] s₃) E s₂) E s₁) E s)
    (hs : starEach [e, f, g] env = [(false, eval e env), (false, eval f env), (false, eval g env)] := by rfl) : wpAny (model PW w) A (spliced (backTo pos (starEach [e, f, g] env))) Q E s := by
  rw [hs]
  exact spliced_cons (wpAny_mono hv (fun _ _ q => spliced_cons (wpAny_mono q (fun _ _ q => spliced_cons (wpAny_mono q (fun _ _ q => spliced_nil q) fun _ _ q => q)) fun _ _ q => q)) fun _ _ q => q)
theorem add_s {x y : Str} {t u : Tok} {Q : Value → Shared → Prop} (hsz : x.length + y.length ≤ sizeLine) (hQ : ∀ t' k', Q (.str (x ++ y) t') (Sh s₀ h k')) :
    wpAny (model PW w) A (binaryOp .Add (.str x t) (.str y u)) Q E (Sh s₀ h k) := PyProof.Rows.add_str (s := Sh s₀ h k) (fun t' tk => hQ t' tk) hsz
theorem iadd_s {x y : Str} {t u : Tok} {Q : Value → Shared → Prop} (hsz : x.length + y.length ≤ sizeLine) (hQ : ∀ t' k', Q (.str (x ++ y) t') (Sh s₀ h k')) :
    wpAny (model PW w) A (inplaceOp .Add (.str x t) (.str y u)) Q E (Sh s₀ h k) := PyProof.Rows.iadd_str (s := Sh s₀ h k) (fun t' tk => hQ t' tk) hsz
theorem eq_s {x y : Str} {t u : Tok} {Q : Value → Shared → Prop} {s : Shared} (hQ : Q (.bool (x == y)) s) :
    wpAny (model PW w) A (compareOp .Eq (.str x t) (.str y u)) Q E s := PyProof.Rows.eq_str hQ
theorem slice_post {x : Str} {t : Tok} {l u : Option (Int × Tok)} {Q : Value → Shared → Prop} (hsz : x.length ≤ sizeLine) (hQ : ∀ t' k', Q (.str (Txt.slice x (l.map (·.1)) (u.map (·.1))) t') (Sh s₀ h k')) :
    (sliceMade x t l u none).post Q (Sh s₀ h k) := by
  have hl := Nat.le_trans (Txt.slice_le x (l.map (·.1)) (u.map (·.1))) hsz
  cases l <;> cases u <;> (unfold Txt.slice at hl hQ; exact post_val_or_str (s := Sh s₀ h k) ⟨hl, fun t' k' => hQ t' k'⟩)
theorem sl_s {value : Expr} {lower upper : Option Expr} {p pos : Pos} {Q : Value → Shared → Prop}
    (hv : wpAny (model PW w) A (eval value env) (fun o s₁ => wpAny (model PW w) A (evalPart lower env) (fun vl s₂ => wpAny (model PW w) A (evalPart upper env) (fun vu s₃ =>
      ∃ x t l u h' k', o = .str x t ∧ vl = partValue l ∧ vu = partValue u ∧ s₃ = Sh s₀ h' k' ∧ x.length ≤ sizeLine ∧
        ∀ h'' t' k'', Kp h' h'' → Q (.str (Txt.slice x (l.map (·.1)) (u.map (·.1))) t') (Sh s₀ h'' k'')) E s₂) E s₁) E (Sh s₀ h k))
    (ht : ∀ o r, letTemporaryGo value o r = pure () := by intro _ _; rfl) :
    wpAny (model PW w) A (eval (.Subscript value (.Slice lower upper none p) pos) env) Q E (Sh s₀ h k) := by
  refine wpAny_Subscript_str_slice (wpAny_mono hv (fun o s₁ q => wpAny_mono q (fun vl s₂ q => wpAny_mono q (fun vu s₃ q => ?_) fun _ _ e => e) fun _ _ e => e) fun _ _ e => e) ht
  obtain ⟨x, t, l, u, h', k', e1, e2, e3, rfl, hsz, hQ⟩ := q
  exact ⟨x, t, l, u, e1, e2, e3, slice_post (k := k') hsz fun t' k'' => hQ _ t' k'' (Kp.push _ _)⟩
theorem c_neg {i : Int} {c : Nat} {p p' : Pos} {Q : Value → Shared → Prop} (hQ : ∀ t, Q (.int (-i) t) (Sh s₀ h (k + 1 + 1))) :
    wpAny (model PW w) A (eval (.UnaryOp .USub (.Constant (.int i) c p) p') env) Q E (Sh s₀ h k) :=
  wpAny_UnaryOp (wpAny_Constant_int (PyProof.Rows.neg_int (s := Sh s₀ h (k + 1)) (hQ _)))
theorem c_int {i : Int} {c : Nat} {p : Pos} {Q : Value → Shared → Prop} (hQ : ∀ t, Q (.int i t) (Sh s₀ h (k + 1))) :
    wpAny (model PW w) A (eval (.Constant (.int i) c p) env) Q E (Sh s₀ h k) := wpAny_Constant_int (hQ _)
theorem c_str {x : Str} {c : Nat} {p : Pos} {Q : Value → Shared → Prop} (hQ : Q (.str x k) (Sh s₀ h (k + 1))) :
    wpAny (model PW w) A (eval (.Constant (.str x) c p) env) Q E (Sh s₀ h k) := wpAny_Constant_str hQ
end
noncomputable def K0 (P : Params) : Frag := [
  (2, ⟨.none, none, (.dict ([⟨PyData.keyHash P (Str.ofString "\x69mport.loaded._collections"), (.str (Str.ofString "\x69mport.loaded._collections") 185), (.bool true)⟩, ⟨PyData.keyHash P (Str.ofString "class._frozen_importlib.BuiltinImporter"), (.str (Str.ofString "class._frozen_importlib.BuiltinImporter") 187), (.ref 15)⟩, ⟨PyData.keyHash P (Str.ofString "watched.\x69mport"), (.str (Str.ofString "watched.\x69mport") 208), (.ref 19)⟩, ⟨PyData.keyHash P (Str.ofString "class._frozen_importlib.ModuleSpec"), (.str (Str.ofString "class._frozen_importlib.ModuleSpec") 218), (.ref 23)⟩, ⟨PyData.keyHash P (Str.ofString "sys.modules.booked-epoch"), (.str (Str.ofString "sys.modules.booked-epoch") 247), (.int (3) 0)⟩, ⟨PyData.keyHash P (Str.ofString "sys.modules.landed._collections"), (.str (Str.ofString "sys.modules.landed._collections") 248), (.bool true)⟩, ⟨PyData.keyHash P (Str.ofString "\x69mport.later-laid._collections"), (.str (Str.ofString "\x69mport.later-laid._collections") 263), (.bool true)⟩, ⟨PyData.keyHash P (Str.ofString "watched.library"), (.str (Str.ofString "watched.library") 265), (.ref 28)⟩, ⟨PyData.keyHash P (Str.ofString "watched.library-objects"), (.str (Str.ofString "watched.library-objects") 0), (.str (Str.ofString "\x0d") 0)⟩, ⟨PyData.keyHash P (Str.ofString "watched.library-deep._collections"), (.str (Str.ofString "watched.library-deep._collections") 266), (.str (Str.ofString "\x04\x00\x00\x0c\x04\x00\x00\x0c\x04\x00\x00\x03\x04\x00\x00\x0c\x08\x04dict\x02") 0)⟩, ⟨PyData.keyHash P (Str.ofString "type.__subclasses__.collections.defaultdict.0"), (.str (Str.ofString "type.__subclasses__.collections.defaultdict.0") 384), (.int (108) 0)⟩, ⟨PyData.keyHash P (Str.ofString "type.__subclasses__.collections.defaultdict.n"), (.str (Str.ofString "type.__subclasses__.collections.defaultdict.n") 385), (.int (1) 0)⟩] : List DictEntry).toArray 12), #[]⟩),
  (3, ⟨(.type "dict"), none, (.dict ([⟨PyData.keyHash P (Str.ofString "__name__"), (.str (Str.ofString "__name__") 165), (.str (Str.ofString "law_in0188_01") 562)⟩, ⟨PyData.keyHash P (Str.ofString "__doc__"), (.str (Str.ofString "__doc__") 166), .none⟩, ⟨PyData.keyHash P (Str.ofString "__package__"), (.str (Str.ofString "__package__") 167), .none⟩, ⟨PyData.keyHash P (Str.ofString "__loader__"), (.str (Str.ofString "__loader__") 168), (.builtin "__main__.__loader__#opaque")⟩, ⟨PyData.keyHash P (Str.ofString "__spec__"), (.str (Str.ofString "__spec__") 169), .none⟩, ⟨PyData.keyHash P (Str.ofString "__annotations__"), (.str (Str.ofString "__annotations__") 170), (.ref 6)⟩, ⟨PyData.keyHash P (Str.ofString "__builtins__"), (.str (Str.ofString "__builtins__") 171), (.ref 4)⟩, ⟨PyData.keyHash P (Str.ofString "__file__"), (.str (Str.ofString "__file__") 173), (.str (Str.ofString "/claim/cut.py") 172)⟩, ⟨PyData.keyHash P (Str.ofString "__cached__"), (.str (Str.ofString "__cached__") 174), .none⟩, ⟨PyData.keyHash P (Str.ofString "defaultdict"), (.str (Str.ofString "defaultdict") 272), (.type "collections.defaultdict")⟩, ⟨PyData.keyHash P (Str.ofString "_wall"), (.str (Str.ofString "_wall") 285), (.ref 39)⟩, ⟨PyData.keyHash P (Str.ofString "_tuplegetter"), (.str (Str.ofString "_tuplegetter") 344), (.ref 78)⟩, ⟨PyData.keyHash P (Str.ofString "FreezableDefaultDict"), (.str (Str.ofString "FreezableDefaultDict") 387), (.ref 108)⟩, ⟨PyData.keyHash P (Str.ofString "Pair"), (.str (Str.ofString "Pair") 502), (.ref 203)⟩, ⟨PyData.keyHash P (Str.ofString "parse_keqv_list"), (.str (Str.ofString "parse_keqv_list") 554), (.ref 213)⟩, ⟨PyData.keyHash P (Str.ofString "parse_http_list"), (.str (Str.ofString "parse_http_list") 561), (.ref 218)⟩, ⟨PyData.keyHash P (Str.ofString "_law_header"), (.str (Str.ofString "_law_header") 569), (.ref 223)⟩, ⟨PyData.keyHash P (Str.ofString "_law_plain"), (.str (Str.ofString "_law_plain") 575), (.ref 228)⟩, ⟨PyData.keyHash P (Str.ofString "_law_items"), (.str (Str.ofString "_law_items") 581), (.ref 233)⟩, ⟨PyData.keyHash P (Str.ofString "_law_read"), (.str (Str.ofString "_law_read") 587), (.ref 238)⟩, ⟨PyData.keyHash P (Str.ofString "_law_values"), (.str (Str.ofString "_law_values") 599), (.ref 245)⟩, ⟨PyData.keyHash P (Str.ofString "_law_due"), (.str (Str.ofString "_law_due") 605), (.ref 250)⟩, ⟨PyData.keyHash P (Str.ofString "_law_off"), (.str (Str.ofString "_law_off") 612), (.ref 257)⟩, ⟨PyData.keyHash P (Str.ofString "_law_bare"), (.str (Str.ofString "_law_bare") 624), (.ref 264)⟩, ⟨PyData.keyHash P (Str.ofString "_law_dict"), (.str (Str.ofString "_law_dict") 631), (.ref 271)⟩, ⟨PyData.keyHash P (Str.ofString "_law_again"), (.str (Str.ofString "_law_again") 637), (.ref 276)⟩, ⟨PyData.keyHash P (Str.ofString "law"), (.str (Str.ofString "law") 643), (.ref 281)⟩] : List DictEntry).toArray 27), #[]⟩),
  (54, ⟨(.type "tuple"), none, (.seq #[.none] 0), #[]⟩),
  (60, ⟨(.type "code"), none, (.fields #[(.str (Str.ofString "__get__") 309), (.str (Str.ofString "_tuplegetter.__get__") 310), (.str (Str.ofString "/claim/cut.py") 311), (.int (12) 0), (.int (3) 0), (.int (0) 0), (.int (0) 0), (.int (3) 0), (.ref 55), (.bool true), (.int (273) 0), (.ref 56), .none, (.ref 57), (.ref 58), (.ref 59), (.int (315) 0), (.int (12) 0), (.str (Str.ofString "/claim/cut.py") 316)]), #[]⟩),
  (61, ⟨(.type "function"), none, (.func { name := (Str.ofString "__get__"), qualname := (Str.ofString "_tuplegetter.__get__"), params := dArgs (inCls 3 1), body := .stmts (dBody (inCls 3 1)), scope := dScope (inCls 3 1), globals := 3, closure := [], defaults := (.ref 54), kwdefaults := .none, doc := .none, pyModule := (.str (Str.ofString "cpy313.importlib.metadata._collections") 286), annotations := none, code := (.ref 60), closureTuple := .none, builtins := 0 }), #[]⟩),
  (77, ⟨(.type "dict"), none, (.dict ([⟨PyData.keyHash P (Str.ofString "__module__"), (.str (Str.ofString "__module__") 295), (.str (Str.ofString "cpy313.importlib.metadata._collections") 286)⟩, ⟨PyData.keyHash P (Str.ofString "__firstlineno__"), (.str (Str.ofString "__firstlineno__") 299), (.int (6) 298)⟩, ⟨PyData.keyHash P (Str.ofString "__init__"), (.str (Str.ofString "__init__") 308), (.ref 53)⟩, ⟨PyData.keyHash P (Str.ofString "__get__"), (.str (Str.ofString "__get__") 317), (.ref 61)⟩, ⟨PyData.keyHash P (Str.ofString "__set__"), (.str (Str.ofString "__set__") 326), (.ref 68)⟩, ⟨PyData.keyHash P (Str.ofString "__delete__"), (.str (Str.ofString "__delete__") 334), (.ref 75)⟩, ⟨PyData.keyHash P (Str.ofString "__static_attributes__"), (.str (Str.ofString "__static_attributes__") 337), (.ref 76)⟩, ⟨PyData.keyHash P (Str.ofString "__dict__"), (.str (Str.ofString "__dict__") 339), (.ref 79)⟩, ⟨PyData.keyHash P (Str.ofString "__weakref__"), (.str (Str.ofString "__weakref__") 341), (.ref 80)⟩, ⟨PyData.keyHash P (Str.ofString "__doc__"), (.str (Str.ofString "__doc__") 342), .none⟩] : List DictEntry).toArray 4), #[]⟩),
  (78, ⟨(.type "type"), none, (.cls { name := (Str.ofString "_tuplegetter"), bases := [(.type "object")], mro := [(.ref 78), (.type "object")], ns := 77, qualname := (Str.ofString "_tuplegetter"), hasDict := true, slotNames := [], subclasses := [], abstract := false, collection := none, hasDel := false }), #[none, none, (some (.str (Str.ofString "_tuplegetter") 288)), (some (.str (Str.ofString "_tuplegetter") 296)), (some (.builtin "object.__new__")), (some (.bool true))]⟩),
  (86, ⟨(.type "cell"), none, (.cell (some (.ref 108))), #[]⟩),
  (91, ⟨(.type "tuple"), none, (.seq #[(.ref 86)] 0), #[]⟩),
  (97, ⟨(.type "code"), none, (.fields #[(.str (Str.ofString "__missing__") 360), (.str (Str.ofString "FreezableDefaultDict.__missing__") 361), (.str (Str.ofString "/claim/cut.py") 362), (.int (39) 0), (.int (2) 0), (.int (0) 0), (.int (0) 0), (.int (3) 0), (.ref 92), (.bool true), (.int (273) 0), (.ref 93), .none, (.ref 94), (.ref 95), (.ref 96), (.int (366) 0), (.int (39) 0), (.str (Str.ofString "/claim/cut.py") 367)]), #[]⟩),
  (98, ⟨(.type "function"), none, (.func { name := (Str.ofString "__missing__"), qualname := (Str.ofString "FreezableDefaultDict.__missing__"), params := dArgs (inCls 4 1), body := .stmts (dBody (inCls 4 1)), scope := dScope (inCls 4 1), globals := 3, closure := [((Str.ofString "__class__"), 86)], defaults := .none, kwdefaults := .none, doc := .none, pyModule := (.str (Str.ofString "cpy313.importlib.metadata._collections") 286), annotations := none, code := (.ref 97), closureTuple := (.ref 91), builtins := 0 }), #[]⟩),
  (104, ⟨(.type "code"), none, (.fields #[(.str (Str.ofString "freeze") 369), (.str (Str.ofString "FreezableDefaultDict.freeze") 370), (.str (Str.ofString "/claim/cut.py") 371), (.int (42) 0), (.int (1) 0), (.int (0) 0), (.int (0) 0), (.int (3) 0), (.ref 99), (.bool true), (.int (273) 0), (.ref 100), .none, (.ref 101), (.ref 102), (.ref 103), (.int (374) 0), (.int (42) 0), (.str (Str.ofString "/claim/cut.py") 375)]), #[]⟩),
  (105, ⟨(.type "function"), none, (.func { name := (Str.ofString "freeze"), qualname := (Str.ofString "FreezableDefaultDict.freeze"), params := dArgs (inCls 4 2), body := .stmts (dBody (inCls 4 2)), scope := dScope (inCls 4 2), globals := 3, closure := [], defaults := .none, kwdefaults := .none, doc := .none, pyModule := (.str (Str.ofString "cpy313.importlib.metadata._collections") 286), annotations := none, code := (.ref 104), closureTuple := .none, builtins := 0 }), #[]⟩),
  (107, ⟨(.type "dict"), none, (.dict ([⟨PyData.keyHash P (Str.ofString "__module__"), (.str (Str.ofString "__module__") 352), (.str (Str.ofString "cpy313.importlib.metadata._collections") 286)⟩, ⟨PyData.keyHash P (Str.ofString "__firstlineno__"), (.str (Str.ofString "__firstlineno__") 356), (.int (24) 355)⟩, ⟨PyData.keyHash P (Str.ofString "__doc__"), (.str (Str.ofString "__doc__") 358), (.str (Str.ofString "\nOften it is desirable to prevent the mutation of\na default dict after its initial construction, such\nas to prevent mutation during iteration.\n\n>>> dd = FreezableDefaultDict(list)\n>>> dd[0].append('1')\n>>> dd.freeze()\n>>> dd[1]\n[]\n>>> len(dd)\n1\n") 357)⟩, ⟨PyData.keyHash P (Str.ofString "__missing__"), (.str (Str.ofString "__missing__") 368), (.ref 98)⟩, ⟨PyData.keyHash P (Str.ofString "freeze"), (.str (Str.ofString "freeze") 376), (.ref 105)⟩, ⟨PyData.keyHash P (Str.ofString "__static_attributes__"), (.str (Str.ofString "__static_attributes__") 378), (.ref 106)⟩, ⟨PyData.keyHash P (Str.ofString "__dict__"), (.str (Str.ofString "__dict__") 381), (.ref 109)⟩, ⟨PyData.keyHash P (Str.ofString "__weakref__"), (.str (Str.ofString "__weakref__") 383), (.ref 110)⟩] : List DictEntry).toArray 4), #[]⟩),
  (108, ⟨(.type "type"), none, (.cls { name := (Str.ofString "FreezableDefaultDict"), bases := [(.type "collections.defaultdict")], mro := [(.ref 108), (.type "collections.defaultdict"), (.type "dict"), (.type "object")], ns := 107, qualname := (Str.ofString "FreezableDefaultDict"), hasDict := true, slotNames := [(Str.ofString "")], subclasses := [], abstract := false, collection := none, hasDel := false }), #[(some (.ref 83)), none, (some (.str (Str.ofString "FreezableDefaultDict") 345)), (some (.str (Str.ofString "FreezableDefaultDict") 353)), (some (.builtin "dict.__new__")), (some (.bool true))]⟩),
  (129, ⟨(.type "code"), none, (.fields #[(.str (Str.ofString "__new__") 408), (.str (Str.ofString "Pair.__new__") 409), (.str (Str.ofString "/claim/cut.py") 410), (.int (50) 0), (.int (3) 0), (.int (0) 0), (.int (0) 0), (.int (3) 0), (.ref 124), (.bool true), (.int (273) 0), (.ref 125), .none, (.ref 126), (.ref 127), (.ref 128), (.int (414) 0), (.int (50) 0), (.str (Str.ofString "/claim/cut.py") 415)]), #[]⟩),
  (130, ⟨(.type "function"), none, (.func { name := (Str.ofString "__new__"), qualname := (Str.ofString "Pair.__new__"), params := dArgs (inCls 5 4), body := .stmts (dBody (inCls 5 4)), scope := dScope (inCls 5 4), globals := 3, closure := [], defaults := .none, kwdefaults := .none, doc := (.str (Str.ofString "Create new instance of Pair(name, value)") 416), pyModule := (.str (Str.ofString "cpy313.importlib.metadata._collections") 286), annotations := none, code := (.ref 129), closureTuple := .none, builtins := 0 }), #[]⟩),
  (171, ⟨(.type "dict"), none, (.dict ([⟨PyData.keyHash P (Str.ofString "index"), (.str (Str.ofString "index") 484), (.int (0) 478)⟩, ⟨PyData.keyHash P (Str.ofString "__doc__"), (.str (Str.ofString "__doc__") 486), (.str (Str.ofString "Alias for field number 0") 479)⟩] : List DictEntry).toArray 2), #[]⟩),
  (172, ⟨(.ref 78), some 171, .plain, #[]⟩),
  (174, ⟨(.type "dict"), none, (.dict ([⟨PyData.keyHash P (Str.ofString "index"), (.str (Str.ofString "index") 494), (.int (1) 488)⟩, ⟨PyData.keyHash P (Str.ofString "__doc__"), (.str (Str.ofString "__doc__") 496), (.str (Str.ofString "Alias for field number 1") 489)⟩] : List DictEntry).toArray 2), #[]⟩),
  (175, ⟨(.ref 78), some 174, .plain, #[]⟩),
  (179, ⟨(.type "dict"), none, (.dict ([⟨PyData.keyHash P (Str.ofString "__module__"), (.str (Str.ofString "__module__") 395), (.str (Str.ofString "cpy313.importlib.metadata._collections") 286)⟩, ⟨PyData.keyHash P (Str.ofString "__firstlineno__"), (.str (Str.ofString "__firstlineno__") 399), (.int (44) 398)⟩, ⟨PyData.keyHash P (Str.ofString "__doc__"), (.str (Str.ofString "__doc__") 401), (.str (Str.ofString "Pair(name, value)") 400)⟩, ⟨PyData.keyHash P (Str.ofString "__slots__"), (.str (Str.ofString "__slots__") 403), (.ref 121)⟩, ⟨PyData.keyHash P (Str.ofString "_fields"), (.str (Str.ofString "_fields") 406), (.ref 122)⟩, ⟨PyData.keyHash P (Str.ofString "_field_defaults"), (.str (Str.ofString "_field_defaults") 407), (.ref 123)⟩, ⟨PyData.keyHash P (Str.ofString "__new__"), (.str (Str.ofString "__new__") 417), (.ref 181)⟩, ⟨PyData.keyHash P (Str.ofString "_make"), (.str (Str.ofString "_make") 439), (.ref 139)⟩, ⟨PyData.keyHash P (Str.ofString "_replace"), (.str (Str.ofString "_replace") 450), (.ref 148)⟩, ⟨PyData.keyHash P (Str.ofString "__replace__"), (.str (Str.ofString "__replace__") 451), (.ref 148)⟩, ⟨PyData.keyHash P (Str.ofString "__repr__"), (.str (Str.ofString "__repr__") 459), (.ref 155)⟩, ⟨PyData.keyHash P (Str.ofString "_asdict"), (.str (Str.ofString "_asdict") 466), (.ref 162)⟩, ⟨PyData.keyHash P (Str.ofString "__getnewargs__"), (.str (Str.ofString "__getnewargs__") 474), (.ref 169)⟩, ⟨PyData.keyHash P (Str.ofString "__match_args__"), (.str (Str.ofString "__match_args__") 477), (.ref 170)⟩, ⟨PyData.keyHash P (Str.ofString "name"), (.str (Str.ofString "name") 487), (.ref 172)⟩, ⟨PyData.keyHash P (Str.ofString "value"), (.str (Str.ofString "value") 497), (.ref 175)⟩, ⟨PyData.keyHash P (Str.ofString "__static_attributes__"), (.str (Str.ofString "__static_attributes__") 498), (.ref 177)⟩] : List DictEntry).toArray 2), #[]⟩),
  (180, ⟨(.type "type"), none, (.cls { name := (Str.ofString "Pair"), bases := [(.type "tuple")], mro := [(.ref 180), (.type "tuple"), (.type "object")], ns := 179, qualname := (Str.ofString "Pair"), hasDict := false, slotNames := [], subclasses := [(.ref 203)], abstract := false, collection := none, hasDel := false }), #[(some (.ref 113)), none, (some (.str (Str.ofString "Pair") 388)), (some (.str (Str.ofString "Pair") 396)), (some .none), (some (.bool false))]⟩),
  (181, ⟨(.type "staticmethod"), none, (.fields #[(.ref 130)]), #[]⟩),
  (196, ⟨(.type "code"), none, (.fields #[(.str (Str.ofString "parse") 515), (.str (Str.ofString "Pair.parse") 516), (.str (Str.ofString "/claim/cut.py") 517), (.int (88) 0), (.int (2) 0), (.int (0) 0), (.int (0) 0), (.int (3) 0), (.ref 191), (.bool true), (.int (273) 0), (.ref 192), .none, (.ref 193), (.ref 194), (.ref 195), (.int (520) 0), (.int (88) 0), (.str (Str.ofString "/claim/cut.py") 521)]), #[]⟩),
  (197, ⟨(.type "function"), none, (.func { name := (Str.ofString "parse"), qualname := (Str.ofString "Pair.parse"), params := dArgs (inCls 6 0), body := .stmts (dBody (inCls 6 0)), scope := dScope (inCls 6 0), globals := 3, closure := [], defaults := .none, kwdefaults := .none, doc := .none, pyModule := (.str (Str.ofString "cpy313.importlib.metadata._collections") 286), annotations := (some 200), code := (.ref 196), closureTuple := .none, builtins := 0 }), #[]⟩),
  (199, ⟨(.type "classmethod"), some 198, (.fields #[(.ref 197), (.bool false)]), #[]⟩),
  (202, ⟨(.type "dict"), none, (.dict ([⟨PyData.keyHash P (Str.ofString "__module__"), (.str (Str.ofString "__module__") 510), (.str (Str.ofString "cpy313.importlib.metadata._collections") 286)⟩, ⟨PyData.keyHash P (Str.ofString "__firstlineno__"), (.str (Str.ofString "__firstlineno__") 514), (.int (86) 513)⟩, ⟨PyData.keyHash P (Str.ofString "parse"), (.str (Str.ofString "parse") 534), (.ref 199)⟩, ⟨PyData.keyHash P (Str.ofString "__static_attributes__"), (.str (Str.ofString "__static_attributes__") 535), (.ref 201)⟩, ⟨PyData.keyHash P (Str.ofString "__dict__"), (.str (Str.ofString "__dict__") 537), (.ref 204)⟩, ⟨PyData.keyHash P (Str.ofString "__doc__"), (.str (Str.ofString "__doc__") 538), .none⟩] : List DictEntry).toArray 3), #[]⟩),
  (203, ⟨(.type "type"), none, (.cls { name := (Str.ofString "Pair"), bases := [(.ref 180)], mro := [(.ref 203), (.ref 180), (.type "tuple"), (.type "object")], ns := 202, qualname := (Str.ofString "Pair"), hasDict := true, slotNames := [], subclasses := [], abstract := false, collection := none, hasDel := false }), #[(some (.ref 184)), none, (some (.str (Str.ofString "Pair") 503)), (some (.str (Str.ofString "Pair") 511)), (some .none), (some (.bool false))]⟩),
  (212, ⟨(.type "code"), none, (.fields #[(.str (Str.ofString "parse_keqv_list") 543), (.str (Str.ofString "parse_keqv_list") 544), (.str (Str.ofString "/claim/cut.py") 545), (.int (92) 0), (.int (1) 0), (.int (0) 0), (.int (0) 0), (.int (3) 0), (.ref 207), (.bool true), (.int (273) 0), (.ref 208), .none, (.ref 209), (.ref 210), (.ref 211), (.int (551) 0), (.int (92) 0), (.str (Str.ofString "/claim/cut.py") 552)]), #[]⟩),
  (213, ⟨(.type "function"), none, (.func { name := (Str.ofString "parse_keqv_list"), qualname := (Str.ofString "parse_keqv_list"), params := dArgs (stmtAt 8), body := .stmts (dBody (stmtAt 8)), scope := dScope (stmtAt 8), globals := 3, closure := [], defaults := .none, kwdefaults := .none, doc := (.str (Str.ofString "Parse list of key=value strings where keys are not duplicated.") 553), pyModule := (.str (Str.ofString "cpy313.urllib.request") 541), annotations := none, code := (.ref 212), closureTuple := .none, builtins := 0 }), #[]⟩),
  (217, ⟨(.type "code"), none, (.fields #[(.str (Str.ofString "parse_http_list") 555), (.str (Str.ofString "parse_http_list") 556), (.str (Str.ofString "/claim/cut.py") 557), (.int (101) 0), (.int (1) 0), (.int (0) 0), (.int (0) 0), (.int (3) 0), (.ref 214), (.bool true), (.int (273) 0), (.ref 215), .none, .none, .none, (.ref 216), (.int (558) 0), (.int (101) 0), (.str (Str.ofString "/claim/cut.py") 559)]), #[]⟩),
  (218, ⟨(.type "function"), none, (.func { name := (Str.ofString "parse_http_list"), qualname := (Str.ofString "parse_http_list"), params := dArgs (stmtAt 9), body := .stmts (dBody (stmtAt 9)), scope := dScope (stmtAt 9), globals := 3, closure := [], defaults := .none, kwdefaults := .none, doc := (.str (Str.ofString "Parse lists as described by RFC 2068 Section 2.\n\nIn particular, parse comma-separated lists where the elements of\nthe list may include quoted-strings.  A quoted-string could\ncontain a comma.  A non-quoted string could have quotes in the\nmiddle.  Neither commas nor quotes count if they are escaped.\nOnly double-quotes count, not single-quotes.\n") 560), pyModule := (.str (Str.ofString "cpy313.urllib.request") 541), annotations := none, code := (.ref 217), closureTuple := .none, builtins := 0 }), #[]⟩),
  (222, ⟨(.type "code"), none, (.fields #[(.str (Str.ofString "_law_header") 564), (.str (Str.ofString "_law_header") 565), (.str (Str.ofString "/claim/cut.py") 566), (.int (137) 0), (.int (1) 0), (.int (0) 0), (.int (0) 0), (.int (3) 0), (.ref 219), (.bool true), (.int (273) 0), (.ref 220), .none, .none, .none, (.ref 221), (.int (567) 0), (.int (137) 0), (.str (Str.ofString "/claim/cut.py") 568)]), #[]⟩),
  (223, ⟨(.type "function"), none, (.func { name := (Str.ofString "_law_header"), qualname := (Str.ofString "_law_header"), params := dArgs (stmtAt 11), body := .stmts (dBody (stmtAt 11)), scope := dScope (stmtAt 11), globals := 3, closure := [], defaults := .none, kwdefaults := .none, doc := .none, pyModule := (.str (Str.ofString "law_in0188_01") 562), annotations := none, code := (.ref 222), closureTuple := .none, builtins := 0 }), #[]⟩),
  (227, ⟨(.type "code"), none, (.fields #[(.str (Str.ofString "_law_plain") 570), (.str (Str.ofString "_law_plain") 571), (.str (Str.ofString "/claim/cut.py") 572), (.int (140) 0), (.int (1) 0), (.int (0) 0), (.int (0) 0), (.int (3) 0), (.ref 224), (.bool true), (.int (273) 0), (.ref 225), .none, .none, .none, (.ref 226), (.int (573) 0), (.int (140) 0), (.str (Str.ofString "/claim/cut.py") 574)]), #[]⟩),
  (228, ⟨(.type "function"), none, (.func { name := (Str.ofString "_law_plain"), qualname := (Str.ofString "_law_plain"), params := dArgs (stmtAt 12), body := .stmts (dBody (stmtAt 12)), scope := dScope (stmtAt 12), globals := 3, closure := [], defaults := .none, kwdefaults := .none, doc := .none, pyModule := (.str (Str.ofString "law_in0188_01") 562), annotations := none, code := (.ref 227), closureTuple := .none, builtins := 0 }), #[]⟩),
  (232, ⟨(.type "code"), none, (.fields #[(.str (Str.ofString "_law_items") 576), (.str (Str.ofString "_law_items") 577), (.str (Str.ofString "/claim/cut.py") 578), (.int (142) 0), (.int (1) 0), (.int (0) 0), (.int (0) 0), (.int (3) 0), (.ref 229), (.bool true), (.int (273) 0), (.ref 230), .none, .none, .none, (.ref 231), (.int (579) 0), (.int (142) 0), (.str (Str.ofString "/claim/cut.py") 580)]), #[]⟩),
  (233, ⟨(.type "function"), none, (.func { name := (Str.ofString "_law_items"), qualname := (Str.ofString "_law_items"), params := dArgs (stmtAt 13), body := .stmts (dBody (stmtAt 13)), scope := dScope (stmtAt 13), globals := 3, closure := [], defaults := .none, kwdefaults := .none, doc := .none, pyModule := (.str (Str.ofString "law_in0188_01") 562), annotations := none, code := (.ref 232), closureTuple := .none, builtins := 0 }), #[]⟩),
  (237, ⟨(.type "code"), none, (.fields #[(.str (Str.ofString "_law_read") 582), (.str (Str.ofString "_law_read") 583), (.str (Str.ofString "/claim/cut.py") 584), (.int (160) 0), (.int (2) 0), (.int (0) 0), (.int (0) 0), (.int (3) 0), (.ref 234), (.bool true), (.int (273) 0), (.ref 235), .none, .none, .none, (.ref 236), (.int (585) 0), (.int (160) 0), (.str (Str.ofString "/claim/cut.py") 586)]), #[]⟩),
  (238, ⟨(.type "function"), none, (.func { name := (Str.ofString "_law_read"), qualname := (Str.ofString "_law_read"), params := dArgs (stmtAt 14), body := .stmts (dBody (stmtAt 14)), scope := dScope (stmtAt 14), globals := 3, closure := [], defaults := .none, kwdefaults := .none, doc := .none, pyModule := (.str (Str.ofString "law_in0188_01") 562), annotations := none, code := (.ref 237), closureTuple := .none, builtins := 0 }), #[]⟩),
  (244, ⟨(.type "code"), none, (.fields #[(.str (Str.ofString "_law_values") 588), (.str (Str.ofString "_law_values") 589), (.str (Str.ofString "/claim/cut.py") 590), (.int (182) 0), (.int (4) 0), (.int (0) 0), (.int (0) 0), (.int (3) 0), (.ref 239), (.bool true), (.int (273) 0), (.ref 240), .none, (.ref 241), (.ref 242), (.ref 243), (.int (597) 0), (.int (182) 0), (.str (Str.ofString "/claim/cut.py") 598)]), #[]⟩),
  (245, ⟨(.type "function"), none, (.func { name := (Str.ofString "_law_values"), qualname := (Str.ofString "_law_values"), params := dArgs (stmtAt 15), body := .stmts (dBody (stmtAt 15)), scope := dScope (stmtAt 15), globals := 3, closure := [], defaults := .none, kwdefaults := .none, doc := .none, pyModule := (.str (Str.ofString "law_in0188_01") 562), annotations := none, code := (.ref 244), closureTuple := .none, builtins := 0 }), #[]⟩),
  (249, ⟨(.type "code"), none, (.fields #[(.str (Str.ofString "_law_due") 600), (.str (Str.ofString "_law_due") 601), (.str (Str.ofString "/claim/cut.py") 602), (.int (190) 0), (.int (2) 0), (.int (0) 0), (.int (0) 0), (.int (3) 0), (.ref 246), (.bool true), (.int (273) 0), (.ref 247), .none, .none, .none, (.ref 248), (.int (603) 0), (.int (190) 0), (.str (Str.ofString "/claim/cut.py") 604)]), #[]⟩),
  (250, ⟨(.type "function"), none, (.func { name := (Str.ofString "_law_due"), qualname := (Str.ofString "_law_due"), params := dArgs (stmtAt 16), body := .stmts (dBody (stmtAt 16)), scope := dScope (stmtAt 16), globals := 3, closure := [], defaults := .none, kwdefaults := .none, doc := .none, pyModule := (.str (Str.ofString "law_in0188_01") 562), annotations := none, code := (.ref 249), closureTuple := .none, builtins := 0 }), #[]⟩),
  (256, ⟨(.type "code"), none, (.fields #[(.str (Str.ofString "_law_off") 606), (.str (Str.ofString "_law_off") 607), (.str (Str.ofString "/claim/cut.py") 608), (.int (205) 0), (.int (1) 0), (.int (0) 0), (.int (0) 0), (.int (3) 0), (.ref 251), (.bool true), (.int (273) 0), (.ref 252), .none, (.ref 253), (.ref 254), (.ref 255), (.int (610) 0), (.int (205) 0), (.str (Str.ofString "/claim/cut.py") 611)]), #[]⟩),
  (257, ⟨(.type "function"), none, (.func { name := (Str.ofString "_law_off"), qualname := (Str.ofString "_law_off"), params := dArgs (stmtAt 17), body := .stmts (dBody (stmtAt 17)), scope := dScope (stmtAt 17), globals := 3, closure := [], defaults := .none, kwdefaults := .none, doc := .none, pyModule := (.str (Str.ofString "law_in0188_01") 562), annotations := none, code := (.ref 256), closureTuple := .none, builtins := 0 }), #[]⟩),
  (263, ⟨(.type "code"), none, (.fields #[(.str (Str.ofString "_law_bare") 613), (.str (Str.ofString "_law_bare") 614), (.str (Str.ofString "/claim/cut.py") 615), (.int (207) 0), (.int (1) 0), (.int (0) 0), (.int (0) 0), (.int (3) 0), (.ref 258), (.bool true), (.int (273) 0), (.ref 259), .none, (.ref 260), (.ref 261), (.ref 262), (.int (622) 0), (.int (207) 0), (.str (Str.ofString "/claim/cut.py") 623)]), #[]⟩),
  (264, ⟨(.type "function"), none, (.func { name := (Str.ofString "_law_bare"), qualname := (Str.ofString "_law_bare"), params := dArgs (stmtAt 18), body := .stmts (dBody (stmtAt 18)), scope := dScope (stmtAt 18), globals := 3, closure := [], defaults := .none, kwdefaults := .none, doc := .none, pyModule := (.str (Str.ofString "law_in0188_01") 562), annotations := none, code := (.ref 263), closureTuple := .none, builtins := 0 }), #[]⟩),
  (270, ⟨(.type "code"), none, (.fields #[(.str (Str.ofString "_law_dict") 625), (.str (Str.ofString "_law_dict") 626), (.str (Str.ofString "/claim/cut.py") 627), (.int (215) 0), (.int (1) 0), (.int (0) 0), (.int (0) 0), (.int (3) 0), (.ref 265), (.bool true), (.int (273) 0), (.ref 266), .none, (.ref 267), (.ref 268), (.ref 269), (.int (629) 0), (.int (215) 0), (.str (Str.ofString "/claim/cut.py") 630)]), #[]⟩),
  (271, ⟨(.type "function"), none, (.func { name := (Str.ofString "_law_dict"), qualname := (Str.ofString "_law_dict"), params := dArgs (stmtAt 19), body := .stmts (dBody (stmtAt 19)), scope := dScope (stmtAt 19), globals := 3, closure := [], defaults := .none, kwdefaults := .none, doc := .none, pyModule := (.str (Str.ofString "law_in0188_01") 562), annotations := none, code := (.ref 270), closureTuple := .none, builtins := 0 }), #[]⟩),
  (275, ⟨(.type "code"), none, (.fields #[(.str (Str.ofString "_law_again") 632), (.str (Str.ofString "_law_again") 633), (.str (Str.ofString "/claim/cut.py") 634), (.int (222) 0), (.int (1) 0), (.int (0) 0), (.int (0) 0), (.int (3) 0), (.ref 272), (.bool true), (.int (273) 0), (.ref 273), .none, .none, .none, (.ref 274), (.int (635) 0), (.int (222) 0), (.str (Str.ofString "/claim/cut.py") 636)]), #[]⟩),
  (276, ⟨(.type "function"), none, (.func { name := (Str.ofString "_law_again"), qualname := (Str.ofString "_law_again"), params := dArgs (stmtAt 20), body := .stmts (dBody (stmtAt 20)), scope := dScope (stmtAt 20), globals := 3, closure := [], defaults := .none, kwdefaults := .none, doc := .none, pyModule := (.str (Str.ofString "law_in0188_01") 562), annotations := none, code := (.ref 275), closureTuple := .none, builtins := 0 }), #[]⟩)]
noncomputable def K0as : List Addr := [2, 3, 54, 60, 61, 77, 78, 86, 91, 97, 98, 104, 105, 107, 108, 129, 130, 171, 172, 174, 175, 179, 180, 181, 196, 197, 199, 202, 203, 212, 213, 217, 218, 222, 223, 227, 228, 232, 233, 237, 238, 244, 245, 249, 250, 256, 257, 263, 264, 270, 271, 275, 276]
theorem K0_as (P : Params) : K0as = (K0 P).map (·.1) := by rfl
noncomputable def K0ts : List Addr := [100, 235]
end Mine
end
section
open PySem PySem.W PyProof.Rows
set_option maxHeartbeats 8000000
namespace Mine
noncomputable def q : Program := { PySem.Challenge.pw_in0188_01 with main := { PySem.Challenge.pw_in0188_01.main with body := PySem.Challenge.pw_in0188_01.main.body.take 1 ++ PySem.Challenge.pw_in0188_01.main.body.drop 21 } }
noncomputable def loose : List Str := ["_wall", "_tuplegetter", "FreezableDefaultDict", "Pair", "parse_keqv_list", "parse_http_list", "_law_header", "_law_plain", "_law_items", "_law_read", "_law_values", "_law_due", "_law_off", "_law_bare", "_law_dict", "_law_again"]
theorem left : LeftO PySem.Challenge.pw_in0188_01 q loose (fun s => xlAt q [] s && recOk [] s) (kmHook K0 K0as K0_as K0ts).obs (kmHook K0 K0as K0_as K0ts).val 4800 := fun w => by
  unfold openEnds fencedOpening topFrom
  rw [PySem.W.Fast.te14082659384304107361, PySem.W.Fast.te14364793385576792824, PySem.W.Fast.te10274390034422433532, PySem.W.Fast.te4187177175401517315, PySem.W.Fast.te14289696077712309145]
  kernel_rfl
end Mine
end
section
open PySem PySem.W PySem.Calls
namespace Mine
noncomputable def ftab : List (Addr × Nat × Addr) := [(223, 11, 222), (228, 12, 227), (233, 13, 232), (238, 14, 237), (245, 15, 244), (250, 16, 249), (257, 17, 256), (264, 18, 263), (271, 19, 270), (276, 20, 275)]
noncomputable def gtab : List (Str × Value) := [("_law_header", .ref 223), ("_law_plain", .ref 228), ("_law_items", .ref 233), ("_law_read", .ref 238), ("_law_values", .ref 245), ("_law_due", .ref 250), ("_law_off", .ref 257),
  ("_law_bare", .ref 264), ("_law_dict", .ref 271), ("_law_again", .ref 276), ("parse_keqv_list", .ref 213), ("parse_http_list", .ref 218), ("FreezableDefaultDict", .ref 108), ("Pair", .ref 203)]
noncomputable def btab : List (Str × Value) := [("len", .builtin "len"), ("range", .type "range"), ("list", .type "list"), ("str", .type "str"), ("map", .type "map"), ("TypeError", .type "TypeError"), ("ValueError", .type "ValueError"),
  ("IndexError", .type "IndexError"), ("getattr", .builtin "getattr"), ("super", .type "super"), ("issubclass", .builtin "issubclass"), ("type", .type "type"), ("tuple", .type "tuple")]
noncomputable def lawFd (i : Nat) (c : Addr) : FuncData :=
  { name := dName (stmtAt i), qualname := dName (stmtAt i), params := dArgs (stmtAt i), body := .stmts (dBody (stmtAt i)), scope := dScope (stmtAt i), globals := mainGlobals, closure := [], defaults := .none, kwdefaults := .none,
    pyModule := .str "law_in0188_01" 562, code := .ref c, builtins := builtinsNs }
noncomputable def fnObj (fd : FuncData) : Obj := { cls := .type "function", data := .func fd }
noncomputable def keqvFd (t : Tok) (d : Str) (mt : Tok) : FuncData :=
  { name := dName (stmtAt 8), qualname := dName (stmtAt 8), params := dArgs (stmtAt 8), body := .stmts (dBody (stmtAt 8)), scope := dScope (stmtAt 8), globals := mainGlobals, closure := [], defaults := .none, kwdefaults := .none,
    doc := .str d t, pyModule := .str "cpy313.urllib.request" mt, code := .ref 212, builtins := builtinsNs }
noncomputable def httpFd (t : Tok) (d : Str) (mt : Tok) : FuncData :=
  { name := dName (stmtAt 9), qualname := dName (stmtAt 9), params := dArgs (stmtAt 9), body := .stmts (dBody (stmtAt 9)), scope := dScope (stmtAt 9), globals := mainGlobals, closure := [], defaults := .none, kwdefaults := .none,
    doc := .str d t, pyModule := .str "cpy313.urllib.request" mt, code := .ref 217, builtins := builtinsNs }
structure Top0 (h : Heap) : Prop where
  nolimit : h.NoLimit
  names : ∃ mg mb, h.Ns mainGlobals mg ∧ h.Ns builtinsNs mb ∧ (∀ p ∈ gtab, mg p.1 = some p.2) ∧ ∀ p ∈ btab, mg p.1 = none ∧ mb p.1 = some p.2
  fns : ∀ p ∈ ftab, h.get? p.1 = some (fnObj (lawFd p.2.1 p.2.2)) ∧ h.CodeRec (.ref p.2.2) (dName (stmtAt p.2.1))
  keqv : (∃ t d mt, h.get? 213 = some (fnObj (keqvFd t d mt))) ∧ h.CodeRec (.ref 212) (dName (stmtAt 8))
  http : (∃ t d mt, h.get? 218 = some (fnObj (httpFd t d mt))) ∧ h.CodeRec (.ref 217) (dName (stmtAt 9))
theorem Top0.keeps {h h' : Heap} (T : Top0 h) (k : Kp h h') : Top0 h' where
  nolimit := T.nolimit.keeps k
  names := let ⟨mg, mb, a, b, c, d⟩ := T.names; ⟨mg, mb, a.keeps k, b.keeps k, c, d⟩
  fns := fun p hp => let ⟨a, b⟩ := T.fns p hp; ⟨k _ _ a, b.keeps k⟩
  keqv := let ⟨⟨t, d, mt, a⟩, b⟩ := T.keqv; ⟨⟨t, d, mt, k _ _ a⟩, b.keeps k⟩
  http := let ⟨⟨t, d, mt, a⟩, b⟩ := T.http; ⟨⟨t, d, mt, k _ _ a⟩, b.keeps k⟩
structure EOk (env : Env) : Prop where
  kind : env.scope.kind = .function
  globals : env.globals = mainGlobals
  builtins : env.builtins = builtinsNs
structure AOk (n : Nat) (A : Around) : Prop where
  depth : A.depth + n < 1000
  units : A.units + 10 * n < 9900
  handled : A.handled = none
theorem AOk.le {n n' : Nat} {A : Around} (x : AOk n A) (h : n' ≤ n) : AOk n' A := ⟨by have := x.depth; omega, by have := x.units; omega, x.handled⟩
theorem AOk.deeper {n : Nat} {A : Around} {env : Env} (x : AOk (n + 1) A) : AOk n (A.deeper env) :=
  ⟨by have := x.depth; show A.depth + 1 + n < 1000; omega, by have := x.units; show A.units + 3 + 10 * n < 9900; omega, x.handled⟩
theorem AOk.in1 {n : Nat} {A : Around} (x : AOk (n + 1) A) : AOk n A.in1 :=
  ⟨by have := x.depth; show A.depth + n < 1000; omega, by have := x.units; show A.units + 1 + 10 * n < 9900; omega, x.handled⟩
section
variable {w : World} {A : Around} {E : Value → Shared → Prop} {s₀ : Shared} {B : Heap} {L : Addr} {m : Str → Option Value} {U : List (Addr × Cell)} {h : Heap} {k : Nat} {env : Env}
theorem ngl {x : Str} {pos : Pos} {v : Value} {Q : Value → Shared → Prop} (T : Top0 h) (ok : EOk env) (hl : env.kindOf x = some .globalImplicit) (hx : (x, v) ∈ gtab)
    (hQ : Q v (Sh s₀ h k)) (hd : (x == ("__debug__" : Str)) = false := by decide) : wpAny (model PW w) A (eval (.Name x pos) env) Q E (Sh s₀ h k) := by
  obtain ⟨mg, mb, a, b, c, d⟩ := T.names
  exact Name_function_global ok.kind hl (loadGlobal_global (env := env) (by rw [ok.globals]; exact a) (c _ hx) hQ) hd
theorem nbl {x : Str} {pos : Pos} {v : Value} {Q : Value → Shared → Prop} (T : Top0 h) (ok : EOk env) (hl : env.kindOf x = some .globalImplicit) (hx : (x, v) ∈ btab)
    (hQ : Q v (Sh s₀ h k)) (hd : (x == ("__debug__" : Str)) = false := by decide) : wpAny (model PW w) A (eval (.Name x pos) env) Q E (Sh s₀ h k) := by
  obtain ⟨mg, mb, a, b, c, d⟩ := T.names
  exact Name_function_global ok.kind hl (loadGlobal_builtin (env := env) (by rw [ok.globals]; exact a) (d _ hx).1 (by rw [ok.builtins]; exact b) (d _ hx).2 hQ) hd
noncomputable abbrev outE (w : World) (A : Around) (env : Env) (E : Value → Shared → Prop) : Value → Shared → Prop :=
  fun e s' => wpAny (model PW w) (A.deeper env) (leaving env e) (fun _ s'' => E e s'') (fun e' s'' => E e' s'') s'
noncomputable abbrev retQ (Q : Value → Shared → Prop) : Flow → Shared → Prop := fun fl s' => Q (match fl with | .ret v => v | _ => .none) s'
theorem callfd {a : Addr} {fd : FuncData} {body : List Stmt} {args : List Value} {binds : List (Str × Value)} {Q : Value → Shared → Prop} (hf : h.get? a = some (fnObj fd)) (hcd : h.CodeRec fd.code fd.qualname)
    (hn : h.NoLimit) (hroom : A.depth < 1000) (hbody : fd.body = .stmts body) (hgl : fd.globals = mainGlobals) (hbl : fd.builtins = builtinsNs)
    (hbind : bindArgs fd ⟨args, []⟩ = pure binds) (hcell : ∀ x ∈ fd.scope.names, x.2 ≠ .cell) (hloc : ∀ x ∈ binds, fd.scope.names.lookup x.1 = some .local)
    (hco : fd.scope.isCoroutine = false) (hgen : fd.scope.isGenerator = false) (hk : fd.scope.kind = .function)
    (hb : ∀ env h₁, env = callEnv fd h.objs.size a → EOk env → St h env.locals (fun x => binds.reverse.lookup x) [] h₁ →
      wpAny (model PW w) (A.deeper env) (execs body env) (retQ Q) (outE w A env E) (Sh s₀ h₁ (k + binds.length))) :
    wpAny (model PW w) A (call (.ref a) args []) Q E (Sh s₀ h k) := by
  refine wpAny_call (codeAny_call_def (fd := fd) (body := body) (binds := binds) (s := Sh s₀ h k) hroom hf rfl hn hcd hbody (BindsTo.of_eq hbind) hcell hloc (fun h₀ hns hkp => ?_) hco hgen hk)
  exact hb _ h₀ rfl ⟨hk, hgl, hbl⟩ ⟨hns, hkp, get_none_of_ge (Nat.le_refl _), fun p hp => (nomatch hp), List.nodup_nil⟩
theorem callN {f : Str} {np pos : Pos} {args : List Expr} {a : Addr} {fd : FuncData} {Q : Value → Shared → Prop} (T : Top0 h) (ok : EOk env) (hl : env.kindOf f = some .globalImplicit) (hx : (f, .ref a) ∈ gtab)
    (hv : wpAny (model PW w) A (spliced (backTo pos (starEach args env))) (fun vs s₁ => s₁.heap.get? a = some (fnObj fd) ∧ wpAny (model PW w) A (call (.ref a) vs []) Q E s₁) E (Sh s₀ h k))
    (hne : (backTo pos (starEach args env)) ≠ [] := by intro h; cases h) (hst : (backTo pos (starEach args env)).any (·.1) = false := by rfl) (hd : (f == ("__debug__" : Str)) = false := by decide) :
    wpAny (model PW w) A (eval (.Call (.Name f np) args [] pos) env) Q E (Sh s₀ h k) := by
  refine wpAny_Call_NameR (ngl T ok hl hx ?_ hd)
  refine callWith_function (o := fnObj fd) (fd := fd) ?_
  generalize hb : backTo pos (starEach args env) = bs at hv hst hne ⊢
  cases bs with
  | nil => exact absurd rfl hne
  | cons b r =>
    obtain ⟨st, x⟩ := b
    have : st = false := by simpa using (List.any_eq_false.mp hst (st, x) (.head _))
    subst this
    exact evalArgs_plain (wpAny_mono hv (fun vs s₁ q => ⟨⟨q.1, rfl⟩, q.2⟩) fun _ _ e => e)
theorem callB {f : Str} {id : String} {np pos : Pos} {args : List Expr} {Q : Value → Shared → Prop} (T : Top0 h) (ok : EOk env) (hl : env.kindOf f = some .globalImplicit) (hx : (f, .builtin id) ∈ btab)
    (hv : wpAny (model PW w) A (spliced (backTo pos (starEach args env))) (fun vs s₁ => wpAny (model PW w) A (call (.builtin id) vs []) Q E s₁) E (Sh s₀ h k))
    (hne : (backTo pos (starEach args env)) ≠ [] := by intro h; cases h) (hst : (backTo pos (starEach args env)).any (·.1) = false := by rfl) (hd : (f == ("__debug__" : Str)) = false := by decide) :
    wpAny (model PW w) A (eval (.Call (.Name f np) args [] pos) env) Q E (Sh s₀ h k) := by
  refine wpAny_Call_NameR (nbl T ok hl hx ?_ hd)
  refine callWith_builtin hst ?_
  generalize hb : backTo pos (starEach args env) = bs at hv hst hne ⊢
  cases bs with
  | nil => exact absurd rfl hne
  | cons b r =>
    obtain ⟨st, x⟩ := b
    have : st = false := by simpa using (List.any_eq_false.mp hst (st, x) (.head _))
    subst this
    exact evalArgs_plain hv
theorem callT {f : Str} {id : String} {np pos : Pos} {args : List Expr} {Q : Value → Shared → Prop} (T : Top0 h) (ok : EOk env) (hl : env.kindOf f = some .globalImplicit) (hx : (f, .type id) ∈ btab)
    (hv : wpAny (model PW w) A (spliced (backTo pos (starEach args env))) (fun vs s₁ => wpAny (model PW w) A (call (.type id) vs []) Q E s₁) E (Sh s₀ h k))
    (hne : (backTo pos (starEach args env)) ≠ [] := by intro h; cases h) (hst : (backTo pos (starEach args env)).any (·.1) = false := by rfl) (hd : (f == ("__debug__" : Str)) = false := by decide) :
    wpAny (model PW w) A (eval (.Call (.Name f np) args [] pos) env) Q E (Sh s₀ h k) := by
  refine wpAny_Call_NameR (nbl T ok hl hx ?_ hd)
  refine callWith_type hst ?_
  generalize hb : backTo pos (starEach args env) = bs at hv hst hne ⊢
  cases bs with
  | nil => exact absurd rfl hne
  | cons b r =>
    obtain ⟨st, x⟩ := b
    have : st = false := by simpa using (List.any_eq_false.mp hst (st, x) (.head _))
    subst this
    exact evalArgs_plain hv
end
theorem St.outer {B : Heap} {C L : Addr} {m m' : Str → Option Value} {X Y : List (Addr × Cell)} {oL : Obj} {h h₂ : Heap} (S : St B C m' (X ++ (L, its oL) :: Y) h) (hs : Heap.ExtBut C h h₂) (hL : ∀ h' : Heap, h'.get? L = some oL → h'.Ns L m) : St B L m (X ++ Y) h₂ := by
  have sub : (X ++ Y).Sublist (X ++ (L, its oL) :: Y) := List.Sublist.append (List.Sublist.refl _) (List.sublist_cons_self _ _)
  obtain ⟨⟨o, e, q⟩, n1, n2⟩ := S.own (L, its oL) (by simp)
  cases q
  have nd := S.nd
  rw [List.map_append, List.map_cons] at nd
  have nd' := List.nodup_append.mp nd
  refine ⟨hL h₂ (hs _ _ n1 e), fun b o e => hs b o (by rintro rfl; rw [S.nl] at e; cases e) (S.keep b o e), n2, fun p hp => ?_, S.nd.sublist (sub.map _)⟩
  obtain ⟨⟨o, e, c⟩, n3, y⟩ := S.own p (sub.subset hp)
  refine ⟨⟨o, hs _ _ n3 e, c⟩, ?_, y⟩
  intro e'
  rcases List.mem_append.mp hp with q | q
  · exact nd'.2.2 p.1 (List.mem_map_of_mem q) L (.head _) e'
  · exact (List.nodup_cons.mp nd'.2.1).1 (by have z := List.mem_map_of_mem (f := fun x : Addr × Cell => x.1) q; rw [e'] at z; exact z)
set_option genSizeOf false in
set_option genInjectivity false in
structure Way (w : World) (A : Around) (I : Addr) (n : Nat) (P : Nat → Value → Prop) (B : Heap) where
  fp : List Addr
  wr : List Addr
  Wst : Nat → Heap → Prop
  W : Walks PW w A I fp wr n P Wst
  hI : ∀ i h, Wst i h → ∃ o, h.get? I = some o
  hwr : ∀ b ∈ wr, b = I
  hfp : ∀ b ∈ fp, b = I ∨ ∃ o, B.get? b = some o
section
variable {w : World} {A : Around} {E : Value → Shared → Prop} {R : Result → Shared → Prop} {s₀ : Shared} {B : Heap} {L : Addr} {m : Str → Option Value} {U : List (Addr × Cell)} {h : Heap} {k : Nat} {env : Env}
theorem Way.frame {I : Addr} {n i : Nat} {P : Nat → Value → Prop} (Y : Way w A I n P B) {B₁ B₂ : Heap} {m₁ m₂ : Str → Option Value} {U₁ V U₂ V' : List (Addr × Cell)} {oI : Obj} {h₁ h₂ : Heap} {L₁ L₂ : Addr}
    (k₁ : Kp B B₁) (k₂ : Kp B₁ B₂) (S₁ : St B₁ L₁ m₁ (U₁ ++ (I, its oI) :: V) h₁) (S₂ : St B₂ L₂ m₂ (U₂ ++ (I, its oI) :: V') h₂) (x : Y.Wst i h₁) : Y.Wst i h₂ := by
  refine Y.W.frame i h₁ h₂ x fun b hb o e => ?_
  rcases Y.hfp b hb with rfl | ⟨o', e'⟩
  · obtain ⟨⟨o₁, e₁, q₁⟩, _⟩ := S₁.own (b, its oI) (by simp)
    obtain ⟨⟨o₂, e₂, q₂⟩, _⟩ := S₂.own (b, its oI) (by simp)
    cases q₁; cases q₂
    rw [e₁] at e; cases e; exact e₂
  · have := S₁.keep b o' (k₁ b o' e')
    rw [this] at e; cases e
    exact S₂.keep b _ (k₂ _ _ (k₁ _ _ e'))
theorem St.turned {I : Addr} {oI oI' : Obj} {V : List (Addr × Cell)} {h' : Heap} (S : St B L m (U ++ (I, its oI) :: V) h) {wr : List Addr} (hwr : ∀ b ∈ wr, b = I)
    (hk : ∀ b o, b ∉ wr → h.get? b = some o → h'.get? b = some o) (e : h'.get? I = some oI') : St B L m (U ++ (I, its oI') :: V) h' :=
  S.upd (fun b o hb e => hk b o (fun q => hb (hwr b q)) e) e rfl
noncomputable abbrev EE (w : World) (A : Around) (env : Env) (R : Result → Shared → Prop) : Value → Shared → Prop := notedBy (model PW w) A env fun e s' => R (.error e) s'
noncomputable abbrev Locs := Str → Option Value
noncomputable abbrev Own := List (Addr × Cell)
inductive Nx (s₀ : Shared) (L : Addr) (V : Own) (B' : Heap) (I : Heap → Locs → Own → Prop) (s₃ : Shared) : Prop
  | mk (B'' : Heap) (m'' : Locs) (U'' : Own) (h₃ : Heap) (k₃ : Nat) (e : s₃ = Sh s₀ h₃ k₃) (kB : Kp B' B'') (S : St B'' L m'' (U'' ++ V) h₃) (i : I B'' m'' U'')
noncomputable abbrev NxF (s₀ : Shared) (L : Addr) (V : Own) (B' : Heap) (I : Heap → Locs → Own → Prop) (R : Flow → Shared → Prop) (f : Flow) (s₃ : Shared) : Prop := match f with
  | .next | .cont => Nx s₀ L V B' I s₃
  | .brk => R .next s₃
  | .ret v => R (.ret v) s₃
inductive LI (s₀ : Shared) (L : Addr) (I : Addr) (V : List Value → Own) (B : Heap) (Inv : Nat → List Value → Heap → Locs → Own → Prop) (Wst : Nat → Heap → Prop) (n k : Nat) (Z : Nat → List Value → Prop) : Nat → Shared → Prop
  | mk (i : Nat) (ys : List Value) (B' : Heap) (m' : Locs) (U' : Own) (oI' : Obj) (h₂ : Heap) (k₂ : Nat) (inv : Inv i ys B' m' U') (kB : Kp B B') (S : St B' L m' (U' ++ (I, its oI') :: V ys) h₂) (W : Wst i h₂) (hi : i ≤ n) (hys : Z i ys) (hk : k ≤ k₂) : LI s₀ L I V B Inv Wst n k Z (n + 1 - i) (Sh s₀ h₂ k₂)
theorem lt_step {i n : Nat} (h : i < n) : n + 1 - (i + 1) < n + 1 - i := by omega
theorem LI.out {s₀ : Shared} {L I : Addr} {V : List Value → Own} {B : Heap} {Inv : Nat → List Value → Heap → Locs → Own → Prop} {Wst : Nat → Heap → Prop} {n k : Nat} {Z : Nat → List Value → Prop} {C : Nat → Shared → Prop}
    (H : ∀ i ys B' m' U' oI' h₂ k₂, Inv i ys B' m' U' → Kp B B' → St B' L m' (U' ++ (I, its oI') :: V ys) h₂ → Wst i h₂ → i ≤ n → Z i ys → k ≤ k₂ → C (n + 1 - i) (Sh s₀ h₂ k₂)) :
    ∀ t s', LI s₀ L I V B Inv Wst n k Z t s' → C t s' := fun _ _ x => by cases x; apply H <;> assumption
noncomputable abbrev Owns (target : Expr) (I : Addr) (W : Nat → Heap → Prop) : Prop := (∀ v, letOwnedTupleGo target (.ref I) v = pure ()) ∨ ∃ elts x1 p a, target = .Tuple elts x1 p ∧ ∀ i h, W i h → ∃ i', h.IsListIter I a i'
theorem owned {target : Expr} {I : Addr} {W : Nat → Heap → Prop} {v : Value} {Q : Unit → Shared → Prop} {i : Nat} (ht : Owns target I W) (hW : W i h) (q : Q () (Sh s₀ h k)) : wpAny (model PW w) A (letOwnedTupleGo target (.ref I) v) Q E (Sh s₀ h k) := by
  rcases ht with ht | ⟨elts, x1, p, a, rfl, ht⟩
  · rw [ht]; exact wpAny_pure q
  · obtain ⟨i', hit⟩ := ht _ _ hW
    cases v with
    | ref T => exact wpAny_letOwnedTupleGo_listiter (s := Sh s₀ h k) hit q
    | _ => exact wpAny_pure q
theorem forLoopW {target : Expr} {body : List Stmt} {I : Addr} {n : Nat} {P : Nat → Value → Prop} (Inv : Nat → Heap → Locs → Own → Prop) (Y : Way w A I n P B) {oI : Obj} {V : Own}
    (ht : Owns target I Y.Wst) (S : St B env.locals m (U ++ (I, its oI) :: V) h) (hW : Y.Wst 0 h) (h0 : Inv 0 B m U)
    (turn : ∀ i v B' m' U' oI' h₂ k₂, i < n → P i v → Inv i B' m' U' → Kp B B' → St B' env.locals m' (U' ++ (I, its oI') :: V) h₂ → k ≤ k₂ →
      wpAny (model PW w) A (assign target env v) (fun _ s₂ => wpAny (model PW w) A (execs body env) (NxF s₀ env.locals ((I, its oI') :: V) B' (Inv (i + 1)) fun f => R (.ok f)) (EE w A env R) s₂) (EE w A env R) (Sh s₀ h₂ k₂))
    (fin : ∀ B' m' U' h₂ k₂, Inv n B' m' U' → Kp B B' → St B' env.locals m' (U' ++ V) h₂ → k ≤ k₂ → R (.ok .next) (Sh s₀ h₂ k₂)) :
    codeAny (model PW w) A (.forLoop target (.ref I) body [] env) R (Sh s₀ h k) := by
  refine codeAny_forLoop_any (LI s₀ env.locals I (fun _ => V) B (fun i _ => Inv i) Y.Wst n k fun _ _ => True) (LI.out fun i ys B' m' U' oI' h₂ k₂ hinv hB S' hW' hi hys hk => ?_) (n + 1)
    ⟨0, [], B, m, U, oI, h, k, h0, Kp.refl _, S, hW, Nat.zero_le _, trivial, Nat.le_refl _⟩
  by_cases hlt : i < n
  · refine wpAny_with_toks (n := k₂) (Nat.le_refl _) (Y.W.item i _ _ _ hlt hW' fun v h₃ tk hP hW₃ hk₃ hle => ?_)
    obtain ⟨o₃, e₃⟩ := Y.hI _ _ hW₃
    have S₃ := S'.turned Y.hwr hk₃ e₃
    have t1 := wpAny_mono (wpAny_toks_of (n := tk) (Nat.le_refl _) (turn i v B' m' U' o₃ h₃ tk hlt hP hinv hB S₃ (Nat.le_trans hk hle)))
      (Q' := fun _ s₂ => wpAny (model PW w) A (execs body env) (fun f s₃ => match f with
          | .next | .cont => ∃ t' < n + 1 - i, LI s₀ env.locals I (fun _ => V) B (fun i _ => Inv i) Y.Wst n k (fun _ _ => True) t' s₃
          | .brk => R (.ok .next) s₃
          | .ret v => R (.ok (.ret v)) s₃) (EE w A env R) s₂) (fun _ s₂ q => wpAny_mono (wpAny_toks_of (n := tk) q.1 q.2) (fun f s₃ q => ?_) fun _ _ q => q.2) fun _ _ q => q.2
    · exact owned ht hW₃ t1
    · obtain ⟨ql, q⟩ := q
      have back : Nx s₀ env.locals ((I, its o₃) :: V) B' (Inv (i + 1)) s₃ → ∃ t' < n + 1 - i, LI s₀ env.locals I (fun _ => V) B (fun i _ => Inv i) Y.Wst n k (fun _ _ => True) t' s₃ := by
        rintro ⟨B'', m'', U'', h₄, k₄, rfl, hB'', S₄, hinv'⟩
        exact ⟨_, lt_step hlt, i + 1, [], B'', m'', U'', o₃, h₄, k₄, hinv', hB.trans hB'', S₄, Y.frame hB hB'' S₃ S₄ hW₃, hlt, trivial, Nat.le_trans hk (Nat.le_trans hle ql)⟩
      cases f with
      | next => exact back q
      | cont => exact back q
      | brk => exact q
      | ret v => exact q
  · have hin : i = n := Nat.le_antisymm hi (Nat.le_of_not_lt hlt)
    refine wpAny_with_toks (n := k₂) (Nat.le_refl _) (Y.W.done _ _ _ (hin ▸ hW') fun h₃ tk hk₃ hle => wpAny_execs_nil ?_)
    exact fin B' m' U' h₃ tk (hin ▸ hinv) hB (S'.other fun b o hb e => hk₃ b o (fun q => hb (Y.hwr b q)) e) (Nat.le_trans hk hle)
end
section
variable {w : World} {A : Around} {E : Value → Shared → Prop} {R : Result → Shared → Prop} {s₀ : Shared} {B : Heap} {L : Addr} {m : Str → Option Value} {U : List (Addr × Cell)} {h : Heap} {k : Nat} {env : Env}
noncomputable abbrev tests (ifs : List Expr) (env : Env) : Sem Bool := forIn ifs true fun c r => if r = true then do let ok ← isTrue c env (eval c env); pure (ForInStep.yield ok) else pure (ForInStep.yield r)
noncomputable def lastTurn (e : Expr) (dp : Nat) (target iter elt : Expr) (ifs : List Expr) (it acc : Value) (env : Env) : Sem PySem.Fin := do
  standAt iter.pos
  match ← pyNext it with
  | none => pure (.done .next)
  | some v =>
    letOwnedTupleGo target it v
    assign target env v
    let ok ← tests ifs env
    if ok then
      (do let _ ← call (.builtin "list.append") [acc, ← eval elt env])
    again (.compLoop e dp it acc env)
theorem lastTurn_rule {e : Expr} {dp : Nat} {target iter elt : Expr} {ifs : List Expr} {it acc : Value} {Q : PySem.Fin → Shared → Prop} {s : Shared}
    (h : wpAny (model PW w) A (pyNext it) (fun r s₁ => match r with
      | none => Q (.done .next) s₁
      | some v => wpAny (model PW w) A (letOwnedTupleGo target it v) (fun _ s₂ => wpAny (model PW w) A (assign target env v) (fun _ s₃ => wpAny (model PW w) A (tests ifs env) (fun ok s₄ =>
        if ok = true then wpAny (model PW w) A (eval elt env) (fun y s₅ => wpAny (model PW w) A (call (.builtin "list.append") [acc, y]) (fun _ => Q (.again (.compLoop e dp it acc env))) E s₅) E s₄
        else Q (.again (.compLoop e dp it acc env)) s₄) E s₃) E s₂) E s₁) E s) : wpAny (model PW w) A (lastTurn e dp target iter elt ifs it acc env) Q E s := by
  unfold lastTurn
  refine wpAny_bind (wpAny_standAt (wpAny_bind (wpAny_mono h (fun r s₁ h => ?_) fun _ _ e => e)))
  cases r with
  | none => exact wpAny_pure h
  | some v =>
    refine wpAny_bind (wpAny_mono h (fun _ _ h => wpAny_bind (wpAny_mono h (fun _ _ h => wpAny_bind (wpAny_mono h (fun ok _ h => ?_) fun _ _ e => e)) fun _ _ e => e)) fun _ _ e => e)
    cases ok with
    | false => exact wpAny_pure h
    | true => exact wpAny_bind (wpAny_bind (wpAny_mono h (fun _ _ h => wpAny_bind (wpAny_mono h (fun _ _ h => wpAny_pure (wpAny_pure h)) fun _ _ e => e)) fun _ _ e => e))
noncomputable abbrev CTurn (w : World) (A : Around) (s₀ : Shared) (ifs : List Expr) (elt : Expr) (env : Env) (V : Own) (B' : Heap) (J : List Value → Heap → Locs → Own → Prop) (ys : List Value) (E : Value → Shared → Prop) (s₂ : Shared) : Prop :=
  wpAny (model PW w) A (tests ifs env) (fun ok s₃ => if ok = true then wpAny (model PW w) A (eval elt env) (fun y => Nx s₀ env.locals V B' (J (ys ++ [y]))) E s₃ else Nx s₀ env.locals V B' (J ys) s₃) E s₂
theorem compLoopN {target iter elt : Expr} {gens : List Comprehension} {scope : Scope} {pos : Pos} {ifs : List Expr} {dp : Nat} {ys0 : List Value} {I D : Addr} {n : Nat} {P : Nat → Value → Prop} (Inv : Nat → List Value → Heap → Locs → Own → Prop) (Y : Way w A I n P B) {oI : Obj} {V : Own}
    (he : compTurn (.ListComp elt gens scope pos) dp (.ref I) (.ref D) env = lastTurn (.ListComp elt gens scope pos) dp target iter elt ifs (.ref I) (.ref D) env) (hn : ys0.length + n ≤ sizeLine) (ht : Owns target I Y.Wst)
    (S : St B env.locals m (U ++ (I, its oI) :: (D, lst ys0) :: V) h) (hW : Y.Wst 0 h) (h0 : Inv 0 ys0 B m U)
    (turn : ∀ i v ys B' m' U' oI' h₂ k₂, i < n → P i v → Inv i ys B' m' U' → Kp B B' → St B' env.locals m' (U' ++ (I, its oI') :: (D, lst ys) :: V) h₂ → k ≤ k₂ →
      wpAny (model PW w) A (assign target env v) (fun _ => CTurn w A s₀ ifs elt env ((I, its oI') :: (D, lst ys) :: V) B' (Inv (i + 1)) ys (EE w A env R)) (EE w A env R) (Sh s₀ h₂ k₂))
    (fin : ∀ ys B' m' U' h₂ k₂, Inv n ys B' m' U' → Kp B B' → St B' env.locals m' (U' ++ (D, lst ys) :: V) h₂ → k ≤ k₂ → R (.ok .next) (Sh s₀ h₂ k₂)) :
    codeAny (model PW w) A (.compLoop (.ListComp elt gens scope pos) dp (.ref I) (.ref D) env) R (Sh s₀ h k) := by
  refine codeAny_loop rfl (LI s₀ env.locals I (fun ys => (D, lst ys) :: V) B Inv Y.Wst n k fun i ys => ys.length ≤ ys0.length + i) (LI.out fun i ys B' m' U' oI' h₂ k₂ hinv hB S' hW' hi hys hk => ?_) (n + 1)
    ⟨0, ys0, B, m, U, oI, h, k, h0, Kp.refl _, S, hW, Nat.zero_le _, Nat.le_refl _, Nat.le_refl _⟩
  show wpAny _ A ((compTurn (.ListComp elt gens scope pos) dp (.ref I) (.ref D) env).onRaise (fun x => do noteFrame x env; theTreesLotGoes x)) _ _ _
  refine wpAny_noted ?_
  rw [he]
  refine lastTurn_rule ?_
  by_cases hlt : i < n
  · refine wpAny_with_toks (n := k₂) (Nat.le_refl _) (Y.W.item i _ _ _ hlt hW' fun v h₃ tk hP hW₃ hk₃ hle => ?_)
    obtain ⟨o₃, e₃⟩ := Y.hI _ _ hW₃
    have S₃ := S'.turned Y.hwr hk₃ e₃
    have t0 := wpAny_toks_of (n := tk) (Nat.le_refl _) (turn i v ys B' m' U' o₃ h₃ tk hlt hP hinv hB S₃ (Nat.le_trans hk hle))
    refine owned ht hW₃ (wpAny_mono t0 (fun _ s₂ q => wpAny_mono (wpAny_toks_of (n := tk) q.1 q.2) (fun ok s₃ q => ?_) fun _ _ q => q.2) fun _ _ q => q.2)
    cases ok with
    | false =>
      obtain ⟨ql, B'', m'', U'', h₄, k₄, rfl, hB'', S₄, hinv'⟩ := q
      exact ⟨rfl, _, lt_step hlt, i + 1, ys, B'', m'', U'', o₃, h₄, k₄, hinv', hB.trans hB'', S₄, Y.frame hB hB'' S₃ S₄ hW₃, hlt, Nat.le_succ_of_le hys, Nat.le_trans hk (Nat.le_trans hle ql)⟩
    | true =>
      refine wpAny_mono (wpAny_toks_of (n := tk) q.1 q.2) (fun y s₄ q => ?_) fun _ _ q => q.2
      obtain ⟨ql, B'', m'', U'', h₄, k₄, rfl, hB'', S₄, hinv'⟩ := q
      have S₅ : St B'' env.locals m'' ((U'' ++ [(I, its o₃)]) ++ (D, lst ys) :: V) h₄ := by rw [List.append_assoc]; exact S₄
      obtain ⟨⟨oD, eD, cD⟩, _⟩ := S₅.own (D, lst ys) (by simp)
      refine wpAny_list_append_plain (s := Sh s₀ h₄ k₄) (plain_of eD cD) (fun h₅ hp hs => ?_) (by rw [List.size_toArray]; omega)
      obtain ⟨oD', eD', cD'⟩ := of_plain hp
      have S₆ := S₅.upd (c' := lst (ys ++ [y])) hs.extBut eD' (by simpa using cD')
      rw [List.append_assoc] at S₆
      exact ⟨rfl, _, lt_step hlt, i + 1, ys ++ [y], B'', m'', U'', o₃, h₅, k₄, hinv', hB.trans hB'', S₆, Y.frame hB hB'' S₃ S₆ hW₃, hlt, by rw [List.length_append]; exact Nat.succ_le_succ hys, Nat.le_trans hk (Nat.le_trans hle ql)⟩
  · have hin : i = n := Nat.le_antisymm hi (Nat.le_of_not_lt hlt)
    refine wpAny_with_toks (n := k₂) (Nat.le_refl _) (Y.W.done _ _ _ (hin ▸ hW') fun h₃ tk hk₃ hle => ?_)
    exact fin ys B' m' U' h₃ tk (hin ▸ hinv) hB (S'.other fun b o hb e => hk₃ b o (fun q => hb (Y.hwr b q)) e) (Nat.le_trans hk hle)
theorem St.within {B₁ : Heap} {m₁ m₂ : Locs} {U₁ U₂ : Own} {I : Addr} {oI : Obj} {h₁ H h₃ : Heap} (S : St B₁ L m₁ (U₁ ++ (I, its oI) :: U₂) h₁) (hH : h₁.push { cls := .type "list", data := .seq ([] : List Value).toArray } = H)
    (hns : h₃.Ns H.objs.size m₂) (k₃ : Kp H h₃) : ∃ B₀ oL, Kp B₁ B₀ ∧ (∀ h' : Heap, h'.get? L = some oL → h'.Ns L m₁) ∧ St B₀ H.objs.size m₂ (U₁ ++ (I, its oI) :: (h₁.objs.size, lst []) :: (L, its oL) :: U₂) h₃ := by
  obtain ⟨B₀, oL, kB, kh, eL, hL, nL, nU⟩ := S.inner
  have hfr : h₁.get? h₁.objs.size = none := get_none_of_ge (Nat.le_refl _)
  have eD : H.get? h₁.objs.size = some { cls := .type "list", data := .seq ([] : List Value).toArray } := by rw [← hH]; exact Heap.get?_push_size _ rfl
  have kH : Kp h₁ H := by rw [← hH]; exact Kp.push _ _
  have hC : H.get? H.objs.size = none := get_none_of_ge (Nat.le_refl _)
  generalize hd : h₁.objs.size = d at *
  generalize H.objs.size = c at *
  have ne : ∀ b o, h₁.get? b = some o → b ≠ c := fun b o e q => by subst q; have := kH _ _ e; rw [hC] at this; cases this
  have bnone : ∀ a, h₁.get? a = none → B₀.get? a = none := fun a ha => by
    cases e : B₀.get? a with
    | none => rfl
    | some o => have := kh _ _ e; rw [ha] at this; cases this
  have nC : h₁.get? c = none := by
    cases e : h₁.get? c with
    | none => rfl
    | some o => exact absurd rfl (ne _ _ e)
  have S₁ : St B₀ c m₂ ((d, lst []) :: (L, its oL) :: (U₁ ++ (I, its oI) :: U₂)) h₃ := by
    refine ⟨hns, fun b o e => k₃ _ _ (kH _ _ (kh _ _ e)), bnone _ nC, fun p hp => ?_, ?_⟩
    · rcases List.mem_cons.mp hp with rfl | hp
      · refine ⟨⟨_, k₃ _ _ eD, 0, rfl⟩, ?_, bnone _ hfr⟩
        rintro rfl
        rw [hC] at eD; cases eD
      · rcases List.mem_cons.mp hp with rfl | hp
        · exact ⟨⟨_, k₃ _ _ (kH _ _ eL), rfl⟩, ne _ _ eL, nL⟩
        · obtain ⟨⟨o, e, c⟩, n1, n2⟩ := S.own p hp
          exact ⟨⟨o, k₃ _ _ (kH _ _ e), c⟩, ne _ _ e, nU p hp⟩
    · refine List.nodup_cons.mpr ⟨fun q => ?_, List.nodup_cons.mpr ⟨fun q => ?_, S.nd⟩⟩
      · rcases List.mem_cons.mp q with q | q
        · rw [← show d = L from q, hfr] at eL; cases eL
        · obtain ⟨p, hp, e⟩ := List.mem_map.mp q
          obtain ⟨⟨o, e', _⟩, _⟩ := S.own p hp
          rw [e, hfr] at e'; cases e'
      · obtain ⟨p, hp, e⟩ := List.mem_map.mp q
        exact (S.own p hp).2.1 e
  refine ⟨B₀, oL, kB, hL, S₁.perm ?_⟩
  have p1 : ∀ (x y : Addr × Cell), (x :: y :: (U₁ ++ (I, its oI) :: U₂)).Perm (U₁ ++ (I, its oI) :: x :: y :: U₂) := fun x y =>
    (List.Perm.cons _ (List.Perm.cons _ List.perm_middle)).trans (((List.Perm.cons _ (.swap ..)).trans (.swap ..)).trans
      ((List.perm_append_comm (l₁ := [(I, its oI), x, y]) (l₂ := U₁)).append_right U₂ |> fun q => by simpa using q))
  exact p1 _ _
inductive CPre (w : World) (A : Around) (s₀ : Shared) (target : Expr) (env : Env) (mD : Locs → Addr → Locs) (Qv : Addr → Shared → Prop) (T : Addr → Nat → (Nat → Value → Prop) → Heap → (Nat → List Value → Heap → Own → Prop) → Nat → Prop) (Hn : Nat → Prop) (kp : Nat → Nat → Prop) (it : Value) (s₂ : Shared) : Prop
  | mk (I : Addr) (n : Nat) (P : Nat → Value → Prop) (B₁ : Heap) (m₁ : Locs) (U₁ U₂ : Own) (oI : Obj) (h₁ : Heap) (k₁ : Nat) (Y : Way w A I n P B₁) (Inv : Nat → List Value → Heap → Own → Prop)
      (e1 : it = .ref I) (e2 : s₂ = Sh s₀ h₁ k₁) (S : St B₁ env.locals m₁ (U₁ ++ (I, its oI) :: U₂) h₁) (hn : Hn n) (hW : Y.Wst 0 h₁) (ht : Owns target I Y.Wst) (h0 : ∀ B', Kp B₁ B' → Inv 0 [] B' U₁)
      (turn : T I n P B₁ Inv k₁)
      (fin : ∀ ys B' U' D h₂ k₂, Inv n ys B' U' → Kp B₁ B' → St B' env.locals (mD m₁ D) (U' ++ (D, lst ys) :: U₂) h₂ → kp k₁ k₂ → Qv D (Sh s₀ h₂ k₂))
theorem compG {use : Option (Value → Sem Unit)} {elt target iter : Expr} {ifs : List Expr} {rest : List Comprehension} {scope : Scope} {pos pos' : Pos} {cl : List (Str × Addr)} {mD : Locs → Addr → Locs} {Q : Value → Shared → Prop} {Qv : Addr → Shared → Prop}
    {T : Addr → Nat → (Nat → Value → Prop) → Heap → (Nat → List Value → Heap → Own → Prop) → Nat → Prop} {Hn : Nat → Prop} {kp : Nat → Nat → Prop} {s : Shared} (hkp : ∀ {a b c}, kp a b → b ≤ c → kp a c)
    (hclos : closureFor scope env = pure cl) (hcell : ∀ y ∈ scope.names, y.2 ≠ .cell) (hkind : scope.kind = .function) (hnames : ∀ y ∈ scope.names, y.2 = .local → scope.names.lookup y.1 = some .local)
    (hu : ∀ {C D : Addr} {oL : Obj} {B' : Heap} {m₁ m' : Locs} {X Y : Own} {h₂ : Heap} {k₂ : Nat}, (∀ h' : Heap, h'.get? env.locals = some oL → h'.Ns env.locals m₁) → St B' C m' (X ++ (env.locals, its oL) :: Y) h₂ →
      (∀ h' k', k₂ ≤ k' → St B' env.locals (mD m₁ D) (X ++ Y) h' → Qv D (Sh s₀ h' k')) → compPost (model PW w) A E use Q (.ref D) C (.ok .next) (Sh s₀ h₂ k₂))
    (run : ∀ {I : Addr} {n : Nat} {P : Nat → Value → Prop} {B₁ : Heap} {Inv : Nat → List Value → Heap → Own → Prop} {k₁ : Nat}, T I n P B₁ Inv k₁ → Hn n → ∀ {C D : Addr} {B₀ : Heap} {U₁ V : Own} {h₃ : Heap} {m₃ : Locs} {oI : Obj} {R : Result → Shared → Prop} (Y : Way w A I n P B₀), Kp B₁ B₀ → Owns target I Y.Wst →
      St B₀ C m₃ (U₁ ++ (I, its oI) :: (D, lst []) :: V) h₃ → Y.Wst 0 h₃ → Inv 0 [] B₀ U₁ → (∀ ys B' m' U' h₂ k₂, Inv n ys B' U' → Kp B₀ B' → St B' C m' (U' ++ (D, lst ys) :: V) h₂ → kp k₁ k₂ → R (.ok .next) (Sh s₀ h₂ k₂)) →
      codeAny (model PW w) A (.compLoop (.ListComp elt (⟨target, iter, ifs, 0⟩ :: rest) scope pos) 0 (.ref I) (.ref D) (compEnvC scope cl C env)) R (Sh s₀ h₃ k₁))
    (hv : wpAny (model PW w) A (eval iter env) (fun xv s₁ => wpAny (model PW w) A (pyIter xv) (CPre w A s₀ target env mD Qv T Hn kp) E s₁) E s)
    (hs : ∀ x, foldedSetIterable iter env x = pure x) :
    wpAny (model PW w) A (comprehension (.ListComp elt (⟨target, iter, ifs, 0⟩ :: rest) scope pos) scope env pos' (newList []) false (eval iter env) use) Q E s := by
  refine wpAny_comprehension_free (use := use) rfl hs hclos hkind hnames (wpAny_mono hv (fun xv s₁ q => wpAny_mono q (fun it s₂ q => ?_) fun _ _ e => e) fun _ _ e => e)
  obtain ⟨I, n, P, B₁, m₁, U₁, U₂, oI, h₁, k₁, Y, Inv, rfl, rfl, S, hn, hW, ht, h0, turn, fin⟩ := q
  refine wpAny_newObj_type (wpAny_newFunctionEnv hcell (by intro y hy; simp at hy) (fun h₃ hns hsb => ?_) hkind)
  dsimp only at hns hsb ⊢
  generalize hH : h₁.push { cls := .type "list", data := .seq ([] : List Value).toArray } = H at hns hsb ⊢
  obtain ⟨B₀, oL, kB, hL, S₀⟩ := S.within hH hns (fun b o e => hsb.extBut b o (fun q => by rw [q, get_none_of_ge (Nat.le_refl _)] at e; cases e) (Heap.get?_push_of_some _ e))
  have hW₃ : Y.Wst 0 h₃ := Y.frame (B₁ := B₁) (Kp.refl _) kB S S₀ hW
  have loop : codeAny (model PW w) A (.compLoop (.ListComp elt (⟨target, iter, ifs, 0⟩ :: rest) scope pos) 0 (.ref I) (.ref h₁.objs.size) (compEnvC scope cl H.objs.size env))
      (compPost (model PW w) A E use Q (.ref h₁.objs.size) H.objs.size) (Sh s₀ h₃ k₁) := by
    refine run turn hn (Y := ⟨Y.fp, Y.wr, Y.Wst, Y.W, Y.hI, Y.hwr, fun b hb => (Y.hfp b hb).imp id fun ⟨o, e⟩ => ⟨o, kB _ _ e⟩⟩) kB ht S₀ hW₃ (h0 _ kB) fun ys B' m' U' h₂ k₂ hinv hB S' hk => ?_
    refine hu (X := U' ++ [(h₁.objs.size, lst ys)]) hL (by rw [List.append_assoc]; exact S') fun h' k' hk' S₅ => ?_
    rw [List.append_assoc] at S₅
    exact fin ys B' U' _ h' k' hinv (kB.trans hB) S₅ (hkp hk hk')
  exact codeAny_compStart_list loop (Y.W.self 0 _ _ _ hW₃ loop)
noncomputable abbrev OneT (w : World) (A : Around) (s₀ : Shared) (target elt : Expr) (ifs : List Expr) (scope : Scope) (cl : List (Str × Addr)) (env : Env) : Addr → Nat → (Nat → Value → Prop) → Heap → (Nat → List Value → Heap → Own → Prop) → Nat → Prop := fun _ n P B₁ Inv k₁ =>
  ∀ E' i v ys B' m' U' V h₂ k₂ C cenv, cenv = compEnvC scope cl C env → i < n → P i v → Inv i ys B' U' → Kp B₁ B' → St B' cenv.locals m' (U' ++ V) h₂ → k₁ ≤ k₂ →
    wpAny (model PW w) A (assign target cenv v) (fun _ => CTurn w A s₀ ifs elt cenv V B' (fun ys B _ U => Inv (i + 1) ys B U) ys E') E' (Sh s₀ h₂ k₂)
theorem oneT_run {elt target iter : Expr} {ifs : List Expr} {scope : Scope} {pos : Pos} {cl : List (Str × Addr)} {I : Addr} {n : Nat} {P : Nat → Value → Prop} {B₁ : Heap} {Inv : Nat → List Value → Heap → Own → Prop} {k₁ : Nat} (turn : OneT w A s₀ target elt ifs scope cl env I n P B₁ Inv k₁) (hn : n ≤ sizeLine)
    {C D : Addr} {B₀ : Heap} {U₁ V : Own} {h₃ : Heap} {m₃ : Locs} {oI : Obj} {R : Result → Shared → Prop} (Y : Way w A I n P B₀) (kB : Kp B₁ B₀) (ht : Owns target I Y.Wst)
    (S : St B₀ C m₃ (U₁ ++ (I, its oI) :: (D, lst []) :: V) h₃) (hW : Y.Wst 0 h₃) (h0 : Inv 0 [] B₀ U₁) (fin : ∀ ys B' m' U' h₂ k₂, Inv n ys B' U' → Kp B₀ B' → St B' C m' (U' ++ (D, lst ys) :: V) h₂ → k₁ ≤ k₂ → R (.ok .next) (Sh s₀ h₂ k₂)) :
    codeAny (model PW w) A (.compLoop (.ListComp elt [⟨target, iter, ifs, 0⟩] scope pos) 0 (.ref I) (.ref D) (compEnvC scope cl C env)) R (Sh s₀ h₃ k₁) :=
  compLoopN (target := target) (iter := iter) (ifs := ifs) (env := compEnvC scope cl C env) (ys0 := []) (fun i ys B _ U => Inv i ys B U) Y (by rfl) (by rw [List.length_nil, Nat.zero_add]; exact hn) ht S hW h0
    (fun i v ys B' m' U' oI' h₂ k₂ hi hP hinv hB S' hk => turn _ i v ys B' m' U' _ h₂ k₂ C _ rfl hi hP hinv (kB.trans hB) S' hk) fin
theorem compW {target iter elt : Expr} {ifs : List Expr} {scope : Scope} {pos : Pos} {cl : List (Str × Addr)} {Q : Value → Shared → Prop} {s : Shared}
    (hclos : closureFor scope env = pure cl) (hcell : ∀ y ∈ scope.names, y.2 ≠ .cell) (hkind : scope.kind = .function) (hnames : ∀ y ∈ scope.names, y.2 = .local → scope.names.lookup y.1 = some .local)
    (hv : wpAny (model PW w) A (eval iter env) (fun xv s₁ => wpAny (model PW w) A (pyIter xv) (CPre w A s₀ target env (fun m _ => m) (fun D => Q (.ref D)) (OneT w A s₀ target elt ifs scope cl env) (· ≤ sizeLine) (· ≤ ·)) E s₁) E s)
    (hs : ∀ x, foldedSetIterable iter env x = pure x := by intro _; rfl) :
    wpAny (model PW w) A (eval (.ListComp elt [⟨target, iter, ifs, 0⟩] scope pos) env) Q E s := by
  rw [eval_ListComp]
  show wpAny _ A (comprehension (.ListComp elt [⟨target, iter, ifs, 0⟩] scope pos) scope env _ (newList []) false (eval iter env) none) _ _ _
  refine compG (s₀ := s₀) (use := none) (mD := fun m _ => m) (Q := Q) (Qv := fun D => Q (.ref D)) (T := OneT w A s₀ target elt ifs scope cl env) (Hn := (· ≤ sizeLine)) (kp := (· ≤ ·)) Nat.le_trans hclos hcell hkind hnames (fun hL S fin => ?_) (fun t hn => ?_) hv hs
  · exact ⟨_, S.ns, fun h' hs' => fin h' _ (Nat.le_refl _) (S.outer hs'.extBut hL)⟩
  · exact oneT_run t hn
noncomputable def wayList (hh : A.handled = none) {a I : Addr} {items : List Value} {o : Obj} (ha : B.get? a = some o) (hne : a ≠ I) :
    Way w A I items.length (fun i v => items[i]? = some v) B where
  fp := [I, a]
  wr := [I]
  Wst := fun i h => h.IsListIter I a i ∧ h.IsList a items.toArray
  W := by
    have W := Walks.list (prog := PW) (w := w) (A := A) hh I a hne items.toArray
    simp only [List.size_toArray, List.getElem?_toArray] at W
    exact W
  hI := fun i h x => let ⟨⟨o, e, _⟩, _⟩ := x; ⟨o, e⟩
  hwr := by simp
  hfp := fun b hb => by
    simp only [List.mem_cons, List.not_mem_nil, or_false] at hb
    rcases hb with rfl | rfl
    · exact .inl rfl
    · exact .inr ⟨_, ha⟩
noncomputable def wayStr (hh : A.handled = none) (I : Addr) (x : Str) (t : Tok) : Way w A I x.cps.size (SignAt x) B where
  fp := [I]
  wr := [I]
  Wst := fun i h => h.IsStrIter I (strIterType x) x t i
  W := by
    unfold strIterType
    split
    · exact Walks.strAscii hh I x t
    · exact Walks.strWide hh I x t
  hI := fun i h x => let ⟨o, e, _⟩ := x; ⟨o, e⟩
  hwr := by simp
  hfp := fun b hb => by simp at hb; exact .inl hb
noncomputable def wayRange (hh : A.handled = none) (I : Addr) (n : Nat) : Way w A I n (fun i v => ∃ t, v = .int (i : Int) t) B where
  fp := [I]
  wr := [I]
  Wst := fun i h => IsRangeIter h I (0 + (i : Nat) * 1) ((n : Int) - (i : Nat)) 1
  W := by
    have W := Walks.range (prog := PW) (w := w) (A := A) hh I 0 1 n
    simp only [Int.mul_one, Int.zero_add] at W ⊢
    exact W
  hI := fun i h x => ⟨_, x⟩
  hwr := by simp
  hfp := fun b hb => by simp at hb; exact .inl hb
theorem St.allocMid {V : List (Addr × Cell)} (S : St B L m (U ++ V) h) (o : Obj) {c : Cell} (hc : c o) (hf : o.isFreed = false := by rfl) : St B L m (U ++ (h.objs.size, c) :: V) (h.push o) :=
  (S.alloc o hc hf).perm List.perm_middle.symm
noncomputable abbrev listIt (a : Addr) : Obj := { cls := .type "list_iterator", data := .fields #[.ref a, .int 0 0] }
inductive LPre (w : World) (A : Around) (s₀ : Shared) (target : Expr) (body : List Stmt) (env : Env) (Q : Flow → Shared → Prop) (Es : (Value → Shared → Prop) → Prop) (xv : Value) (s₁ : Shared) : Prop
  | mk (a : Addr) (items : List Value) (o : Obj) (n : Nat) (B₁ : Heap) (m₁ : Locs) (U₁ V : Own) (h₁ : Heap) (k₁ : Nat) (Inv : Nat → Heap → Locs → Own → Prop)
      (e1 : xv = .ref a) (e2 : s₁ = Sh s₀ h₁ k₁) (S : St B₁ env.locals m₁ (U₁ ++ V) h₁) (ha : B₁.get? a = some o) (hc : o.cls = .type "list") (hd : o.data = .seq items.toArray n) (h0 : Inv 0 B₁ m₁ U₁)
      (turn : ∀ E', Es E' → ∀ i v B' m' U' V' h₂ k₂, items[i]? = some v → Inv i B' m' U' → Kp B₁ B' → St B' env.locals m' (U' ++ V') h₂ → k₁ ≤ k₂ →
        (∀ B'' m'' U'' h₃, St B'' env.locals m'' (U'' ++ V') h₃ → ∃ U₃, St B'' env.locals m'' (U'' ++ V ++ U₃) h₃) →
        wpAny (model PW w) A (assign target env v) (fun _ => wpAny (model PW w) A (execs body env) (NxF s₀ env.locals V' B' (Inv (i + 1)) Q) E') E' (Sh s₀ h₂ k₂))
      (fin : ∀ B' m' U' h₂ k₂, Inv items.length B' m' U' → Kp B₁ B' → St B' env.locals m' (U' ++ V) h₂ → k₁ ≤ k₂ → Q .next (Sh s₀ h₂ k₂))
noncomputable abbrev LE (w : World) (A : Around) (env : Env) (Q : Flow → Shared → Prop) (E : Value → Shared → Prop) : Value → Shared → Prop :=
  EE w A env (fun r s' => match r with | .ok f => Q f s' | .error e => cameBackBy (model PW w) A env E e s')
theorem forLst {target iter : Expr} {body : List Stmt} {pos : Pos} {Q : Flow → Shared → Prop} {Es : (Value → Shared → Prop) → Prop} {s : Shared} (hh : A.handled = none)
    (htg : (∀ it v, letOwnedTupleGo target it v = pure ()) ∨ ∃ elts x1 p, target = .Tuple elts x1 p) (hE : Es (LE w A env Q E))
    (hv : wpAny (model PW w) A (eval iter env) (LPre w A s₀ target body env Q Es) E s)
    (hs : ∀ x, foldedSetIterable iter env x = pure x) :
    wpAny (model PW w) A (exec (.For target iter body [] pos) env) Q E s := by
  refine wpAny_For (wpAny_mono hv (fun xv s₁ q => ?_) fun _ _ e => e) hs
  obtain ⟨a, items, o, n, B₁, m₁, U₁, V, h₁, k₁, Inv, rfl, rfl, S, ha, hc, hd, h0, turn, fin⟩ := q
  have hl : h₁.IsList a items.toArray := ⟨o, S.old ha, hc, n, hd⟩
  refine wpAny_pyIter_list (s := Sh s₀ h₁ k₁) hl ?_
  have hne : a ≠ h₁.objs.size := Nat.ne_of_lt (Heap.lt_size (S.old ha))
  have S' := S.allocMid (listIt a) (c := its (listIt a)) rfl
  refine forLoopW (R := fun r s' => match r with | .ok f => Q f s' | .error e => cameBackBy (model PW w) A env E e s') (s₀ := s₀) Inv (wayList hh (items := items) ha hne) ?_ S' ⟨⟨_, Heap.get?_push_size _ rfl, rfl, rfl⟩, hl.push _⟩ h0
    (fun i v B' m' U' oI' h₂ k₂ hi hP hinv hB S₂ hk => turn _ hE i v B' m' U' _ h₂ k₂ hP hinv hB S₂ hk fun B'' m'' U'' h₃ S₃ => ⟨[(h₁.objs.size, its oI')], S₃.perm ?_⟩)
    (fun B' m' U' h₂ k₂ hinv hB S₂ hk => fin B' m' U' h₂ k₂ hinv hB S₂ hk)
  · exact htg.imp (fun q v => q _ v) fun ⟨elts, x1, p, q⟩ => ⟨elts, x1, p, a, q, fun i h x => ⟨i, x.1⟩⟩
  · exact (List.perm_middle.trans (List.perm_append_singleton ..).symm)
theorem forList {target iter : Expr} {body : List Stmt} {pos : Pos} {Q : Flow → Shared → Prop} {s : Shared} (hh : A.handled = none)
    (htg : (∀ it v, letOwnedTupleGo target it v = pure ()) ∨ ∃ elts x1 p, target = .Tuple elts x1 p)
    (hv : wpAny (model PW w) A (eval iter env) (LPre w A s₀ target body env Q fun _ => True) E s)
    (hs : ∀ x, foldedSetIterable iter env x = pure x := by intro _; rfl) :
    wpAny (model PW w) A (exec (.For target iter body [] pos) env) Q E s := forLst hh htg trivial hv hs
theorem forListE {target iter : Expr} {body : List Stmt} {pos : Pos} {Q : Flow → Shared → Prop} {s : Shared} (hh : A.handled = none)
    (htg : (∀ it v, letOwnedTupleGo target it v = pure ()) ∨ ∃ elts x1 p, target = .Tuple elts x1 p)
    (hv : wpAny (model PW w) A (eval iter env) (LPre w A s₀ target body env Q (· = LE w A env Q E)) E s)
    (hs : ∀ x, foldedSetIterable iter env x = pure x := by intro _; rfl) :
    wpAny (model PW w) A (exec (.For target iter body [] pos) env) Q E s := forLst (Es := (· = LE w A env Q E)) hh htg rfl hv hs
inductive SPre (w : World) (A : Around) (s₀ : Shared) (target : Expr) (body : List Stmt) (env : Env) (Q : Flow → Shared → Prop) (xv : Value) (s₁ : Shared) : Prop
  | mk (y : Str) (t : Tok) (B₁ : Heap) (m₁ : Locs) (U₁ V : Own) (h₁ : Heap) (k₁ : Nat) (Inv : Nat → Heap → Locs → Own → Prop)
      (e1 : xv = .str y t) (e2 : s₁ = Sh s₀ h₁ k₁) (S : St B₁ env.locals m₁ (U₁ ++ V) h₁) (h0 : Inv 0 B₁ m₁ U₁)
      (turn : ∀ E' i c u B' m' U' V' h₂ k₂, y.cps[i]? = some c → Inv i B' m' U' → Kp B₁ B' → St B' env.locals m' (U' ++ V') h₂ → k₁ ≤ k₂ →
        wpAny (model PW w) A (assign target env (.str ⟨#[c]⟩ u)) (fun _ => wpAny (model PW w) A (execs body env) (NxF s₀ env.locals V' B' (Inv (i + 1)) Q) E') E' (Sh s₀ h₂ k₂))
      (fin : ∀ B' m' U' h₂ k₂, Inv y.cps.size B' m' U' → Kp B₁ B' → St B' env.locals m' (U' ++ V) h₂ → k₁ ≤ k₂ → Q .next (Sh s₀ h₂ k₂))
theorem forStr {x : Str} {px : Pos} {iter : Expr} {body : List Stmt} {pos : Pos} {Q : Flow → Shared → Prop} {s : Shared} (hh : A.handled = none)
    (hv : wpAny (model PW w) A (eval iter env) (SPre w A s₀ (.Name x px) body env Q) E s)
    (hs : ∀ x, foldedSetIterable iter env x = pure x := by intro _; rfl) :
    wpAny (model PW w) A (exec (.For (.Name x px) iter body [] pos) env) Q E s := by
  refine wpAny_For (wpAny_mono hv (fun xv s₁ q => ?_) fun _ _ e => e) hs
  obtain ⟨y, t, B₁, m₁, U₁, V, h₁, k₁, Inv, rfl, rfl, S, h0, turn, fin⟩ := q
  refine wpAny_pyIter_strU (s := Sh s₀ h₁ k₁) ?_
  have S' := S.allocMid { cls := .type (strIterType y), data := .fields #[.str y t, .int 0 0] } (c := its _) rfl
  refine forLoopW (R := fun r s' => match r with | .ok f => Q f s' | .error e => cameBackBy (model PW w) A env E e s') (s₀ := s₀) Inv (wayStr hh h₁.objs.size y t) (.inl fun _ => rfl) S' ⟨_, Heap.get?_push_size _ rfl, rfl, rfl⟩ h0
    (fun i v B' m' U' oI' h₂ k₂ hi hP hinv hB S₂ hk => ?_)
    (fun B' m' U' h₂ k₂ hinv hB S₂ hk => fin B' m' U' h₂ k₂ hinv hB S₂ hk)
  obtain ⟨c, u, hc, rfl⟩ := hP
  exact turn _ i c u B' m' U' _ h₂ k₂ hc hinv hB S₂ hk
end
theorem St.weaken {B B' : Heap} {L : Addr} {m : Str → Option Value} {U : List (Addr × Cell)} {h : Heap} (S : St B' L m U h) (k : Kp B B') : St B L m U h := by
  have z : ∀ a, B'.get? a = none → B.get? a = none := fun a ha => by
    cases e : B.get? a with
    | none => rfl
    | some o => have := k _ _ e; rw [ha] at this; cases this
  exact ⟨S.ns, k.trans S.keep, z _ S.nl, fun p hp => let ⟨a, b, c⟩ := S.own p hp; ⟨a, b, z _ c⟩, S.nd⟩
section
variable {w : World} {A : Around} {E : Value → Shared → Prop} {R : Result → Shared → Prop} {s₀ : Shared} {B : Heap} {L : Addr} {m : Str → Option Value} {U : List (Addr × Cell)} {h : Heap} {k : Nat} {env : Env}
theorem strVal_get {l : List (Str × Tok)} {i : Nat} {v : Value} (e : (strValues l)[i]? = some v) : ∃ x t, v = .str x t ∧ (l.map (·.1))[i]? = some x := by
  simp only [strValues, List.getElem?_map, Option.map_eq_some_iff] at e ⊢
  obtain ⟨p, hp, rfl⟩ := e
  exact ⟨p.1, p.2, rfl, p, hp, rfl⟩
inductive StrTo (s₀ : Shared) (z : Str) (h₂ : Heap) (v : Value) (s' : Shared) : Prop
  | mk (t' : Tok) (h₃ : Heap) (k₃ : Nat) (e1 : v = .str z t') (e2 : s' = Sh s₀ h₃ k₃) (K : Kp h₂ h₃)
inductive XPre (w : World) (A : Around) (s₀ : Shared) (x : Str) (f : Str → Str) (elt : Expr) (scope : Scope) (cl : List (Str × Addr)) (env : Env) (Q : Value → Shared → Prop) (xv : Value) (s₁ : Shared) : Prop
  | mk (a : Addr) (xs : List Str) (o : Obj) (B₁ : Heap) (m₁ : Locs) (U₁ : Own) (h₁ : Heap) (k₁ : Nat) (e1 : xv = .ref a) (e2 : s₁ = Sh s₀ h₁ k₁) (S : St B₁ env.locals m₁ U₁ h₁) (ha : B₁.get? a = some o) (ho : txts xs o) (hn : xs.length ≤ sizeLine)
      (turn : ∀ E' y t B' m' V h₂ k₂ C cenv, cenv = compEnvC scope cl C env → cenv.kindOf x = some .local → y ∈ xs → Kp B₁ B' → St B' cenv.locals m' V h₂ → m' x = some (.str y t) → k₁ ≤ k₂ →
        wpAny (model PW w) A (eval elt cenv) (StrTo s₀ (f y) h₂) E' (Sh s₀ h₂ k₂))
      (fin : ∀ a' h' k', St B₁ env.locals m₁ ((a', txts (xs.map f)) :: U₁) h' → k₁ ≤ k' → Q (.ref a') (Sh s₀ h' k'))
inductive XInv (l : List Str) (i : Nat) (ys : List Value) (B' : Heap) (U' : Own) : Prop
  | mk (e0 : U' = []) (l' : List (Str × Tok)) (e1 : l'.map (·.1) = l.take i) (e2 : ys = strValues l') (e3 : ys.length = i)
theorem compTxt {x : Str} {px : Pos} {iter elt : Expr} {scope : Scope} {pos : Pos} {cl : List (Str × Addr)} {Q : Value → Shared → Prop} (f : Str → Str) (hh : A.handled = none)
    (hclos : closureFor scope env = pure cl) (hcell : ∀ y ∈ scope.names, y.2 ≠ .cell) (hkind : scope.kind = .function) (hnames : ∀ y ∈ scope.names, y.2 = .local → scope.names.lookup y.1 = some .local) (hx : scope.names.lookup x = some .local)
    (hv : wpAny (model PW w) A (eval iter env) (XPre w A s₀ x f elt scope cl env Q) E (Sh s₀ h k))
    (hs : ∀ x, foldedSetIterable iter env x = pure x := by intro _; rfl) :
    wpAny (model PW w) A (eval (.ListComp elt [⟨.Name x px, iter, [], 0⟩] scope pos) env) Q E (Sh s₀ h k) := by
  refine compW (s₀ := s₀) hclos hcell hkind hnames (wpAny_mono hv (fun xv s₁ q => ?_) fun _ _ e => e) hs
  obtain ⟨a, xs, o, B₁, m₁, U₁, h₁, k₁, rfl, rfl, S, ha, ⟨l, n, hl, rfl⟩, hsz, turn, fin⟩ := q
  have hL : h₁.IsList a (strValues l).toArray := ⟨_, S.old ha, rfl, n, rfl⟩
  refine wpAny_pyIter_list (s := Sh s₀ h₁ k₁) hL ?_
  have hne : a ≠ h₁.objs.size := Nat.ne_of_lt (Heap.lt_size (S.old ha))
  have S' := St.allocMid (U := []) (V := U₁) S (listIt a) (c := its (listIt a)) rfl
  have hlen : (strValues l).length = xs.length := by rw [← hl]; simp [strValues]
  refine ⟨h₁.objs.size, (strValues l).length, _, B₁, m₁, [], U₁, listIt a, _, k₁, wayList hh (items := strValues l) ha hne,
    XInv (xs.map f), rfl, rfl, S', by rw [hlen]; exact hsz, ⟨⟨_, Heap.get?_push_size _ rfl, rfl, rfl⟩, hL.push _⟩, .inl fun _ => rfl,
    fun _ _ => ⟨rfl, [], rfl, rfl, rfl⟩, ?_, ?_⟩
  · intro E' i v ys B' m' U' V h₂ k₂ C cenv hc hi hP hinv hB S₂ hk
    obtain ⟨rfl, l', e1, rfl, e3⟩ := hinv
    obtain ⟨y, t, rfl, hy⟩ := strVal_get hP
    rw [hl] at hy
    have kx : cenv.kindOf x = some .local := by rw [hc]; exact lookup_relabel_local hx
    have kk : cenv.scope.kind = .function := by rw [hc]; exact hkind
    refine wpAny_assign_Name (stn' S₂ kk kx fun h₃ S₃ => wpAny_tests_nil ?_)
    have hmem : y ∈ xs := by obtain ⟨hlt, e⟩ := List.getElem?_eq_some_iff.mp hy; rw [← e]; exact List.getElem_mem hlt
    refine wpAny_mono (turn E' y t B' _ V h₃ (k₂ + 1) C cenv hc kx hmem hB S₃ (by simp) (Nat.le_succ_of_le hk)) (fun v' s' q => ?_) fun _ _ e => e
    obtain ⟨t', h₄, k₄, rfl, rfl, K₄⟩ := q
    refine ⟨B', _, [], h₄, k₄, rfl, Kp.refl _, S₃.mono K₄, rfl, l' ++ [(f y, t')], ?_, by simp [strValues], by simp [e3]⟩
    rw [List.map_append, e1, List.take_add_one, List.getElem?_map, hy]; rfl
  · intro ys B' U' D h₂ k₂ hinv hB S₂ hk
    obtain ⟨rfl, l', e1, rfl, e3⟩ := hinv
    refine fin D h₂ k₂ (St.weaken (B' := B') ?_ hB) hk
    have S₃ : St B' env.locals m₁ ((D, lst (strValues l')) :: U₁) h₂ := S₂
    rw [List.take_of_length_le (by rw [List.length_map, ← hlen]; exact Nat.le_refl _)] at e1
    exact ⟨S₃.ns, S₃.keep, S₃.nl, fun p hp => by
      rcases List.mem_cons.mp hp with rfl | hp
      · obtain ⟨⟨o, e, c⟩, r⟩ := S₃.own _ (.head _)
        exact ⟨⟨o, e, txts_lst e1 c⟩, r⟩
      · exact S₃.own p (.tail _ hp), S₃.nd⟩
end
end Mine
end
section
open PySem PySem.W PySem.Calls
open Builtin Builtin.Str
namespace Mine
noncomputable def cutEq (x : Str) : Option (Str × Str) := match occurrences x (Str.ofString "=") 0 x.length 1 with
  | i :: _ => some (strSub x 0 i, strSub x (i + 1) x.length)
  | [] => none
noncomputable def splitEq (x : Str) : List Str := match cutEq x with
  | some p => [p.1, p.2]
  | none => [x]
theorem parts_le (x y : Str) : (partsBetween x (occurrences x y 0 x.length (x.length + 1)) y.length).length ≤ x.length + 2 := by
  have := StrLaws.occ_length_le x y 0 x.length (x.length + 1)
  simp only [partsBetween, List.length_map, List.length_zip, List.length_cons, List.length_append, List.length_nil]
  omega
theorem numbered_vals (k : Nat) (xs : List Str) : ∃ l : List (Str × Tok), l.map (·.1) = xs ∧ strsFrom k xs = strValues l := ⟨numbered k xs, numbered_texts _ _, strsFrom_eq _ _⟩
noncomputable def tupO (vs : List Value) : Obj := { cls := .type "tuple", data := .seq vs.toArray }
noncomputable def listO (vs : List Value) : Obj := { cls := .type "list", data := .seq vs.toArray }
section
variable {w : World} {A : Around} {E : Value → Shared → Prop} {s₀ : Shared} {h : Heap} {k : Nat}
theorem split_s {x y : Str} {t u : Tok} {Q : Value → Shared → Prop} (hy : (y.length == 0) = false) (hsz : x.length + 2 ≤ sizeLine)
    (hQ : ∀ o k', txts (Txt.split x y) o → o.isFreed = false → k ≤ k' → Q (.ref h.objs.size) (Sh s₀ (h.push o) k')) : wpAny (model PW w) A (call (.builtin "str.split") [.str x t, .str y u]) Q E (Sh s₀ h k) := by
  have hx : x.length ≤ sizeLine := by omega
  have hp := Nat.le_trans (parts_le x y) hsz
  cases h1 : (decide (x.length < y.length) || decide (strKind x < strKind y))
  · cases hf : (occurrences x y 0 x.length (x.length + 1)).isEmpty
    · refine call_meets F.slot_str_split (typeIs_str _ _ _) F.entry_str_split (F.args_str_split_2 _ _) (meets_str_split_sep x y t u h1 hy hf hx hp) ?_
      obtain ⟨l, e1, e2⟩ := numbered_vals k (partsBetween x (occurrences x y 0 x.length (x.length + 1)) y.length)
      have hs : Txt.split x y = partsBetween x (occurrences x y 0 x.length (x.length + 1)) y.length := by unfold Txt.split; rw [h1, hf]; rfl
      have := hQ (listO (strValues l)) (k + (partsBetween x (occurrences x y 0 x.length (x.length + 1)) y.length).length) ⟨l, 0, e1.trans hs.symm, rfl⟩ rfl (by omega)
      rw [← e2] at this; exact this
    · have hs : Txt.split x y = [x] := by unfold Txt.split; rw [h1, hf]; rfl
      exact call_meets F.slot_str_split (typeIs_str _ _ _) F.entry_str_split (F.args_str_split_2 _ _) (meets_str_split_not_found x y t u h1 hy hf)
        (hQ (listO (strValues [(x, t)])) k ⟨[(x, t)], 0, hs.symm, rfl⟩ rfl (Nat.le_refl _))
  · have hs : Txt.split x y = [x] := by unfold Txt.split; rw [h1]; rfl
    exact call_meets F.slot_str_split (typeIs_str _ _ _) F.entry_str_split (F.args_str_split_2 _ _) (meets_str_split_cannot_occur x y t u h1)
      (hQ (listO (strValues [(x, t)])) k ⟨[(x, t)], 0, hs.symm, rfl⟩ rfl (Nat.le_refl _))
theorem splitEq_s {x : Str} {t u v : Tok} {Q : Value → Shared → Prop} (hsz : x.length ≤ sizeLine)
    (hQ : ∀ o k', txts (splitEq x) o → o.isFreed = false → k ≤ k' → Q (.ref h.objs.size) (Sh s₀ (h.push o) k')) :
    wpAny (model PW w) A (call (.builtin "str.split") [.str x t, .str (Str.ofString "=") u, .int 1 v]) Q E (Sh s₀ h k) := by
  have hk : Builtin.Str.strKind (Str.ofString "=") = 1 := by decide +kernel
  have hk2 : 1 ≤ Builtin.Str.strKind x := by unfold Builtin.Str.strKind; split <;> (try split) <;> decide
  have hlim : limitOf x 1 = 1 := rfl
  obtain ⟨raising, htree⟩ := split_sep_max_tree x (Str.ofString "=") 1 t u v (by decide)
  refine call_meets (S := fun _ R s => ∀ o k', txts (splitEq x) o → o.isFreed = false → s.toks ≤ k' → R (.ok (.ret (.ref s.heap.objs.size))) { s with heap := s.heap.push o, toks := k' }) F.slot_str_split (typeIs_str _ _ _) F.entry_str_split
    (F.args_str_split_3 _ _ _) (.of_wp fun prog w A R s hs => ?_) (fun o k' a b c => hQ o k' a b c)
  rw [htree, hlim]
  unfold splitEq cutEq at hs
  cases ho : occurrences x (Str.ofString "=") 0 x.length 1 with
  | nil =>
    rw [ho] at hs
    split
    · exact wpAny_bind (wpAny_rule (wpAny_bind (wpAny_newList (wpAny_pure ⟨_, rfl, hs (listO (strValues [(x, t)])) s.toks ⟨[(x, t)], 0, rfl, rfl⟩ rfl (Nat.le_refl _)⟩) (by show 1 ≤ sizeLine; decide))))
    · rw [if_neg (by decide)]
      exact wpAny_bind (wpAny_rule (wpAny_bind (wpAny_newList (wpAny_pure ⟨_, rfl, hs (listO (strValues [(x, t)])) s.toks ⟨[(x, t)], 0, rfl, rfl⟩ rfl (Nat.le_refl _)⟩) (by show 1 ≤ sizeLine; decide))))
  | cons i r =>
    have hr : r = [] := by
      have := StrLaws.occ_length_le x (Str.ofString "=") 0 x.length 1
      rw [ho] at this
      cases r with
      | nil => rfl
      | cons _ _ => simp at this
    subst hr
    rw [ho] at hs
    have hlen : ¬ (x.length < (Str.ofString "=").length) := by
      have := (StrLaws.found_iff x (Str.ofString "=")).mp (by rw [ho]; rfl)
      obtain ⟨j, hj, _⟩ := this
      omega
    rw [if_neg (by rw [hk]; simp [hlen]; omega), if_neg (by decide), if_neg (by simp)]
    have hpb : partsBetween x [i] (Str.ofString "=").length = [strSub x 0 i, strSub x (i + 1) x.length] := rfl
    rw [hpb]
    refine wpAny_bind (wpAny_mapM_mkStr _ _ _ (fun p hp => ?_) (wpAny_bind (wpAny_newList (wpAny_pure ⟨_, rfl, ?_⟩) (by rw [strsFrom_length]; show 2 ≤ sizeLine; decide))))
    · simp at hp; rcases hp with rfl | rfl <;> exact Nat.le_trans (strSub_length_le ..) hsz
    · obtain ⟨l, e1, e2⟩ := numbered_vals s.toks [strSub x 0 i, strSub x (i + 1) x.length]
      have := hs (listO (strValues l)) (s.toks + 2) ⟨l, 0, e1, rfl⟩ rfl (by omega)
      rw [← e2] at this; exact this
theorem partEq_s {x : Str} {t u : Tok} {Q : Value → Shared → Prop} (hsz : x.length ≤ sizeLine)
    (hQ : ∀ t1 t2 t3 k', k ≤ k' → Q (.ref h.objs.size) (Sh s₀ (h.push (tupO (match cutEq x with
      | some p => [.str p.1 t1, .str (Str.ofString "=") t2, .str p.2 t3]
      | none => [.str x t1, .str (Str.ofString "") t2, .str (Str.ofString "") t3]))) k')) :
    wpAny (model PW w) A (call (.builtin "str.partition") [.str x t, .str (Str.ofString "=") u]) Q E (Sh s₀ h k) := by
  refine call_meets F.slot_str_partition (typeIs_str _ _ _) F.entry_str_partition (F.args_str_partition_2 _ _) (meets_str_partition x (Str.ofString "=") t u rfl hsz) ?_
  unfold cutEq at hQ
  cases ho : occurrences x (Str.ofString "=") 0 x.length 1 with
  | nil => rw [ho] at hQ; exact hQ t k k (k + 1) (by omega)
  | cons i r => rw [ho] at hQ; exact hQ k u (k + 1) (k + 1 + 1) (by omega)
theorem join_s {x : Str} {t : Tok} {D : Addr} {xs : List Str} {o : Obj} {Q : Value → Shared → Prop} (ho : h.get? D = some o) (hx : txts xs o) (hok : (xs.map (·.length)).sum + xs.length * x.length ≤ 16777216)
    (hQ : ∀ t' k', Q (.str (Str.join x xs) t') (Sh s₀ h k')) : wpAny (model PW w) A (call (.builtin "str.join") [.str x t, .ref D]) Q E (Sh s₀ h k) := by
  obtain ⟨l, n, hl, rfl⟩ := hx
  refine SC.join (s := Sh s₀ h k) ⟨_, ho, rfl, n, rfl⟩ hl ?_ (fun t' k' => ?_)
  · unfold JoinOk tooLong sizeLine
    rw [StrLaws.joinTotal]
    have e : (2 : Nat) ^ 24 = 16777216 := by decide
    rw [Bool.not_eq_true']
    exact decide_eq_false (by omega)
  · have : Txt.join x xs = Str.join x xs := StrLaws.glued_eq_join x xs
    rw [this]; exact hQ t' k'
theorem rep_s {x y z : Str} {t u v : Tok} {Q : Value → Shared → Prop} (hu : u ≠ 0) (hv : v ≠ 0) (huv : u ≠ v) (hyz : (y == z) = false) (hb : x.length + (x.length + 1) * z.length ≤ 16777216)
    (hQ : ∀ t' k', Q (.str (Txt.replace x y z) t') (Sh s₀ h k')) : wpAny (model PW w) A (call (.builtin "str.replace") [.str x t, .str y u, .str z v]) Q E (Sh s₀ h k) :=
  SC.replace (s := Sh s₀ h k) hu hv huv hyz hb fun t' k' => hQ t' k'
end
end Mine
end
section
open PySem PySem.W PySem.Calls
namespace Mine
noncomputable abbrev HS := List Str × Str × Bool × Bool
noncomputable def one (c : Nat) : Str := ⟨#[c]⟩
noncomputable def stepH (st : HS) (c : Nat) : HS :=
  if st.2.2.1 then (st.1, st.2.1 ++ one c, false, st.2.2.2)
  else if st.2.2.2 then (if c = 92 then (st.1, st.2.1, true, true) else if c = 34 then (st.1, st.2.1 ++ one c, false, false) else (st.1, st.2.1 ++ one c, false, true))
  else if c = 44 then (st.1 ++ [st.2.1], Str.ofString "", false, false)
  else if c = 34 then (st.1, st.2.1 ++ one c, false, true) else (st.1, st.2.1 ++ one c, false, false)
noncomputable def runH (cs : List Nat) : HS := cs.foldl stepH ([], Str.ofString "", false, false)
noncomputable def httpOf (x : Str) : List Str :=
  let st := runH x.cps.toList
  (if st.2.1.length = 0 then st.1 else st.1 ++ [st.2.1]).map Txt.strip
theorem one_eq (c d : Nat) (s : String) (hs : Str.ofString s = one d) : ((⟨#[c]⟩ : Str) == Str.ofString s) = decide (c = d) := by
  rw [hs]; rw [Bool.eq_iff_iff]; simp [one]
theorem len_append (x y : Str) : (x ++ y).length = x.length + y.length := by
  first | exact Str.length_append x y | exact PyProof.Rows.strLen_append x y
theorem len_one (c : Nat) : (one c).length = 1 := rfl
theorem runH_snoc (cs : List Nat) (c : Nat) : runH (cs ++ [c]) = stepH (runH cs) c := by simp [runH]
theorem stepH_len (st : HS) (c n : Nat) (a : st.2.1.length ≤ n) (b : st.1.length ≤ n) (d : ∀ p ∈ st.1, p.length ≤ n) :
    (stepH st c).2.1.length ≤ n + 1 ∧ (stepH st c).1.length ≤ n + 1 ∧ ∀ p ∈ (stepH st c).1, p.length ≤ n + 1 := by
  obtain ⟨res, part, esc, q⟩ := st
  simp only at a b d
  have d' : ∀ p ∈ res, p.length ≤ n + 1 := fun p hp => Nat.le_succ_of_le (d p hp)
  have e0 : (Str.ofString "").length = 0 := rfl
  unfold stepH
  (repeat' split) <;> simp only [len_append, len_one, List.length_append, List.length_cons, List.length_nil, e0, List.mem_append, List.mem_singleton] <;>
    refine ⟨by omega, by omega, ?_⟩ <;> first | exact d' | (rintro p (hp | rfl); exact d' p hp; omega)
theorem foldH_len : ∀ (cs : List Nat) (st : HS) (n : Nat), st.2.1.length ≤ n → st.1.length ≤ n → (∀ p ∈ st.1, p.length ≤ n) →
    (cs.foldl stepH st).2.1.length ≤ n + cs.length ∧ (cs.foldl stepH st).1.length ≤ n + cs.length ∧ ∀ p ∈ (cs.foldl stepH st).1, p.length ≤ n + cs.length
  | [], _, _, a, b, d => ⟨a, b, d⟩
  | c :: cs, st, n, a, b, d => by
    obtain ⟨a', b', d'⟩ := stepH_len st c n a b d
    have := foldH_len cs (stepH st c) (n + 1) a' b' d'
    rw [List.foldl_cons, List.length_cons]
    rw [show n + (cs.length + 1) = n + 1 + cs.length by omega]
    exact this
theorem runH_len (cs : List Nat) : (runH cs).2.1.length ≤ cs.length ∧ (runH cs).1.length ≤ cs.length ∧ ∀ p ∈ (runH cs).1, p.length ≤ cs.length := by
  have := foldH_len cs ([], Str.ofString "", false, false) 0 (Nat.le_refl _) (Nat.le_refl _) (fun p hp => (nomatch hp))
  rw [Nat.zero_add] at this; exact this
section
variable {w : World} {A : Around} {E : Value → Shared → Prop} {s₀ : Shared} {B : Heap} {m : Str → Option Value} {U : List (Addr × Cell)} {h : Heap} {k : Nat} {env : Env}
theorem appendS {L : Addr} {R : Addr} {xs : List Str} {x : Str} {t : Tok} {Q : Value → Shared → Prop} (S : St B L m ((R, txts xs) :: U) h) (hsz : xs.length ≤ sizeLine)
    (hQ : ∀ h' k', St B L m ((R, txts (xs ++ [x])) :: U) h' → Q .none (Sh s₀ h' k')) : wpAny (model PW w) A (call (.builtin "list.append") [.ref R, .str x t]) Q E (Sh s₀ h k) := by
  obtain ⟨⟨o, e, l, n, hl, rfl⟩, _⟩ := S.own (R, txts xs) (.head _)
  refine wpAny_list_append_plain (s := Sh s₀ h k) ⟨n, e⟩ (fun h' hp hs => hQ h' k ?_) (by rw [List.size_toArray]; simp [strValues, ← hl] at hsz ⊢; exact hsz)
  obtain ⟨n', e'⟩ := hp
  exact S.upd0 hs.extBut e' ⟨l ++ [(x, t)], n', by simp [hl], by simp [strValues]⟩
theorem txts_plain {L : Addr} {R : Addr} {xs : List Str} (S : St B L m ((R, txts xs) :: U) h) : ∃ vs, h.PlainList R vs := by
  obtain ⟨⟨o, e, l, n, hl, rfl⟩, _⟩ := S.own (R, txts xs) (.head _)
  exact ⟨_, n, e⟩
theorem truthy_b {b : Bool} {Q : Bool → Shared → Prop} {s : Shared} (hQ : Q b s) : wpAny (model PW w) A (truthy (.bool b)) Q E s := wpAny_truthy_bool hQ
theorem truthy_s {x : Str} {t : Tok} {Q : Bool → Shared → Prop} (hsz : x.length ≤ sizeLine) (hQ : Q (decide (x.length ≠ 0)) (Sh s₀ h (k + 1 + 1))) : wpAny (model PW w) A (truthy (.str x t)) Q E (Sh s₀ h k) := by
  refine P.truthy_str (s := Sh s₀ h k) (by rw [sizeLine_eq] at hsz; omega) ?_
  have : ((x.length : Int) != 0) = decide (x.length ≠ 0) := by rw [Bool.eq_iff_iff]; simp
  rw [this]; exact hQ
theorem interactive_no (ok : EOk env) : interactive env = false := by unfold interactive; rw [ok.kind]; rfl
inductive AugPre (s₀ : Shared) (n : Nat) (S : Heap → Prop) (K : Str → Prop) (v : Value) (s' : Shared) : Prop
  | mk (c : Str) (u : Tok) (h' : Heap) (k' : Nat) (e1 : v = .str c u) (e2 : s' = Sh s₀ h' k') (s : S h') (hn : n + c.length ≤ sizeLine) (q : K c)
theorem augS {x : Str} {px pos : Pos} {value : Expr} {p : Str} {t : Tok} {Q : Flow → Shared → Prop} (S : St B env.locals m U h) (hk : env.scope.kind = .function) (hl : env.kindOf x = some .local) (hx : m x = some (.str p t))
    (hv : wpAny (model PW w) A (eval value env) (AugPre s₀ p.length (St B env.locals m U) fun c => ∀ h'' k'' t', St B env.locals (fun y => if y = x then some (.str (p ++ c) t') else m y) U h'' → Q .next (Sh s₀ h'' k'')) E (Sh s₀ h k)) :
    wpAny (model PW w) A (exec (.AugAssign (.Name x px) .Add value pos) env) Q E (Sh s₀ h k) := by
  refine wpAny_AugAssign_Name (ldn S hk hl hx (wpAny_mono hv (fun v s' q => ?_) fun _ _ e => e))
  obtain ⟨c, u, h', k', rfl, rfl, S', hsz, hQ⟩ := q
  exact iadd_s hsz fun t' k'' => stn S' hk hl fun h'' k₃ S'' => hQ h'' k₃ t' S''
theorem isSign {x : Str} {px pc pos : Pos} {kk : Nat} {s : String} {whole : Sem Value} {c d : Nat} {u : Tok} {Q : Bool → Shared → Prop} (S : St B env.locals m U h) (hk : env.scope.kind = .function) (hl : env.kindOf x = some .local) (hx : m x = some (.str (one c) u))
    (hs : Str.ofString s = one d) (hQ : Q (decide (c = d)) (Sh s₀ h (k + 1))) (hd : (x == ("__debug__" : Str)) = false := by decide) :
    wpAny (model PW w) A (isTrue (.Compare (.Name x px) [.Eq] [.Constant (.str (Str.ofString s)) kk pc] pos) env whole) Q E (Sh s₀ h k) := by
  refine wpAny_isTrue_Compare1 (nm S hk hl hx (c_str (eq_s (truthy_b ?_))) hd) (by with_unfolding_all rfl)
  have := one_eq c d s hs
  unfold one at this ⊢
  rw [this]; exact hQ
inductive HInv (R : Addr) (x : Str) (t : Tok) (B : Heap) (st : List Str × Str × Bool × Bool) (B' : Heap) (m' : Locs) (U' : Own) : Prop
  | mk (t' : Tok) (e1 : m' "res" = some (.ref R)) (e2 : m' "part" = some (.str st.2.1 t')) (e3 : m' "escape" = some (.bool st.2.2.1)) (e4 : m' "quote" = some (.bool st.2.2.2)) (e5 : m' "s" = some (.str x t)) (e6 : U' = [(R, txts st.1)]) (e7 : B' = B)
theorem http_body {Q : Flow → Shared → Prop} {x : Str} {t : Tok} (S : St B env.locals m U h) (hh : A.handled = none) (ok : EOk env) (hv : m "s" = some (.str x t))
   (l1 : env.kindOf "s" = some .local) (l2 : env.kindOf "res" = some .local) (l3 : env.kindOf "part" = some .local) (l4 : env.kindOf "escape" = some .local) (l5 : env.kindOf "quote" = some .local) (l6 : env.kindOf "cur" = some .local)
   (hsz : 2 * x.length ≤ sizeLine) (hQ : ∀ h' k' a m', St B env.locals m' ((a, txts (httpOf x)) :: U) h' → Q (.ret (.ref a)) (Sh s₀ h' k')) :
   wpAny (model PW w) A (execs (dBody (stmtAt 9)) env) Q E (Sh s₀ h k) := by
  have hk := ok.kind
  refine wpAny_execs_cons ?_
  refine wpAny_Expr_any (c_str ?_) (interactive_no ok) (by rfl)
  refine wpAny_execs_cons ?_
  refine wpAny_Assign_Name ?_
  refine wpAny_List_spliced (arg0 ⟨by decide, ?_⟩)
  have S₁ := S.alloc { cls := .type "list", data := .seq ([] : List Value).toArray } (c := txts []) ⟨[], 0, rfl, rfl⟩
  refine stn S₁ hk l2 fun h₂ k₂ S₂ => ?_
  refine wpAny_execs_cons ?_
  refine wpAny_Assign_Name (c_str ?_)
  refine stn S₂ hk l3 fun h₃ k₃ S₃ => ?_
  refine wpAny_execs_cons ?_
  refine wpAny_Assign_two (wpAny_Constant_bool ?_)
  refine wpAny_assign_Name (stn S₃ hk l4 fun h₄ k₄ S₄ => ?_)
  refine wpAny_assign_Name (stn S₄ hk l5 fun h₅ k₅ S₅ => ?_)
  refine wpAny_execs_cons ?_
  generalize hR : h.objs.size = R at S₅
  refine forStr (s₀ := s₀) hh ?_
  refine nm S₅ hk l1 hv ?_
  refine ⟨x, t, B, _, [(R, txts [])], U, h₅, k₅, fun i => HInv R x t B (runH (x.cps.toList.take i)), rfl, rfl, S₅, ⟨_, by subst hR; rfl, rfl, rfl, rfl, hv, rfl, rfl⟩, ?_, ?_⟩
  · intro E' i c u B' m' U' V' h₆ k₆ hc hinv hB S₆ hk₆
    obtain ⟨tp, e1, e2, e3, e4, e5, rfl, rfl⟩ := hinv
    have hlt : i < x.cps.size := (Array.getElem?_eq_some_iff.mp hc).1
    have hc' : x.cps.toList[i]? = some c := by simpa using hc
    have hsn : runH (x.cps.toList.take (i + 1)) = stepH (runH (x.cps.toList.take i)) c := by
      rw [← runH_snoc]; congr 1
      rw [List.take_add_one, hc']; rfl
    rw [hsn]
    obtain ⟨b1, b2, b3⟩ := runH_len (x.cps.toList.take i)
    have hti : (x.cps.toList.take i).length ≤ x.length := by simp [Str.length]; omega
    generalize runH (x.cps.toList.take i) = st at *
    obtain ⟨res, part, esc, q⟩ := st
    simp only at e1 e2 e3 e4 b1 b2 b3 S₆
    have hpx : part.length + 1 ≤ sizeLine := by rw [sizeLine_eq] at hsz ⊢; simp only [Str.length, Array.length_toList] at hti b1 hsz hlt ⊢; omega
    have hrx : res.length ≤ sizeLine := by rw [sizeLine_eq] at hsz ⊢; simp only [Str.length, Array.length_toList] at hti b2 hsz hlt ⊢; omega
    refine wpAny_assign_Name (stn S₆ hk l6 fun h₇ k₇ S₇ => ?_)
    refine wpAny_execs_cons (wpAny_If ?_)
    refine wpAny_isTrue_value (nm S₇ hk l4 e3 (truthy_b ?_))
    cases esc with
    | true =>
      refine wpAny_execs_cons (augS S₇ hk l3 e2 (nm S₇ hk l6 rfl ⟨one c, u, _, _, rfl, rfl, S₇, hpx, fun h₈ k₈ t₈ S₈ => ?_⟩))
      refine wpAny_execs_cons (wpAny_Assign_Name (wpAny_Constant_bool (stn S₈ hk l4 fun h₉ k₉ S₉ => ?_)))
      refine wpAny_execs_cons (wpAny_Continue ?_)
      exact ⟨_, _, _, _, _, rfl, Kp.refl _, S₉, t₈, e1, rfl, rfl, e4, e5, rfl, rfl⟩
    | false =>
      refine wpAny_execs_nil ?_
      refine wpAny_execs_cons (wpAny_If ?_)
      refine wpAny_isTrue_value (nm S₇ hk l5 e4 (truthy_b ?_))
      cases q with
      | true =>
        refine wpAny_execs_cons (wpAny_If ?_)
        refine isSign (d := 92) S₇ hk l6 rfl rfl ?_
        by_cases h92 : c = 92
        · subst h92
          refine wpAny_execs_cons (wpAny_Assign_Name (wpAny_Constant_bool (stn S₇ hk l4 fun h₈ k₈ S₈ => ?_)))
          refine wpAny_execs_cons (wpAny_Continue ?_)
          exact ⟨_, _, _, _, _, rfl, Kp.refl _, S₈, tp, e1, e2, rfl, e4, e5, rfl, rfl⟩
        · rw [decide_eq_false h92]
          refine wpAny_execs_cons (wpAny_If ?_)
          refine isSign (d := 34) S₇ hk l6 rfl rfl ?_
          by_cases h34 : c = 34
          · subst h34
            refine wpAny_execs_cons (wpAny_Assign_Name (wpAny_Constant_bool (stn S₇ hk l5 fun h₈ k₈ S₈ => ?_)))
            refine wpAny_execs_nil (wpAny_execs_nil ?_)
            refine wpAny_execs_cons (augS S₈ hk l3 e2 (nm S₈ hk l6 rfl ⟨one _, u, _, _, rfl, rfl, S₈, hpx, fun h₉ k₉ t₉ S₉ => ?_⟩))
            refine wpAny_execs_cons (wpAny_Continue ?_)
            exact ⟨_, _, _, _, _, rfl, Kp.refl _, S₉, t₉, e1, rfl, e3, rfl, e5, rfl, rfl⟩
          · rw [decide_eq_false h34]
            refine wpAny_execs_nil (wpAny_execs_nil ?_)
            refine wpAny_execs_cons (augS S₇ hk l3 e2 (nm S₇ hk l6 rfl ⟨one c, u, _, _, rfl, rfl, S₇, hpx, fun h₉ k₉ t₉ S₉ => ?_⟩))
            refine wpAny_execs_cons (wpAny_Continue ?_)
            have est : stepH (res, part, false, true) c = (res, part ++ one c, false, true) := by simp [stepH, h92, h34]
            rw [est]
            exact ⟨_, _, _, _, _, rfl, Kp.refl _, S₉, t₉, e1, rfl, e3, e4, e5, rfl, rfl⟩
      | false =>
        refine wpAny_execs_nil ?_
        refine wpAny_execs_cons (wpAny_If ?_)
        refine isSign (d := 44) S₇ hk l6 rfl rfl ?_
        by_cases h44 : c = 44
        · subst h44
          refine wpAny_execs_cons ?_
          refine wpAny_Expr_any ?_ (interactive_no ok) (by rfl)
          refine lmeth slot_list_append type_list_append (nm S₇ hk l2 e1 ?_)
          obtain ⟨vs, hpl⟩ := txts_plain S₇
          refine ⟨⟨R, _, rfl, hpl⟩, arg1 (nm S₇ hk l3 e2 ?_)⟩
          refine appendS S₇ hrx fun h₈ k₈ S₈ => ?_
          refine wpAny_execs_cons (wpAny_Assign_Name (c_str (stn S₈ hk l3 fun h₉ k₉ S₉ => ?_)))
          refine wpAny_execs_cons (wpAny_Continue ?_)
          exact ⟨_, _, [(R, _)], _, _, rfl, Kp.refl _, S₉, _, e1, rfl, e3, e4, e5, rfl, rfl⟩
        · rw [decide_eq_false h44]
          refine wpAny_execs_nil ?_
          refine wpAny_execs_cons (wpAny_If ?_)
          refine isSign (d := 34) S₇ hk l6 rfl rfl ?_
          by_cases h34 : c = 34
          · subst h34
            refine wpAny_execs_cons (wpAny_Assign_Name (wpAny_Constant_bool (stn S₇ hk l5 fun h₈ k₈ S₈ => ?_)))
            refine wpAny_execs_nil ?_
            refine wpAny_execs_cons (augS S₈ hk l3 e2 (nm S₈ hk l6 rfl ⟨one _, u, _, _, rfl, rfl, S₈, hpx, fun h₉ k₉ t₉ S₉ => ?_⟩))
            refine wpAny_execs_nil ?_
            exact ⟨_, _, _, _, _, rfl, Kp.refl _, S₉, t₉, e1, rfl, e3, rfl, e5, rfl, rfl⟩
          · rw [decide_eq_false h34]
            refine wpAny_execs_nil ?_
            refine wpAny_execs_cons (augS S₇ hk l3 e2 (nm S₇ hk l6 rfl ⟨one c, u, _, _, rfl, rfl, S₇, hpx, fun h₉ k₉ t₉ S₉ => ?_⟩))
            refine wpAny_execs_nil ?_
            have est : stepH (res, part, false, false) c = (res, part ++ one c, false, false) := by simp [stepH, h44, h34]
            rw [est]
            exact ⟨_, _, _, _, _, rfl, Kp.refl _, S₉, t₉, e1, rfl, e3, e4, e5, rfl, rfl⟩
  · intro B' m' U' h₆ k₆ hinv hB S₆ hk₆
    obtain ⟨tp, e1, e2, e3, e4, e5, rfl, rfl⟩ := hinv
    have htk : x.cps.toList.take x.cps.size = x.cps.toList := List.take_of_length_le (by simp)
    rw [htk] at e2 e3 e4 S₆
    have hf : httpOf x = (if (runH x.cps.toList).2.1.length = 0 then (runH x.cps.toList).1 else (runH x.cps.toList).1 ++ [(runH x.cps.toList).2.1]).map Txt.strip := rfl
    rw [hf] at hQ
    obtain ⟨b1, b2, b3⟩ := runH_len x.cps.toList
    have hti : x.cps.toList.length = x.length := by simp [Str.length]
    rw [hti] at b1 b2 b3
    generalize runH x.cps.toList = st at *
    obtain ⟨res, part, esc, q⟩ := st
    simp only at e2 b1 b2 b3 S₆ hQ
    have hs1 : x.length ≤ sizeLine := by omega
    have fin : ∀ ps h₇ k₇ m₇, (∀ p ∈ ps, p.length ≤ x.length) → ps.length ≤ sizeLine → m₇ "res" = some (.ref R) → St B' env.locals m₇ ((R, txts ps) :: U) h₇ →
        (∀ h' k' a m', St B' env.locals m' ((a, txts (ps.map Txt.strip)) :: U) h' → Q (.ret (.ref a)) (Sh s₀ h' k')) →
        ∀ E', wpAny (model PW w) A (execs ((dBody (stmtAt 9)).drop 6) env) Q E' (Sh s₀ h₇ k₇) := by
      intro ps h₇ k₇ m₇ hp hpl e7 S₇ hQ' E'
      refine wpAny_execs_cons (wpAny_Return_some ?_)
      obtain ⟨B₈, o, kB, eo, co, S₈⟩ := S₇.give0
      refine compTxt (s₀ := s₀) Txt.strip hh (closureFor_none (by decide)) (by decide) rfl (by decide) (by rfl) ?_
      refine nm S₈ hk l2 e7 ⟨R, ps, o, B₈, m₇, U, h₇, k₇, rfl, rfl, S₈, eo, co, hpl, ?_, fun a' h' k' S' _ => hQ' h' k' a' _ (S'.weaken kB)⟩
      intro E' y t B₉ m₉ V h₉ k₉ C cenv hc hl hy _ S₉ e9 _
      refine smeth F.slot_str_strip F.type_str_strip (nm S₉ (by rw [hc]; rfl) hl e9 ⟨⟨_, _, rfl⟩, arg0 ?_⟩)
      exact SC.strip (s := Sh s₀ h₉ k₉) (fun t' k' => ⟨t', h₉, k', rfl, rfl, Kp.refl _⟩) (Nat.le_trans (hp y hy) hs1)
    refine wpAny_execs_cons (wpAny_If ?_)
    refine wpAny_isTrue_value (nm S₆ hk l3 e2 (truthy_s (Nat.le_trans b1 hs1) ?_))
    by_cases hz : part.length = 0
    · rw [decide_eq_false (by simpa using hz)]
      rw [if_pos hz] at hQ
      refine wpAny_execs_nil ?_
      exact fin res _ _ _ b3 (Nat.le_trans b2 hs1) e1 S₆ hQ _
    · rw [decide_eq_true (by simpa using hz)]
      rw [if_neg hz] at hQ
      refine wpAny_execs_cons ?_
      refine wpAny_Expr_any ?_ (interactive_no ok) (by rfl)
      refine lmeth slot_list_append type_list_append (nm S₆ hk l2 e1 ?_)
      obtain ⟨vs, hpl⟩ := txts_plain S₆
      refine ⟨⟨R, _, rfl, hpl⟩, arg1 (nm S₆ hk l3 e2 ?_)⟩
      refine appendS S₆ (Nat.le_trans b2 hs1) fun h₈ k₈ S₈ => ?_
      refine wpAny_execs_nil ?_
      refine fin (res ++ [part]) _ _ _ (fun p hp => ?_) (by simp; omega) e1 S₈ hQ _
      rcases List.mem_append.mp hp with q | q
      · exact b3 p q
      · simp at q; subst q; exact b1
end
noncomputable def bs : Str := Str.ofString "\\"
noncomputable def lawPlain (x : Str) : Str := Str.join bs ((Txt.split x (Str.ofString "\\\\")).map fun b => Txt.replace b bs (Str.ofString ""))
theorem split_len {x y : Str} : (Txt.split x y).length ≤ x.length + 2 ∧ ∀ p ∈ Txt.split x y, p.length ≤ x.length := by
  unfold Txt.split
  split
  · exact ⟨by simp, fun p hp => by simp at hp; subst hp; exact Nat.le_refl _⟩
  · split
    · exact ⟨by simp, fun p hp => by simp at hp; subst hp; exact Nat.le_refl _⟩
    · refine ⟨parts_le x y, fun p hp => ?_⟩
      simp only [Builtin.Str.partsBetween, List.mem_map] at hp
      obtain ⟨⟨i, j⟩, _, rfl⟩ := hp
      exact strSub_length_le ..
theorem replace_empty_len (x : Str) (c : Nat) : (Txt.replace x ⟨#[c]⟩ (Str.ofString "")).length ≤ x.length := by
  rw [StrLaws.replace_one]
  have h1 := StrLaws.join_length_le (Str.ofString "") (Txt.split x ⟨#[c]⟩)
  have h2 : (Str.ofString "").length = 0 := rfl
  rw [h2, Nat.mul_zero, Nat.add_zero] at h1
  have h3 := StrLaws.join_split x ⟨#[c]⟩
  have h4 : ∀ (sep : Str) (l : List Str), (l.map (·.length)).sum ≤ (Str.join sep l).length := by
    intro sep l
    induction l with
    | nil => exact Nat.zero_le _
    | cons a r ih =>
      cases r with
      | nil => simp [Str.join]
      | cons b r' =>
        show ([a, b].map _ ++ _).sum ≤ _
        have : Str.join sep (a :: b :: r') = a ++ sep ++ Str.join sep (b :: r') := rfl
        rw [this, Str.length_append, Str.length_append]
        simp only [List.map_cons, List.sum_cons, List.map_nil, List.nil_append, List.cons_append] at ih ⊢
        omega
  have h5 := h4 ⟨#[c]⟩ (Txt.split x ⟨#[c]⟩)
  rw [h3] at h5
  omega
section
variable {w : World} {A : Around} {E : Value → Shared → Prop} {s₀ : Shared} {B : Heap} {m : Str → Option Value} {U : List (Addr × Cell)} {h : Heap} {k : Nat} {env : Env}
theorem plain_body {Q : Flow → Shared → Prop} {x : Str} {t : Tok} (S : St B env.locals m U h) (hh : A.handled = none) (ok : EOk env) (hv : m "inside" = some (.str x t)) (l1 : env.kindOf "inside" = some .local) (hk0 : 0 < k)
   (hsz : x.length ≤ 1000) (hQ : ∀ h' t' k', St B env.locals m U h' → Q (.ret (.str (lawPlain x) t')) (Sh s₀ h' k')) :
   wpAny (model PW w) A (execs (dBody (stmtAt 12)) env) Q E (Sh s₀ h k) := by
  have hk := ok.kind
  have hs : sizeLine = 16777216 := sizeLine_eq
  refine wpAny_execs_cons ?_
  refine wpAny_Return_some ?_
  refine smeth (id := "str.join") ?s1 ?s2 ?s3
  case s1 => exact F.slot_str_join
  case s2 => exact F.type_str_join
  refine c_str ?_
  refine ⟨⟨_, _, rfl⟩, ?_⟩
  refine arg1 ?_
  refine compTxt (s₀ := s₀) (fun b => Txt.replace b bs (Str.ofString "")) hh (closureFor_none (by decide)) (by decide) rfl (by decide) (by rfl) ?_
  refine smeth F.slot_str_split F.type_str_split ?_
  refine nm S hk l1 hv ?_
  refine ⟨⟨_, _, rfl⟩, ?_⟩
  refine arg1 ?_
  refine c_str ?_
  refine split_s (by rfl) (by omega) fun o k₂ ho hfr hk₂ => ?_
  have S₁ := S.alloc o (c := its o) rfl hfr
  obtain ⟨B₂, o', kB, eo, co, S₂⟩ := S₁.give0
  cases co
  obtain ⟨hl1, hl2⟩ := split_len (x := x) (y := Str.ofString "\\\\")
  refine ⟨_, _, o, B₂, m, U, _, k₂, rfl, rfl, S₂, eo, ho, by omega, ?_, ?_⟩
  · intro E' y t' B' m' V h₃ k₃ C cenv hc hl hy _ S₃ e3 hk₃
    refine smeth F.slot_str_replace F.type_str_replace (nm S₃ (by rw [hc]; rfl) hl e3 ⟨⟨_, _, rfl⟩, arg2 (c_str (c_str ?_))⟩)
    have hyl := hl2 y hy
    refine rep_s (show @Ne Nat k₃ 0 from by omega) (show @Ne Nat (k₃ + 1) 0 from by omega) (show @Ne Nat k₃ (k₃ + 1) from by omega) (by rfl) ?_ fun t₄ k₄ => ⟨t₄, _, k₄, rfl, rfl, Kp.refl _⟩
    show y.length + (y.length + 1) * 0 ≤ _
    omega
  · intro a' h₃ k₃ S₃ _
    obtain ⟨⟨o₃, e₃, c₃⟩, _⟩ := S₃.own _ (.head _)
    refine join_s e₃ c₃ ?_ fun t₄ k₄ => hQ _ t₄ k₄ ((S₃.drop).weaken kB)
    have hB : ∀ y ∈ (Txt.split x (Str.ofString "\\\\")).map (fun b => Txt.replace b bs (Str.ofString "")), y.length ≤ 1000 := by
      intro y hy
      obtain ⟨b, hb, rfl⟩ := List.mem_map.mp hy
      exact Nat.le_trans (replace_empty_len b 92) (Nat.le_trans (hl2 b hb) hsz)
    have h1 := StrLaws.sumLen_le _ hB
    rw [List.length_map] at h1 ⊢
    have : (Str.ofString "\\").length = 1 := rfl
    rw [this]
    omega
theorem plain_call {Q : Value → Shared → Prop} {x : Str} {t : Tok} (T : Top0 h) (hA : AOk 3 A) (hsz : x.length ≤ 1000)
    (hQ : ∀ h' k' t', Kp h h' → Q (.str (lawPlain x) t') (Sh s₀ h' k')) :
    wpAny (model PW w) A (call (.ref 228) [.str x t] []) Q E (Sh s₀ h k) := by
  obtain ⟨hf, hcd⟩ := T.fns (228, 12, 227) (by decide)
  refine callfd (fd := lawFd 12 227) (body := dBody (stmtAt 12)) (binds := [("inside", .str x t)]) hf hcd T.nolimit (by have := hA.depth; omega) rfl rfl rfl (by with_unfolding_all rfl) (show ∀ x ∈ (dScope (stmtAt 12)).names, x.2 ≠ .cell from by decide) (PyProof.Rows.locs (by rfl)) rfl rfl rfl
    fun env h₁ he ok S => ?_
  exact plain_body S hA.handled ok rfl (by subst he; rfl) (by show 0 < k + 1; omega) hsz fun h' t' k' S' => hQ h' k' t' S'.keep
end
noncomputable def cellC (v : Option Value) : Cell := fun o => o.data = .cell v
section
variable {w : World} {A : Around} {E : Value → Shared → Prop} {s₀ : Shared} {B : Heap} {L : Addr} {m : Str → Option Value} {U U₁ U₂ : List (Addr × Cell)} {h : Heap} {k : Nat} {env : Env}
theorem St.cell {v : Option Value} {c : Addr} (S : St B L m U h) (hm : (c, cellC v) ∈ U) : h.IsCell c v := S.get hm
theorem nmC {x : Str} {pos : Pos} {v : Value} {c : Addr} {Q : Value → Shared → Prop} (hv : h.IsCell c (some v)) (hk : env.scope.kind = .function) (hl : env.kindOf x = some .cell) (hc : env.cells.lookup x = some c)
    (hQ : Q v (Sh s₀ h k)) (hd : (x == ("__debug__" : Str)) = false := by decide) : wpAny (model PW w) A (eval (.Name x pos) env) Q E (Sh s₀ h k) :=
  wpAny_Name (wpAny_loadName_cell (s := Sh s₀ h k) hk hl hc hv hQ) hd
theorem nmF {x : Str} {pos : Pos} {v : Value} {c : Addr} {Q : Value → Shared → Prop} (hv : h.IsCell c (some v)) (hk : env.scope.kind = .function) (hl : env.kindOf x = some .free) (hc : env.cells.lookup x = some c)
    (hQ : Q v (Sh s₀ h k)) (hd : (x == ("__debug__" : Str)) = false := by decide) (hn : (x == ("__classdict__" : Str)) = false := by decide) : wpAny (model PW w) A (eval (.Name x pos) env) Q E (Sh s₀ h k) :=
  wpAny_Name (wpAny_loadName_free (s := Sh s₀ h k) hk hl hc hv hQ hn) hd
theorem stC {x : Str} {v : Value} {v₀ : Option Value} {c : Addr} {Q : Unit → Shared → Prop} (S : St B L m (U₁ ++ (c, cellC v₀) :: U₂) h) (hk : env.scope.kind = .function) (hl : env.kindOf x = some .cell) (hc : env.cells.lookup x = some c)
    (hQ : ∀ h', St B L m (U₁ ++ (c, cellC (some v)) :: U₂) h' → Q () (Sh s₀ h' k)) : wpAny (model PW w) A (storeName env x v) Q E (Sh s₀ h k) :=
  wpAny_storeName_cell (s := Sh s₀ h k) hk hl hc (S.cell (v := v₀) (by simp)) fun h' hv hs => by
    obtain ⟨o, e, hd⟩ := hv
    exact hQ h' (S.upd hs.extBut e hd)
theorem callC {a : Addr} {fd : FuncData} {body : List Stmt} {args : List Value} {binds : List (Str × Value)} {Q : Value → Shared → Prop} (hf : h.get? a = some (fnObj fd)) (hcd : h.CodeRec fd.code fd.qualname)
    (hn : h.NoLimit) (hroom : A.depth < 1000) (hbody : fd.body = .stmts body) (hgl : fd.globals = mainGlobals) (hbl : fd.builtins = builtinsNs)
    (hbind : bindArgs fd ⟨args, []⟩ = pure binds) (hclo : fd.closure = [])
    (hloc : ∀ x ∈ binds, fd.scope.names.lookup x.1 = some .local)
    (hnd : ((cellsFrom 0 fd.scope.names []).map (·.1)).Nodup)
    (hco : fd.scope.isCoroutine = false) (hgen : fd.scope.isGenerator = false) (hk : fd.scope.kind = .function)
    (hb : ∀ env h₁ k₁, env = callEnvC fd h.objs.size a → EOk env → env.cells = cellsFrom (h.objs.size + 1) fd.scope.names [] →
      St h env.locals (fun x => binds.reverse.lookup x) ((cellsFrom (h.objs.size + 1) fd.scope.names []).map fun p => (p.2, cellC none)) h₁ →
      wpAny (model PW w) (A.deeper env) (execs body env) (retQ Q) (outE w A env E) (Sh s₀ h₁ k₁)) :
    wpAny (model PW w) A (call (.ref a) args []) Q E (Sh s₀ h k) := by
  refine wpAny_call (codeAny_call_cells (fd := fd) (body := body) (binds := binds) (s := Sh s₀ h k) hroom hf rfl hn hcd hbody hbind hclo (fun x hx => .inl (hloc x hx)) (fun s₁ x => ?_) hco hgen hk)
  have hcm : ∀ (bs : List (Str × Value)) (m : Str → Option Value), (∀ x ∈ bs, (callEnvC fd h.objs.size a).kindOf x.1 = some .local) → bindC (callEnvC fd h.objs.size a).kindOf bs m = m := by
    intro bs
    induction bs with
    | nil => intro m _; rfl
    | cons b r ih =>
      intro m hb
      obtain ⟨n, v⟩ := b
      unfold bindC
      rw [if_pos (hb (n, v) (.head _))]
      exact ih m fun x hx => hb x (.tail _ hx)
  have e0 := hcm binds (fun _ => none) hloc
  have hbl2 : ∀ (bs : List (Str × Value)) (m : Str → Option Value) (x : Str), (∀ x ∈ bs, (callEnvC fd h.objs.size a).kindOf x.1 = some .local) → bindL (callEnvC fd h.objs.size a).kindOf bs m x = (bs.reverse.lookup x).or (m x) := by
    intro bs
    induction bs with
    | nil => intro m x _; rfl
    | cons b r ih =>
      intro m x hb
      obtain ⟨n, v⟩ := b
      unfold bindL
      rw [if_pos (hb (n, v) (.head _)), ih _ x fun x hx => hb x (.tail _ hx), List.reverse_cons, List.lookup_append]
      cases r.reverse.lookup x with
      | some _ => rfl
      | none =>
        simp -iota only [Option.none_or, List.lookup_cons, List.lookup_nil]
        by_cases e : x = n
        · subst e; simp
        · rw [if_neg e, beq_eq_false_iff_ne.mpr e]; rfl
  have e1 : bindL (callEnvC fd h.objs.size a).kindOf binds (fun _ => none) = fun x => binds.reverse.lookup x := funext fun x => by rw [hbl2 binds _ x hloc]; simp
  obtain ⟨⟨⟨h₁, k₁, rfl⟩, hns, hkeep, hfr⟩, hcell, hap, hab⟩ := x
  rw [e0] at hcell
  rw [e1] at hns
  refine hb (callEnvC fd h.objs.size a) h₁ k₁ rfl ⟨hk, hgl, hbl⟩ rfl ⟨hns, hkeep, get_none_of_ge (Nat.le_refl _), fun p hp => ?_, ?_⟩
  · obtain ⟨q, hq, rfl⟩ := List.mem_map.mp hp
    have hnd' : ((cellsFrom (h.objs.size + 1) fd.scope.names []).map (·.1)).Nodup := PyProof.Rows.cellsFrom_names fd.scope.names 0 (h.objs.size + 1) [] [] rfl ▸ hnd
    obtain ⟨o, e, hd⟩ := hcell q.1 q.2 (PyProof.Rows.lookup_of_mem_nodup hnd' hq)
    have hlt := hab q.1 q.2 hq
    exact ⟨⟨o, e, hd⟩, Nat.ne_of_gt hlt, get_none_of_ge (Nat.le_of_lt hlt)⟩
  · have e1 : (((cellsFrom (h.objs.size + 1) fd.scope.names []).map fun p => (p.2, cellC none)).map (·.1)) = (cellsFrom (h.objs.size + 1) fd.scope.names []).map (·.2) := by simp
    rw [e1]
    exact List.pairwise_map.mpr hap
inductive IxPre (Q : Value → Shared → Prop) (s₂ : Shared) (o i : Value) : Prop
  | mk (a : Addr) (items : Array Value) (j : Int) (u : Tok) (n : Nat) (x : Value) (e1 : o = .ref a) (e2 : i = .int j u) (hl : s₂.heap.IsList a items) (hsz : items.size < 1000000) (hn : seqIndex? j items.size = some n) (hx : items[n]? = some x) (hQ : Q x s₂)
theorem ixL {value slice : Expr} {pos : Pos} {Q : Value → Shared → Prop} {s : Shared}
    (hv : wpAny (model PW w) A (eval value env) (fun o s₁ => wpAny (model PW w) A (eval slice env) (fun i s₂ => IxPre Q s₂ o i) E s₁) E s)
    (hs : ∀ a j u, subscripted slice false (.ref a) (.int j u) = operate [.ref a, .int j u] (getItem (.ref a) (.int j u)) := by intros; with_unfolding_all rfl)
    (hg : ∀ a r, letTemporaryGo value (.ref a) r = pure () := by intros; with_unfolding_all rfl) :
    wpAny (model PW w) A (eval (.Subscript value slice pos) env) Q E s := by
  refine PyProof.Rows.Subscript_ (wpAny_mono hv (fun o s₁ q => wpAny_mono q (fun i s₂ q => ?_) fun _ _ e => e) fun _ _ e => e)
  obtain ⟨a, items, j, u, n, x, rfl, rfl, hl, hsz, hn, hx, hQ⟩ := q
  refine PyProof.Rows.subscriptTail_builtin hl.typeIs slot_list_getitem.lookup ?_ (hs a j u) (hg a)
  have p63 : (2 : Int) ^ 63 = 9223372036854775808 := by decide
  by_cases h0 : j < 0
  · have h1 : -(items.size : Int) ≤ j ∧ n = (j + items.size).toNat := by
      unfold seqIndex? at hn
      simp only [h0, if_true, Bool.and_eq_true, decide_eq_true_eq, Option.ite_none_right_eq_some, Option.some.injEq] at hn
      exact ⟨by omega, hn.2.symm⟩
    obtain ⟨h1, rfl⟩ := h1
    exact wpAny_getItem_list_neg hl h0 h1 (by omega) hx hQ
  · have h1 : n = j.toNat ∧ j < items.size := by
      unfold seqIndex? at hn
      simp only [h0, if_false, Bool.and_eq_true, decide_eq_true_eq, Option.ite_none_right_eq_some, Option.some.injEq] at hn
      exact ⟨hn.2.symm, by omega⟩
    obtain ⟨rfl, h2⟩ := h1
    exact wpAny_getItem_list hl (by omega) (by omega) hx hQ
end
noncomputable def closOf (cells : List (Str × Addr)) : List (Str × NameKind) → List (Str × Addr) → List (Str × Addr)
  | [], acc => acc
  | (n, k) :: r, acc => closOf cells r (if k == .free then (n, (cells.lookup n).getD 0) :: acc else acc)
theorem closureFor_some {scope : Scope} {env : Env} (hfree : ∀ x ∈ scope.names, x.2 = .free → (env.cells.lookup x.1).isSome = true) : closureFor scope env = pure (closOf env.cells scope.names []) := by
  simp -iota only [closureFor]
  have key : ∀ (names : List (Str × NameKind)) (acc : List (Str × Addr)), (∀ x ∈ names, x.2 = .free → (env.cells.lookup x.1).isSome = true) →
      (forIn names acc fun (x : Str × NameKind) (r : List (Str × Addr)) => (do
        if (x.2 == NameKind.free) = true then do let a ← cellOf env x.1; pure (ForInStep.yield ((x.1, a) :: r)) else pure (ForInStep.yield r) : Sem _)) = pure (closOf env.cells names acc) := by
    intro names
    induction names with
    | nil => intro acc _; rfl
    | cons y r ih =>
      intro acc hy
      obtain ⟨n, kk⟩ := y
      have ihr := fun acc => ih acc fun x hx => hy x (.tail _ hx)
      rw [List.forIn_cons]
      unfold closOf
      cases hkk : (kk == NameKind.free) with
      | true =>
        have e : kk = .free := by simpa using hkk
        obtain ⟨c, hc⟩ := Option.isSome_iff_exists.mp (hy (n, kk) (.head _) e)
        dsimp only at hc ⊢
        simp -iota only [hkk, if_true, cellOf, hc, pure_bind, Option.getD_some]
        exact ihr _
      | false =>
        dsimp only
        simp -iota only [hkk, Bool.false_eq_true, if_false, pure_bind]
        exact ihr _
  have := key scope.names [] hfree
  simpa using this
noncomputable def intVals (l : List (Int × Tok)) : List Value := l.map fun p => .int p.1 p.2
noncomputable def intsC (xs : List Int) : Cell := fun o => ∃ l n, l.map (·.1) = xs ∧ o = { cls := .type "list", data := .seq (intVals l).toArray n }
theorem intVal_get {l : List (Int × Tok)} {i : Nat} {v : Value} (e : (intVals l)[i]? = some v) : ∃ x t, v = .int x t ∧ (l.map (·.1))[i]? = some x := by
  simp -iota only [intVals, List.getElem?_map, Option.map_eq_some_iff] at e ⊢
  obtain ⟨p, hp, rfl⟩ := e
  exact ⟨p.1, p.2, rfl, p, hp, rfl⟩
theorem txts_isList {h : Heap} {a : Addr} {xs : List Str} {o : Obj} (e : h.get? a = some o) (hx : txts xs o) : ∃ l, l.map (·.1) = xs ∧ h.IsList a (strValues l).toArray := by
  obtain ⟨l, n, hl, rfl⟩ := hx
  exact ⟨l, hl, _, e, rfl, n, rfl⟩
section
variable {w : World} {A : Around} {E : Value → Shared → Prop} {s₀ : Shared} {h : Heap} {k : Nat} {env : Env}
noncomputable def strConst (c : Str × Nat × Pos) : Expr := .Constant (.str c.1) c.2.1 c.2.2
theorem splicedStrs {pos : Pos} : ∀ (cs : List (Str × Nat × Pos)) (k : Nat) (Q : List Value → Shared → Prop), Q (strsFrom k (cs.map (·.1))) (Sh s₀ h (k + cs.length)) →
    wpAny (model PW w) A (spliced (backTo pos (starEach (cs.map strConst) env))) Q E (Sh s₀ h k)
  | [], k, Q, hQ => spliced_nil hQ
  | c :: r, k, Q, hQ => by
    show wpAny _ _ (spliced ((false, eval (strConst c) env) :: backTo pos (starEach (r.map strConst) env))) _ _ _
    refine spliced_cons (c_str (splicedStrs r (k + 1) _ ?_))
    have : k + 1 + r.length = k + (c :: r).length := by simp; omega
    rw [this]; exact hQ
theorem listStrs {elts : List Expr} {pos : Pos} {Q : Value → Shared → Prop} (cs : List (Str × Nat × Pos)) (he : elts = cs.map strConst) (hn : cs.length ≤ sizeLine)
    (hQ : ∀ o, txts (cs.map (·.1)) o → o.isFreed = false → Q (.ref h.objs.size) (Sh s₀ (h.push o) (k + cs.length))) :
    wpAny (model PW w) A (eval (.List elts pos) env) Q E (Sh s₀ h k) := by
  subst he
  refine wpAny_List_spliced (splicedStrs cs k _ ⟨?_, ?_⟩)
  · obtain ⟨l, e1, e2⟩ := numbered_vals k (cs.map (·.1))
    rw [e2]
    have : l.length = cs.length := by have := congrArg List.length e1; simpa using this
    simp -iota only [strValues, List.length_map]; omega
  · obtain ⟨l, e1, e2⟩ := numbered_vals k (cs.map (·.1))
    rw [e2]
    exact hQ (listO (strValues l)) ⟨l, 0, e1, rfl⟩ rfl
end
noncomputable def pieces : List Str := ["k", ",", "=", "\"", "\\", " ", ", k=", ", m =", "=\"", "\\\"", "\",", "\n\u00a0", "m", "\t= ", "K", ",k = \""].map Str.ofString
noncomputable def piecesC : List (Str × Nat × Pos) := [("k", 0, ⟨138, 14, 138, 17⟩), (",", 0, ⟨138, 19, 138, 22⟩), ("=", 0, ⟨138, 24, 138, 27⟩), ("\"", 0, ⟨138, 29, 138, 32⟩), ("\\", 0, ⟨138, 34, 138, 38⟩), (" ", 0, ⟨138, 40, 138, 43⟩), (", k=", 0, ⟨138, 45, 138, 51⟩), (", m =", 0, ⟨138, 53, 138, 60⟩), ("=\"", 0, ⟨138, 62, 138, 66⟩), ("\\\"", 0, ⟨138, 68, 138, 73⟩), ("\",", 0, ⟨138, 75, 138, 79⟩), ("\n\u00a0", 0, ⟨138, 81, 138, 89⟩), ("m", 0, ⟨138, 91, 138, 94⟩), ("\t= ", 0, ⟨138, 96, 138, 102⟩), ("K", 0, ⟨138, 104, 138, 107⟩), (",k = \"", 0, ⟨138, 109, 138, 117⟩)]
noncomputable def pieceOf (n : Int) : Str := (pieces[(n.fmod 16).toNat]?).getD (Str.ofString "")
noncomputable def lawHeader (ns : List Int) : Str := Str.ofString "k=a, m=c" ++ Str.join (Str.ofString "") (ns.map pieceOf)
theorem fmod_lt (n : Int) : 0 ≤ n.fmod 16 ∧ n.fmod 16 < 16 := ⟨Int.fmod_nonneg_of_pos n (by decide), Int.fmod_lt_of_pos n (by decide)⟩
theorem pieceOf_get (n : Int) : pieces[(n.fmod 16).toNat]? = some (pieceOf n) := by
  unfold pieceOf
  have h : (n.fmod 16).toNat < pieces.length := by have := fmod_lt n; have e : pieces.length = 16 := rfl; omega
  rw [List.getElem?_eq_getElem h]; rfl
theorem pieceOf_len (n : Int) : (pieceOf n).length ≤ 6 := by
  have h := pieceOf_get n
  have hm : pieceOf n ∈ pieces := by obtain ⟨hlt, e⟩ := List.getElem?_eq_some_iff.mp h; rw [← e]; exact List.getElem_mem hlt
  have all : ∀ p ∈ pieces, p.length ≤ 6 := by decide
  exact all _ hm
section
variable {w : World} {A : Around} {E : Value → Shared → Prop} {s₀ : Shared} {B : Heap} {m : Str → Option Value} {U : List (Addr × Cell)} {h : Heap} {k : Nat} {env : Env}
theorem header_body {Q : Flow → Shared → Prop} {a c : Addr} {o : Obj} {ns : List Int} (S : St B env.locals m [(c, cellC none)] h) (hA : AOk 2 A) (ok : EOk env) (hv : m "numbers" = some (.ref a)) (ha : B.get? a = some o) (ho : intsC ns o) (hn : ns.length ≤ 100)
   (l1 : env.kindOf "numbers" = some .local) (l2 : env.kindOf "pieces" = some .cell) (hc : env.cells = [(("pieces" : Str), c)])
   (hQ : ∀ h' t' k', Kp B h' → Q (.ret (.str (lawHeader ns) t')) (Sh s₀ h' k')) :
   Runs w A (execs (dBody (stmtAt 11)) env) Q E (Sh s₀ h k) := by
  refine ⟨?_⟩
  have hk := ok.kind
  have hs : sizeLine = 16777216 := sizeLine_eq
  have hlk : env.cells.lookup ("pieces" : Str) = some c := by rw [hc]; rfl
  refine wpAny_execs_cons ?_
  refine wpAny_Assign_Name ?_
  refine listStrs ?cs ?h1 ?h2 ?h3
  case cs => exact piecesC
  case h1 => rfl
  case h2 => show 16 ≤ sizeLine; decide
  intro oP hP hfr
  have hP' : txts pieces oP := hP
  have S₁ := S.alloc oP (c := its oP) rfl hfr
  refine stC (U₁ := [_]) S₁ hk l2 hlk fun h₂ S₂ => ?_
  obtain ⟨B₃, o₃, kB, e₃, c₃, S₃⟩ := St.give (U₁ := []) S₂
  cases c₃
  refine wpAny_execs_cons ?_
  refine wpAny_Return_some ?_
  refine wpAny_BinOp ?_
  refine c_str ?_
  refine smeth (id := "str.join") ?s1 ?s2 ?s3
  case s1 => exact F.slot_str_join
  case s2 => exact F.type_str_join
  refine c_str ?_
  refine ⟨⟨_, _, rfl⟩, ?_⟩
  refine arg1 ?_
  obtain ⟨lP, elP, hLP⟩ := txts_isList e₃ hP'
  obtain ⟨l, nl, rfl, rfl⟩ := ho
  have ha₃ := kB _ _ ha
  have S₃' : St B₃ env.locals m [(c, cellC (some (.ref h.objs.size)))] h₂ := S₃
  obtain ⟨B₄, oc, kB₄, e₄, c₄, S₄⟩ := S₃'.give0
  refine compW (s₀ := s₀) (cl := [(("pieces" : Str), c)]) ?_ (by decide) rfl (by decide) ?_
  · refine (closureFor_some ?_).trans ?_
    · rw [hc]
      intro x hx hf
      simp only [List.mem_cons, List.not_mem_nil, or_false] at hx
      rcases hx with rfl | rfl | rfl
      · cases hf
      · cases hf
      · rfl
    · rw [hc]; rfl
  refine nm S₄ hk l1 hv ?_
  have hL : h₂.IsList a (intVals l).toArray := ⟨_, S₄.old (kB₄ _ _ ha₃), rfl, nl, rfl⟩
  refine wpAny_pyIter_list (s := Sh s₀ h₂ _) hL ?_
  have hne : a ≠ h₂.objs.size := Nat.ne_of_lt (Heap.lt_size (S₄.old (kB₄ _ _ ha₃)))
  have S₅ := St.allocMid (U := []) (V := []) S₄ (listIt a) (c := its (listIt a)) rfl
  have hlen : (intVals l).length = l.length := by simp [intVals]
  rw [List.length_map] at hn
  refine ⟨h₂.objs.size, (intVals l).length, _, B₄, m, [], [], listIt a, _, _, wayList hA.handled (items := intVals l) (kB₄ _ _ ha₃) hne,
    fun i ys B' U' => U' = [] ∧ ∃ l', l'.map (·.1) = ((l.map (·.1)).map pieceOf).take i ∧ ys = strValues l' ∧ ys.length = i, rfl, rfl, S₅, by omega, ⟨⟨_, Heap.get?_push_size _ rfl, rfl, rfl⟩, hL.push _⟩, .inl fun _ => rfl,
    fun _ _ => ⟨rfl, [], rfl, rfl, rfl⟩, ?_, ?_⟩
  · intro E' i v ys B' m' U' V h₆ k₆ C cenv hcv hi hP6 hinv hB S₆ hk₆
    obtain ⟨rfl, l', e1, rfl, e3⟩ := hinv
    obtain ⟨y, t, rfl, hy⟩ := intVal_get hP6
    have kx : cenv.kindOf "n" = some .local := by rw [hcv]; exact lookup_relabel_local rfl
    have kk : cenv.scope.kind = .function := by rw [hcv]; rfl
    have kp : cenv.kindOf "pieces" = some .cell := by rw [hcv]; unfold compEnvC relabel Env.kindOf; simp only [hk, List.map]; unfold Env.kindOf at l2; rw [l2]; rfl
    have kc : cenv.cells.lookup ("pieces" : Str) = some c := by rw [hcv]; rfl
    refine wpAny_assign_Name (stn' S₆ kk kx fun h₇ S₇ => wpAny_tests_nil ?_)
    have hPc : h₇.IsCell c (some (.ref h.objs.size)) := ⟨oc, S₇.old (hB _ _ e₄), c₄⟩
    have hPl : h₇.IsList h.objs.size (strValues lP).toArray := by
      obtain ⟨o, e, r⟩ := hLP
      rw [e₃] at e; cases e
      exact ⟨_, S₇.old (hB _ _ (kB₄ _ _ e₃)), r⟩
    refine ixL (nmC hPc kk kp kc (wpAny_BinOp (nm (v := .int y t) S₇ kk kx (by simp) (c_int fun _ => PyProof.Rows.mod_int (s := Sh s₀ h₇ _) (by decide) ?_))))
    have hpz : (strValues lP).length = 16 := by have := congrArg List.length elP; simpa [strValues, pieces] using this
    have hg := pieceOf_get y
    have hfl := fmod_lt y
    obtain ⟨tt, hx⟩ : ∃ tt, (strValues lP)[(y.fmod 16).toNat]? = some (.str (pieceOf y) tt) := by
      rw [← elP, List.getElem?_map, Option.map_eq_some_iff] at hg
      obtain ⟨p, hp, e⟩ := hg
      exact ⟨p.2, by simp only [strValues, List.getElem?_map, hp, Option.map_some, e]⟩
    refine ⟨h.objs.size, _, y.fmod 16, _, (y.fmod 16).toNat, _, rfl, rfl, hPl, by rw [List.size_toArray, hpz]; decide, ?_, by rw [List.getElem?_toArray]; exact hx, ?_⟩
    · unfold seqIndex?
      rw [List.size_toArray, hpz]
      have h0 : ¬ (y.fmod 16 < 0) := by omega
      simp only [h0, if_false]
      rw [if_pos (by simp only [Bool.and_eq_true, decide_eq_true_eq]; exact ⟨hfl.1, by omega⟩)]
    refine ⟨B', _, [], h₇, _, rfl, Kp.refl _, S₇, rfl, l' ++ [(pieceOf y, tt)], ?_, by simp [strValues], by simp [e3]⟩
    rw [List.map_append, e1, List.take_add_one, List.getElem?_map, hy]; rfl
  · intro ys B' U' D h₆ k₆ hinv hB S₆ hk₆
    obtain ⟨rfl, l', e1, rfl, e3⟩ := hinv
    rw [hlen, List.take_of_length_le (by simp)] at e1
    obtain ⟨⟨oD, eD, cD⟩, _⟩ := S₆.own _ (.head _)
    have hsum := StrLaws.sumLen_le (B := 6) (((l.map (·.1)).map pieceOf)) (fun y hy => by obtain ⟨z, _, rfl⟩ := List.mem_map.mp hy; exact pieceOf_len z)
    rw [List.length_map, List.length_map] at hsum
    refine join_s eD (txts_lst e1 cD) ?_ fun t₇ k₇ => ?_
    · rw [List.length_map, List.length_map]
      have : (Str.ofString "").length = 0 := rfl
      rw [this]; omega
    refine add_s ?_ fun t₈ k₈ => ?_
    · have h1 := StrLaws.join_length_le (Str.ofString "") ((l.map (·.1)).map pieceOf)
      have h2 : (Str.ofString "").length = 0 := rfl
      have h3 : (Str.ofString "k=a, m=c").length = 8 := rfl
      rw [h2] at h1
      show (Str.ofString "k=a, m=c").length + _ ≤ _
      omega
    · exact hQ h₆ t₈ k₈ ((kB.trans (kB₄.trans hB)).trans S₆.keep)
theorem header_call {Q : Value → Shared → Prop} {a : Addr} {o : Obj} {ns : List Int} (T : Top0 h) (hA : AOk 4 A) (ha : h.get? a = some o) (ho : intsC ns o) (hn : ns.length ≤ 100)
    (hQ : ∀ h' k' t', Kp h h' → Q (.str (lawHeader ns) t') (Sh s₀ h' k')) :
    wpAny (model PW w) A (call (.ref 223) [.ref a] []) Q E (Sh s₀ h k) := by
  obtain ⟨hf, hcd⟩ := T.fns (223, 11, 222) (by decide)
  refine callC (fd := lawFd 11 222) (body := dBody (stmtAt 11)) (binds := [("numbers", .ref a)]) hf hcd T.nolimit ?a1 ?a2 ?a3 ?a4 ?a5 ?a6 ?a7 ?a8 ?a9 ?a10 ?a11
    ?a12
  case a1 => have := hA.depth; omega
  case a2 => rfl
  case a3 => rfl
  case a4 => rfl
  case a5 => with_unfolding_all rfl
  case a6 => rfl
  case a7 => exact PyProof.Rows.locs (by rfl)
  case a8 => decide
  case a9 => rfl
  case a10 => rfl
  case a11 => rfl
  intro env h₁ k₁ he ok hcs S
  have l1 : env.kindOf "numbers" = some .local := by subst he; rfl
  have l2 : env.kindOf "pieces" = some .cell := by subst he; rfl
  have ec : cellsFrom (h.objs.size + 1) (lawFd 11 222).scope.names [] = [(("pieces" : Str), h.objs.size + 1)] := by rfl
  rw [ec] at hcs S
  have A2 : AOk 2 (A.deeper env) := (hA.le (by omega)).deeper
  have S2 : St h env.locals (fun x => List.lookup x [(("numbers" : Str), Value.ref a)].reverse) [(h.objs.size + 1, cellC none)] h₁ := S
  obtain ⟨key⟩ := header_body (E := outE w A env E) (Q := retQ Q) (w := w) (k := k₁) S2 A2 ok rfl ha ho hn l1 l2 hcs (fun h' t' k' K => hQ h' k' t' K)
  assumption
end
section
variable {w : World} {A : Around} {E : Value → Shared → Prop} {s : Shared}
theorem setItem_neg {l : Addr} {items : Array Value} {n : Nat} {k : Int} {t : Tok} {v : Value} {Q : Unit → Shared → Prop} (ho : s.heap.get? l = some { cls := .type "list", data := .seq items n })
    (h0 : k < 0) (h1 : -(items.size : Int) ≤ k) (hfit : -(2 ^ 63) ≤ k)
    (hQ : Q () { s with heap := s.heap.update l (Obj.mapSeq (·.setIfInBounds (k + items.size).toNat v)) }) :
    wpAny (model PW w) A (setItem (.ref l) (.int k t) v) Q E s := by
  have hl : s.heap.IsList l items := ⟨_, ho, rfl, n, rfl⟩
  have hd : ({ cls := .type "list", data := .seq items n } : Obj).data = .seq items n := rfl
  unfold setItem
  try with_reducible refine wpAny_holding ?_
  first | refine wpAny_bind (wpAny_pure ?_) | skip
  refine wpAny_bind (wpAny_sequenceKey hl.typeIs (by decide) ?_)
  refine wpAny_bind (wpAny_callSpecial?_slot (name := Str.ofString "__setitem__") hl.typeIs slot_list_setitem
    (wpAny_call_entry slot_list_setitem hl.typeIs entry_list_setitem ?_ (args_list_setitem _ _ _)))
  show wpAny _ _ (Builtin.List.listSubscript? (.int k t) >>= _) _ _ s
  refine wpAny_bind (wpAny_listSubscript_int (fitsIndex_neg h0 hfit) ?_)
  clear hfit
  have hidx := seqIndex_neg h0 h1
  obtain ⟨j, rfl⟩ : ∃ j : Nat, k = Int.negSucc j := by
    cases k with
    | ofNat n => exact absurd h0 (Int.not_lt.mpr (Int.natCast_nonneg n))
    | negSucc n => exact ⟨n, rfl⟩
  show wpAny _ _ ((Builtin.List.listItems (.ref l) >>= fun xs => pure ((seqIndex? (Int.negSucc j) xs.size).bind fun i => xs[i]?.map (i, ·))) >>= _) _ _ s
  refine wpAny_bind (wpAny_bind ?_)
  show wpAny _ _ (seqItems? (.ref l) >>= _) _ _ s
  refine wpAny_bind (wpAny_seqItems ho hd (wpAny_pure (wpAny_pure ?_)))
  rw [hidx]
  have hlt : (Int.negSucc j + (items.size : Int)).toNat < items.size := by omega
  have hx : items[(Int.negSucc j + (items.size : Int)).toNat]? = some items[(Int.negSucc j + (items.size : Int)).toNat] := Array.getElem?_eq_getElem hlt
  simp only [Option.bind_some, hx, Option.map_some]
  show wpAny _ _ (setSeqItemAt l _ v >>= _) _ _ s
  refine wpAny_bind (wpAny_setSeqItemAt ho hd ?_)
  first
    | exact wpAny_bind (wpAny_pure (wpAny_pure ⟨.none, rfl, wpAny_pure hQ⟩))
    | exact wpAny_pure ⟨.none, rfl, wpAny_pure hQ⟩
theorem seqSlotOfPlain {T : String} {name : Str} {id : String} (hf : typeLookup (.type T) name = pure (some (.builtin id))) (hs : isSeqSlot (some (.builtin id)) = true) : seqSlot? (.type T) name = pure (some (.builtin id)) := seqSlot_of hf hs
theorem iadd_list {R D : Addr} {xs ys : Array Value} {n n2 : Nat} {Q : Value → Shared → Prop} (hR : s.heap.get? R = some { cls := .type "list", data := .seq xs n }) (hD : s.heap.get? D = some { cls := .type "list", data := .seq ys n2 })
    (hsz : xs.size + ys.size ≤ 100000) (hQ : Q (.ref R) { s with heap := s.heap.update R (Obj.mapSeq fun x => x ++ ys) }) :
    wpAny (model PW w) A (inplaceOp .Add (.ref R) (.ref D)) Q E s := by
  have hs := sizeLine_eq
  have ha : s.TypeIs (.ref R) "list" := ⟨_, hR, rfl⟩
  have hb : s.TypeIs (.ref D) "list" := ⟨_, hD, rfl⟩
  unfold inplaceOp
  refine wpAny_holding ?_
  have hl : typeLookup (.type "list") (dunderI "add") = pure (some (.builtin "list.__iadd__")) := F.slot_list_iadd.lookup
  have hsl : isSeqSlot (some (.builtin "list.__iadd__")) = true := by decide +kernel
  have hfi : fillsInplaceSlot (.type "list") "add" (Operator.Add == .Add) = pure false := by
    unfold fillsInplaceSlot
    show (typeLookup (.type "list") (dunderI "add") >>= fun fi => pure (fi.isSome && !isSeqSlot fi)) = pure false
    rw [hl, pure_bind, hsl]; rfl
  have hsi : seqSlot? (.type "list") (dunderI "add") = pure (some (.builtin "list.__iadd__")) := seqSlot_of hl hsl
  refine wpAny_bind (wpAny_typeOf ha (wpAny_bind (wpAny_of_eq hfi ?_)))
  show wpAny (model PW w) A (if false = true then _ else _) Q E s
  rw [if_neg Bool.false_ne_true]
  have hfill : fillsNumberSlot (.type "list") "add" = pure false := noFill_list_add
  refine wpAny_bind (wpAny_binaryOp1_none (nm := "add") ha hb hfill ?_)
  refine wpAny_bind (wpAny_of_eq hsi ?_)
  refine wpAny_bind (wpAny_rule ?_)
  refine call_meets F.slot_list_iadd ha F.entry_list_iadd (F.args_list_iadd_2 _ _) (AutoSeq1.list___iadd___list_list_0 R xs n D ys n2 ?_ (by omega) (by omega)) ⟨hR, hD, hQ⟩
  simp only [Builtin.List.listTooLong, Bool.and_eq_true, Bool.not_eq_true', not_and, decide_eq_true_eq]
  intro _
  omega
end
section
variable {w : World} {A : Around} {E : Value → Shared → Prop} {s₀ : Shared} {B : Heap} {L : Addr} {m : Str → Option Value} {U U₁ U₂ : List (Addr × Cell)} {h : Heap} {k : Nat} {env : Env}
theorem txts_snoc {ys : List Str} {z : Str} {o : Obj} (hx : txts (ys ++ [z]) o) : ∃ l z' n, l.map (·.1) = ys ∧ o = { cls := .type "list", data := .seq (strValues (l ++ [(z, z')])).toArray n } := by
  obtain ⟨l, n, hl, rfl⟩ := hx
  obtain ⟨l1, l2, rfl, e1, e2⟩ := List.map_eq_append_iff.mp hl
  obtain ⟨p, r, rfl, e3, e4⟩ := List.map_eq_cons_iff.mp e2
  simp only [List.map_eq_nil_iff] at e4
  subst e4
  exact ⟨l1, p.2, n, e1, by rw [← e3]⟩
theorem txts_mapSeq {f : Array Value → Array Value} {l l' : List (Str × Tok)} {n : Nat} {xs : List Str} (h1 : l'.map (·.1) = xs) (h2 : f (strValues l).toArray = (strValues l').toArray) :
    txts xs (Obj.mapSeq f { cls := .type "list", data := .seq (strValues l).toArray n }) := by
  have : ∃ n', Obj.mapSeq f { cls := .type "list", data := .seq (strValues l).toArray n } = { cls := .type "list", data := .seq (f (strValues l).toArray) n' } := ⟨_, rfl⟩
  obtain ⟨n', e⟩ := this
  exact ⟨l', n', h1, by rw [e, h2]⟩
theorem getLast_t {R : Addr} {ys : List Str} {z : Str} {u : Tok} {o : Obj} {Q : Value → Shared → Prop} (e : h.get? R = some o) (hx : txts (ys ++ [z]) o) (hn : ys.length ≤ 100000)
    (hQ : ∀ t, Q (.str z t) (Sh s₀ h k)) : wpAny (model PW w) A (getItem (.ref R) (.int (-1) u)) Q E (Sh s₀ h k) := by
  obtain ⟨l, z', n, rfl, rfl⟩ := txts_snoc hx
  have p63 : (2 : Int) ^ 63 = 9223372036854775808 := by decide
  have hz : (strValues (l ++ [(z, z')])).toArray.size = l.length + 1 := by simp [strValues]
  refine wpAny_getItem_list_neg (s := Sh s₀ h k) (x := .str z z') ⟨_, e, rfl, n, rfl⟩ (by decide) (by rw [hz]; omega) (by omega) ?_ (hQ z')
  rw [hz]
  have : (-1 + ((l.length + 1 : Nat) : Int)).toNat = l.length := by omega
  rw [this]
  simp [strValues]
theorem setLast_t {R : Addr} {ys : List Str} {z z₂ : Str} {u t : Tok} {Q : Unit → Shared → Prop} (S : St B L m (U₁ ++ (R, txts (ys ++ [z])) :: U₂) h)
    (hQ : ∀ h', St B L m (U₁ ++ (R, txts (ys ++ [z₂])) :: U₂) h' → Q () (Sh s₀ h' k)) : wpAny (model PW w) A (setItem (.ref R) (.int (-1) u) (.str z₂ t)) Q E (Sh s₀ h k) := by
  obtain ⟨o, e, hx⟩ := S.get (a := R) (c := txts (ys ++ [z])) (by simp)
  obtain ⟨l, z', n, rfl, rfl⟩ := txts_snoc hx
  have p63 : (2 : Int) ^ 63 = 9223372036854775808 := by decide
  have hz : (strValues (l ++ [(z, z')])).toArray.size = l.length + 1 := by simp [strValues]
  refine setItem_neg (s := Sh s₀ h k) e (by decide) (by rw [hz]; omega) (by omega) ?_
  rw [hz]
  have : (-1 + ((l.length + 1 : Nat) : Int)).toNat = l.length := by omega
  rw [this]
  refine hQ _ (S.upd (o' := _) (Heap.SameBut.update ..).extBut (Heap.get?_update_self _ e rfl) (txts_mapSeq (l' := l ++ [(z₂, t)]) (by simp) ?_))
  simp [strValues]
theorem iadd_t {R D : Addr} {xs ys : List Str} {o : Obj} {Q : Value → Shared → Prop} (S : St B L m (U₁ ++ (R, txts xs) :: U₂) h) (e : h.get? D = some o) (hy : txts ys o) (hsz : xs.length + ys.length ≤ 100000)
    (hQ : ∀ h', St B L m (U₁ ++ (R, txts (xs ++ ys)) :: U₂) h' → Q (.ref R) (Sh s₀ h' k)) : wpAny (model PW w) A (inplaceOp .Add (.ref R) (.ref D)) Q E (Sh s₀ h k) := by
  obtain ⟨o, eR, hx⟩ := S.get (a := R) (c := txts xs) (by simp)
  obtain ⟨l, n, rfl, rfl⟩ := hx
  obtain ⟨l', n', rfl, rfl⟩ := hy
  simp only [List.length_map] at hsz
  refine iadd_list (s := Sh s₀ h k) eR e (by simpa [strValues] using hsz) ?_
  refine hQ _ (S.upd (o' := _) (Heap.SameBut.update ..).extBut (Heap.get?_update_self _ eR rfl) (txts_mapSeq (l' := l ++ l') (by simp) ?_))
  simp [strValues]
theorem pop_t {R : Addr} {ys : List Str} {z : Str} {Q : Value → Shared → Prop} (S : St B L m (U₁ ++ (R, txts (ys ++ [z])) :: U₂) h) (hn : ys.length ≤ 100000)
    (hQ : ∀ h' t, St B L m (U₁ ++ (R, txts ys) :: U₂) h' → Q (.str z t) (Sh s₀ h' k)) : wpAny (model PW w) A (call (.builtin "list.pop") [.ref R]) Q E (Sh s₀ h k) := by
  obtain ⟨o, e, hx⟩ := S.get (a := R) (c := txts (ys ++ [z])) (by simp)
  obtain ⟨l, z', n, rfl, rfl⟩ := txts_snoc hx
  have h24 : sizeLine = 16777216 := sizeLine_eq
  have hz : (strValues (l ++ [(z, z')])).toArray.size = l.length + 1 := by simp [strValues]
  simp only [List.length_map] at hn
  refine call_meets (s := Sh s₀ h k) F.slot_list_pop ⟨_, e, rfl⟩ F.entry_list_pop (F.args_list_pop_1 _) (MeetsSeq.list_pop_last R _ n (.str z z') (by rw [hz]; simp [strValues]) (by rw [hz]; omega)) ⟨e, ?_⟩
  rw [hz]
  refine hQ _ z' (S.upd (o' := _) (Heap.SameBut.update ..).extBut (Heap.get?_update_self _ e rfl) (txts_mapSeq (l' := l) rfl ?_))
  simp [strValues, Array.eraseIdxIfInBounds]
  rw [List.eraseIdx_append_of_length_le (by simp)]
  simp
inductive DPre (s₀ : Shared) (G : List Str → Prop) (K : List Str → Heap → Nat → Prop) (v : Value) (s₁ : Shared) : Prop
  | mk (D : Addr) (xs : List Str) (o : Obj) (h₁ : Heap) (k₁ : Nat) (e1 : v = .ref D) (e2 : s₁ = Sh s₀ h₁ k₁) (e : h₁.get? D = some o) (ho : txts xs o) (g : G xs) (hn : xs.length ≤ 100000) (q : K xs h₁ k₁)
theorem tail_t {value : Expr} {c : Nat} {p p1 pos : Pos} {Q : Value → Shared → Prop}
    (hv : wpAny (model PW w) A (eval value env) (DPre s₀ (fun xs => 1 ≤ xs.length) fun xs h₁ k₁ => ∀ h₂ o₂, Kp h₁ h₂ → txts (xs.drop 1) o₂ → o₂.isFreed = false → Q (.ref h₂.objs.size) (Sh s₀ (h₂.push o₂) (k₁ + 1))) E (Sh s₀ h k))
    (ht : ∀ o r, letTemporaryGo value o r = pure () := by intro _ _; rfl) :
    wpAny (model PW w) A (eval (.Subscript value (.Slice (some (.Constant (.int 1) c p1)) none none p) pos) env) Q E (Sh s₀ h k) := by
  refine wpAny_Subscript_list_slice (wpAny_mono hv (fun v s₁ q => ?_) fun _ _ e => e) ht
  obtain ⟨D, xs, o, h₁, k₁, rfl, rfl, e, ⟨l, n, rfl, rfl⟩, h1, h2, hQ⟩ := q
  have h24 : sizeLine = 16777216 := sizeLine_eq
  rw [List.length_map] at h1 h2
  refine wpAny_evalPart_some (c_int fun t => wpAny_evalPart_none ?_)
  refine ⟨D, (strValues l).toArray, some 1, none, rfl, ⟨_, e, rfl, n, rfl⟩, by simp [strValues]; omega, .int 1 t, .none, ?_⟩
  have ep : slicePick (strValues l).toArray (some 1) none none = (strValues (l.drop 1)).toArray := by
    refine (slicePick_from (strValues l).toArray 1 (by simp [strValues]; omega)).trans ?_
    simp [strValues]
  rw [ep]
  have := hQ (h₁.push { cls := .type "slice", data := .fields #[.int 1 t, .none, .none] }) { cls := .type "list", data := .seq (strValues (l.drop 1)).toArray } (Kp.push _ _) ⟨l.drop 1, 0, by simp, rfl⟩ rfl
  rw [Heap.size_push] at this
  exact this
end
noncomputable def qt : Str := Str.ofString "\""
noncomputable def oddTail (x : Str) : Bool := (((x.length : Int) - ((Txt.rstripChars x bs).length : Int)).fmod 2 == 1)
noncomputable def onLast (f : Str → Str) (rows : List Str) : List Str := rows.dropLast ++ [f (rows.getLastD (Str.ofString ""))]
noncomputable def stepI (st : List Str × Option Str) (bit : Str) : List Str × Option Str := match st.2 with
  | none => (st.1, some bit)
  | some ins => if oddTail ins then (st.1, some (ins ++ (qt ++ bit)))
    else (onLast (fun z => z ++ (((qt ++ lawPlain ins) ++ qt) ++ (Txt.split bit (Str.ofString ",")).headD (Str.ofString ""))) st.1 ++ (Txt.split bit (Str.ofString ",")).drop 1, none)
noncomputable def runI (x : Str) : List Str × Option Str :=
  ((Txt.split x qt).drop 1).foldl stepI (Txt.split ((Txt.split x qt).headD (Str.ofString "")) (Str.ofString ","), none)
noncomputable def endI (st : List Str × Option Str) : List Str := match st.2 with
  | none => st.1
  | some ins => onLast (fun z => z ++ (qt ++ lawPlain ins)) st.1
noncomputable def lawItems (x : Str) : List Str :=
  let rows := endI (runI x)
  (if rows.getLastD (Str.ofString "") == Str.ofString "" then rows.dropLast else rows).map Txt.strip
theorem join_len (sep : Str) : ∀ (l : List Str), l ≠ [] → (Str.join sep l).length + sep.length = (l.map (·.length)).sum + l.length * sep.length
  | [], h => absurd rfl h
  | [a], _ => by simp [Str.join]
  | a :: b :: r, _ => by
    have ih := join_len sep (b :: r) (by simp)
    have e : Str.join sep (a :: b :: r) = a ++ sep ++ Str.join sep (b :: r) := rfl
    rw [e, len_append, len_append]
    simp only [List.map_cons, List.sum_cons, List.length_cons] at ih ⊢
    have h2 : (r.length + 1 + 1) * sep.length = (r.length + 1) * sep.length + sep.length := by rw [Nat.add_mul]; omega
    omega
theorem split_ne {x y : Str} : Txt.split x y ≠ [] := by
  unfold Txt.split
  split
  · simp
  · split
    · simp
    · intro h
      have h2 := congrArg List.length h
      simp [Builtin.Str.partsBetween] at h2
theorem split_sum (x : Str) (c : Nat) : ((Txt.split x ⟨#[c]⟩).map (·.length)).sum + (Txt.split x ⟨#[c]⟩).length = x.length + 1 := by
  have h := join_len ⟨#[c]⟩ (Txt.split x ⟨#[c]⟩) split_ne
  rw [StrLaws.join_split] at h
  have e : (⟨#[c]⟩ : Str).length = 1 := rfl
  rw [e] at h
  omega
theorem mem_sum {l : List Str} {x : Str} (h : x ∈ l) : x.length ≤ (l.map (·.length)).sum := by
  induction l with
  | nil => cases h
  | cons a r ih =>
    rw [List.map_cons, List.sum_cons]
    rcases List.mem_cons.mp h with rfl | h
    · omega
    · have := ih h; omega
theorem lawPlain_len (x : Str) : (lawPlain x).length ≤ x.length := by
  unfold lawPlain
  generalize hl : Txt.split x (Str.ofString "\\\\") = l
  have hn : l ≠ [] := hl ▸ split_ne
  have h := join_len (Str.ofString "\\\\") l hn
  rw [← hl, StrLaws.join_split] at h
  rw [hl] at h
  have h2 := join_len bs (l.map fun b => Txt.replace b bs (Str.ofString "")) (by simpa using hn)
  have e1 : (Str.ofString "\\\\").length = 2 := rfl
  have e2 : bs.length = 1 := rfl
  rw [e1] at h
  rw [e2, List.length_map] at h2
  have h3 : ∀ (l : List Str), ((l.map fun b => Txt.replace b bs (Str.ofString "")).map (·.length)).sum ≤ (l.map (·.length)).sum := by
    intro l
    induction l with
    | nil => exact Nat.le_refl _
    | cons a r ih =>
      simp only [List.map_cons, List.sum_cons]
      have := replace_empty_len a 92
      have e : (⟨#[92]⟩ : Str) = bs := rfl
      rw [e] at this
      omega
  have h4 := h3 l
  have : 0 < l.length := List.length_pos_iff.mpr hn
  omega
noncomputable def pot (st : List Str × Option Str) : Nat := (st.1.map (·.length)).sum + st.1.length + (st.2.map (·.length)).getD 0
theorem last_split {rows : List Str} (h : rows ≠ []) : rows = rows.dropLast ++ [rows.getLastD (Str.ofString "")] := by
  have := List.dropLast_concat_getLast h
  rw [List.getLastD_eq_getLast?, List.getLast?_eq_some_getLast h]
  exact this.symm
theorem onLast_ne {f : Str → Str} {rows : List Str} : onLast f rows ≠ [] := by simp [onLast]
theorem onLast_sum {f : Str → Str} {rows : List Str} {n : Nat} (h : rows ≠ []) (hf : ∀ z, (f z).length ≤ z.length + n) :
    ((onLast f rows).map (·.length)).sum ≤ (rows.map (·.length)).sum + n ∧ (onLast f rows).length = rows.length := by
  have e := last_split h
  constructor
  · have e2 : (rows.map (·.length)).sum = ((rows.dropLast ++ [rows.getLastD (Str.ofString "")]).map (·.length)).sum := by rw [← e]
    rw [e2]
    simp only [onLast, List.map_append, List.map_cons, List.map_nil, List.sum_append, List.sum_cons, List.sum_nil]
    have := hf (rows.getLastD (Str.ofString ""))
    omega
  · have e2 := congrArg List.length e
    simp only [onLast, List.length_append, List.length_cons, List.length_nil] at e2 ⊢
    omega
theorem stepI_pot {st : List Str × Option Str} {bit : Str} (h : st.1 ≠ []) : (stepI st bit).1 ≠ [] ∧ pot (stepI st bit) ≤ pot st + bit.length + 2 := by
  obtain ⟨rows, ins⟩ := st
  cases ins with
  | none => exact ⟨h, by simp only [stepI, pot, Option.map_some, Option.map_none, Option.getD_some, Option.getD_none]; omega⟩
  | some ins =>
    have e1 : qt.length = 1 := rfl
    simp only [stepI]
    split
    · refine ⟨h, ?_⟩
      simp only [pot, Option.map_some, Option.getD_some, len_append]
      first | done | omega
    · refine ⟨by simp [onLast], ?_⟩
      have hs := split_sum bit 44
      have e : (⟨#[44]⟩ : Str) = Str.ofString "," := rfl
      rw [e] at hs
      generalize hc : Txt.split bit (Str.ofString ",") = cut at hs
      have hcn : cut ≠ [] := hc ▸ split_ne
      cases cut with
      | nil => exact absurd rfl hcn
      | cons c0 cs =>
        have ho := onLast_sum (f := fun z => z ++ (((qt ++ lawPlain ins) ++ qt) ++ c0)) (n := 2 + (lawPlain ins).length + c0.length) h (fun z => by simp only [len_append]; omega)
        have hp := lawPlain_len ins
        simp only [List.map_cons, List.sum_cons, List.length_cons] at hs
        simp only [pot, List.headD_cons, List.drop_succ_cons, List.drop_zero, List.map_append, List.sum_append, List.length_append, Option.map_some, Option.map_none, Option.getD_some, Option.getD_none]
        dsimp only at h ho
        omega
theorem foldI_pot : ∀ (bits : List Str) (st : List Str × Option Str), st.1 ≠ [] → (bits.foldl stepI st).1 ≠ [] ∧ pot (bits.foldl stepI st) ≤ pot st + (bits.map (·.length)).sum + 2 * bits.length
  | [], st, h => ⟨h, by simp⟩
  | b :: r, st, h => by
    obtain ⟨h1, h2⟩ := stepI_pot (bit := b) h
    obtain ⟨h3, h4⟩ := foldI_pot r (stepI st b) h1
    refine ⟨h3, ?_⟩
    simp only [List.foldl_cons, List.map_cons, List.sum_cons, List.length_cons] at h4 ⊢
    omega
theorem runI_pot (x : Str) (i : Nat) : ((((Txt.split x qt).drop 1).take i).foldl stepI (Txt.split ((Txt.split x qt).headD (Str.ofString "")) (Str.ofString ","), none)).1 ≠ [] ∧
    pot ((((Txt.split x qt).drop 1).take i).foldl stepI (Txt.split ((Txt.split x qt).headD (Str.ofString "")) (Str.ofString ","), none)) ≤ 2 * x.length + 4 := by
  obtain ⟨h1, h2⟩ := foldI_pot (((Txt.split x qt).drop 1).take i) (Txt.split ((Txt.split x qt).headD (Str.ofString "")) (Str.ofString ","), none) split_ne
  refine ⟨h1, Nat.le_trans h2 ?_⟩
  have hx := split_sum x 34
  have e : (⟨#[34]⟩ : Str) = qt := rfl
  rw [e] at hx
  generalize hb : Txt.split x qt = bits at hx ⊢
  have hbn : bits ≠ [] := hb ▸ split_ne
  cases bits with
  | nil => exact absurd rfl hbn
  | cons b0 r =>
    have hs := split_sum b0 44
    have e : (⟨#[44]⟩ : Str) = Str.ofString "," := rfl
    rw [e] at hs
    simp only [List.map_cons, List.sum_cons, List.length_cons] at hx
    simp only [List.headD_cons, List.drop_succ_cons, List.drop_zero, pot, Option.map_none, Option.getD_none]
    have ht : ((r.take i).map (·.length)).sum ≤ (r.map (·.length)).sum := by
      have e := List.take_append_drop i r
      have e2 : (r.map (·.length)).sum = ((r.take i ++ r.drop i).map (·.length)).sum := by rw [e]
      rw [e2, List.map_append, List.sum_append]; omega
    have hl : (r.take i).length ≤ r.length := by simp; omega
    omega
noncomputable def aTargets : Stmt → List Expr | .Assign ts _ _ => ts | _ => []
noncomputable def aValue : Stmt → Expr | .Assign _ v _ => v | _ => default
noncomputable def bodyAt (i j : Nat) : Stmt := ((dBody (stmtAt i))[j]?).getD (.Pass default)
section
variable {w : World} {A : Around} {E : Value → Shared → Prop} {s₀ : Shared} {B : Heap} {L : Addr} {m : Str → Option Value} {U : List (Addr × Cell)} {h : Heap} {k : Nat} {env : Env}
theorem head_t {value : Expr} {c : Nat} {p pos : Pos} {Q : Value → Shared → Prop}
    (hv : wpAny (model PW w) A (eval value env) (DPre s₀ (· ≠ []) fun xs h₁ k₁ => ∀ t, Q (.str (xs.headD (Str.ofString "")) t) (Sh s₀ h₁ (k₁ + 1))) E (Sh s₀ h k))
    (hg : ∀ a r, letTemporaryGo value (.ref a) r = pure () := by intros; with_unfolding_all rfl) :
    wpAny (model PW w) A (eval (.Subscript value (.Constant (.int 0) c p) pos) env) Q E (Sh s₀ h k) := by
  refine ixL (wpAny_mono hv (fun v s₁ q => ?_) fun _ _ e => e) (by intros; with_unfolding_all rfl) hg
  obtain ⟨D, xs, o, h₁, k₁, rfl, rfl, e, ⟨l, n, rfl, rfl⟩, h1, h2, hQ⟩ := q
  cases l with
  | nil => exact absurd rfl h1
  | cons p r =>
    rw [List.length_map] at h2
    refine c_int fun t => ⟨D, _, 0, t, 0, .str p.1 p.2, rfl, rfl, ⟨_, e, rfl, n, rfl⟩, by simp [strValues] at h2 ⊢; omega, ?_, by simp [strValues], hQ p.2⟩
    simp [seqIndex?, strValues]
theorem last_t {value : Expr} {c : Nat} {p p1 pos : Pos} {Q : Value → Shared → Prop}
    (hv : wpAny (model PW w) A (eval value env) (DPre s₀ (· ≠ []) fun xs h₁ k₁ => ∀ t, Q (.str (xs.getLastD (Str.ofString "")) t) (Sh s₀ h₁ (k₁ + 1 + 1))) E (Sh s₀ h k))
    (hg : ∀ a r, letTemporaryGo value (.ref a) r = pure () := by intros; with_unfolding_all rfl) :
    wpAny (model PW w) A (eval (.Subscript value (.UnaryOp .USub (.Constant (.int 1) c p) p1) pos) env) Q E (Sh s₀ h k) := by
  refine ixL (wpAny_mono hv (fun v s₁ q => ?_) fun _ _ e => e) (by intros; with_unfolding_all rfl) hg
  obtain ⟨D, xs, o, h₁, k₁, rfl, rfl, e, hx, h1, h2, hQ⟩ := q
  have hl := last_split h1
  rw [hl] at hx
  obtain ⟨l, z', n, e1, rfl⟩ := txts_snoc hx
  have hz : (strValues (l ++ [(xs.getLastD (Str.ofString ""), z')])).toArray.size = l.length + 1 := by simp [strValues]
  have hln : l.length + 1 = xs.length := by
    have a1 := congrArg List.length e1
    have a2 := congrArg List.length hl
    simp only [List.length_map, List.length_append, List.length_cons, List.length_nil] at a1 a2
    omega
  refine c_neg fun t => ⟨D, _, -1, t, l.length, .str (xs.getLastD (Str.ofString "")) z', rfl, rfl, ⟨_, e, rfl, n, rfl⟩, by rw [hz]; omega, ?_, by simp [strValues], hQ z'⟩
  rw [hz]
  unfold seqIndex?
  simp only [show (-1 : Int) < 0 by decide, if_true]
  rw [if_pos (by simp only [Bool.and_eq_true, decide_eq_true_eq]; omega)]
  congr 1
  omega
noncomputable def insV (o : Option Str) (v : Value) : Prop := match o with
  | none => v = .none
  | some x => ∃ t, v = .str x t
theorem pot_ins {rows : List Str} {ins : Str} {n : Nat} (h : pot (rows, some ins) ≤ n) : ins.length ≤ n := by simp [pot] at h; omega
theorem pot_rows {st : List Str × Option Str} {n : Nat} (h : pot st ≤ n) : st.1.length ≤ n ∧ ∀ p ∈ st.1, p.length ≤ n := by
  refine ⟨by unfold pot at h; omega, fun p hp => ?_⟩
  have := mem_sum hp
  unfold pot at h; omega
theorem getLastD_mem {rows : List Str} (h : rows ≠ []) : rows.getLastD (Str.ofString "") ∈ rows := by
  rw [List.getLastD_eq_getLast?, List.getLast?_eq_some_getLast h]; exact List.getLast_mem h
inductive IInv (R : Addr) (st : List Str × Option Str) (B' : Heap) (m' : Locs) (U' : Own) : Prop
  | mk (vi : Value) (e1 : m' "rows" = some (.ref R)) (e2 : m' "inside" = some vi) (e3 : insV st.2 vi) (e4 : U' = [(R, txts st.1)])
theorem items_body {Q : Flow → Shared → Prop} {x : Str} {t : Tok} (S : St B env.locals m U h) (T : Top0 B) (hA : AOk 4 A) (ok : EOk env) (hv : m "text" = some (.str x t)) (hsz : x.length ≤ 100)
   (l1 : env.kindOf "text" = some .local) (l2 : env.kindOf "bits" = some .local) (l3 : env.kindOf "rows" = some .local) (l4 : env.kindOf "inside" = some .local) (l5 : env.kindOf "bit" = some .local) (l6 : env.kindOf "cut" = some .local)
   (g1 : env.kindOf "len" = some .globalImplicit) (g2 : env.kindOf "_law_plain" = some .globalImplicit)
   (hw : swappedStores (aTargets (bodyAt 13 1)) (aValue (bodyAt 13 1)) env = pure (some [("rows" : Str), ("inside" : Str)]))
   (hQ : ∀ h' k' a m', St B env.locals m' ((a, txts (lawItems x)) :: U) h' → Q (.ret (.ref a)) (Sh s₀ h' k')) :
   Runs w A (execs (dBody (stmtAt 13)) env) Q E (Sh s₀ h k) := by
  refine ⟨?_⟩
  have hk := ok.kind
  have hh := hA.handled
  have hs : sizeLine = 16777216 := sizeLine_eq
  refine wpAny_execs_cons (wpAny_Assign_Name ?_)
  refine smeth F.slot_str_split F.type_str_split (nm S hk l1 hv ⟨⟨_, _, rfl⟩, arg1 (c_str ?_)⟩)
  refine split_s (by rfl) (by omega) fun o₁ k₁ ho₁ hf₁ _ => ?_
  have S₁ := S.alloc o₁ (c := its o₁) rfl hf₁
  obtain ⟨B₂, o', kB₂, e₂, co, S₂⟩ := S₁.give0
  cases co
  refine stn S₂ hk l2 fun h₃ k₃ S₃ => ?_
  have hbn : Txt.split x qt ≠ [] := split_ne
  have hbl : (Txt.split x qt).length ≤ 103 := Nat.le_trans split_len.1 (by omega)
  refine wpAny_execs_cons ?_
  refine PyProof.Rows.Assign_Tuple_swapped ?_ (by rfl) hw
  refine wpAny_Tuple_spliced (arg2 ?_)
  refine smeth F.slot_str_split F.type_str_split (head_t (nm S₃ hk l2 rfl ⟨_, Txt.split x qt, o₁, _, _, rfl, rfl, S₃.old e₂, ho₁, hbn, by omega, fun t₄ => ⟨⟨_, _, rfl⟩, arg1 (c_str ?_)⟩⟩))
  have hb0 : ((Txt.split x qt).headD (Str.ofString "")).length ≤ 100 := by
    have : (Txt.split x qt).headD (Str.ofString "") ∈ Txt.split x qt := by
      generalize Txt.split x qt = l at hbn ⊢
      cases l with
      | nil => exact absurd rfl hbn
      | cons a r => exact .head _
    exact Nat.le_trans (split_len.2 _ this) hsz
  refine split_s (by rfl) (by omega) fun o₅ k₅ ho₅ hf₅ _ => ?_
  have S₅ := S₃.alloc o₅ (c := txts (Txt.split ((Txt.split x qt).headD (Str.ofString "")) (Str.ofString ","))) ho₅ hf₅
  generalize hR : h₃.objs.size = R at S₅ ⊢
  refine wpAny_Constant_none ⟨by show 2 ≤ sizeLine; omega, ?_⟩
  refine PyProof.Rows.unpackItems_tuple (items := #[.ref R, .none]) hh ⟨_, Heap.get?_push_size _ rfl, rfl, 0, rfl⟩ fun h₆ he => ?_
  have K₆ : Kp (h₃.push o₅) h₆ := fun b o e => he b o (Nat.ne_of_lt (Heap.lt_size (Heap.get?_push_of_some _ e))) (Heap.get?_push_of_some _ e)
  have S₆ := S₅.mono K₆
  refine wpAny_assignInOrder_more (PyProof.Rows.bindName_ (stn S₆ hk l4 fun h₇ k₇ S₇ => ?_))
  refine wpAny_assignInOrder_more (PyProof.Rows.bindName_ (stn S₇ hk l3 fun h₈ k₈ S₈ => ?_))
  refine wpAny_assignInOrder_none ?_
  refine wpAny_execs_cons ?_
  refine forList (s₀ := s₀) hh (.inl fun _ _ => rfl) ?_
  refine tail_t (s₀ := s₀) (nm S₈ hk l2 rfl ⟨_, Txt.split x qt, o₁, _, _, rfl, rfl, S₈.old e₂, ho₁, List.length_pos_iff.mpr hbn, by omega, fun h₉ o₉ K₉ ho₉ hf₉ => ?_⟩)
  have S₉ := (S₈.mono K₉).alloc o₉ (c := its o₉) rfl hf₉
  obtain ⟨B₁₀, o', kB₁₀, e₁₀, co, S₁₀⟩ := S₉.give0
  cases co
  obtain ⟨lb, nb, elb, eob⟩ := id ho₉
  have hlen : (strValues lb).length = ((Txt.split x qt).drop 1).length := by rw [← elb]; simp [strValues]
  refine ⟨_, strValues lb, o₉, nb, B₁₀, _, [(R, txts _)], U, _, _, fun i => IInv R ((((Txt.split x qt).drop 1).take i).foldl stepI (Txt.split ((Txt.split x qt).headD (Str.ofString "")) (Str.ofString ","), none)), rfl, rfl, S₁₀, e₁₀, by rw [eob], by rw [eob], ⟨.none, rfl, rfl, rfl, rfl⟩, ?_, ?_⟩
  · intro E' _ i v B' m' U' V' h₁₁ k₁₁ hv' hinv hB S₁₁ hk₁₁ _
    obtain ⟨vi, m1, m2, hvi, rfl⟩ := hinv
    obtain ⟨y, ty, rfl, hy⟩ := strVal_get hv'
    rw [elb] at hy
    obtain ⟨hrn, hpt⟩ := runI_pot x i
    have hst : (((Txt.split x qt).drop 1).take (i + 1)).foldl stepI (Txt.split ((Txt.split x qt).headD (Str.ofString "")) (Str.ofString ","), none) =
        stepI ((((Txt.split x qt).drop 1).take i).foldl stepI (Txt.split ((Txt.split x qt).headD (Str.ofString "")) (Str.ofString ","), none)) y := by
      rw [List.take_add_one, hy, List.foldl_append]; rfl
    rw [hst]
    have hyl : y.length ≤ 100 := by
      have : y ∈ Txt.split x qt := List.mem_of_mem_drop (List.mem_of_getElem? hy)
      exact Nat.le_trans (split_len.2 _ this) hsz
    generalize (((Txt.split x qt).drop 1).take i).foldl stepI (Txt.split ((Txt.split x qt).headD (Str.ofString "")) (Str.ofString ","), none) = st at *
    obtain ⟨rows, ins⟩ := st
    simp only at hrn hvi S₁₁
    have hpt2 : pot (rows, ins) ≤ 204 := by omega
    obtain ⟨pr1, pr2⟩ := pot_rows hpt2
    simp only at pr1 pr2
    refine wpAny_assign_Name (stn S₁₁ hk l5 fun h₁₂ k₁₂ S₁₂ => ?_)
    refine wpAny_execs_cons (wpAny_If ?_)
    cases ins with
    | none =>
      cases hvi
      refine wpAny_isTrue_Compare1 (nm (v := .none) S₁₂ hk l4 m2 (wpAny_Constant_none (wpAny_is_self rfl (truthy_b ?_))))
      refine wpAny_execs_cons (wpAny_Assign_Name (nm (v := .str y ty) S₁₂ hk l5 rfl (stn S₁₂ hk l4 fun h₁₃ k₁₃ S₁₃ => ?_)))
      refine wpAny_execs_nil (wpAny_execs_nil ?_)
      exact ⟨B', _, [(R, txts rows)], _, _, rfl, Kp.refl _, S₁₃, _, m1, rfl, ⟨ty, rfl⟩, rfl⟩
    | some ins =>
      obtain ⟨ti, rfl⟩ := hvi
      have hil := pot_ins hpt2
      refine wpAny_isTrue_Compare1 (nm (v := .str ins ti) S₁₂ hk l4 m2 (wpAny_Constant_none (wpAny_is_other rfl (by simp) (truthy_b ?_))))
      refine wpAny_execs_cons (wpAny_If ?_)
      have T₁₂ : Top0 h₁₂ := T.keeps ((kB₂.trans (kB₁₀.trans hB)).trans S₁₂.keep)
      have p63 : (2 : Int) ^ 63 = 9223372036854775808 := by decide
      refine wpAny_isTrue_Compare1 (wpAny_BinOp (wpAny_BinOp (callB (id := "len") T₁₂ ok g1 (by decide) (arg1 (nm (v := .str ins ti) S₁₂ hk l4 m2 (P.len_str (s := Sh s₀ h₁₂ k₁₂) (by omega) ?_))))))
      refine callB (id := "len") T₁₂ ok g1 (by decide) (arg1 (smeth F.slot_str_rstrip F.type_str_rstrip (nm (v := .str ins ti) S₁₂ hk l4 m2 ⟨⟨_, _, rfl⟩, arg1 (c_str ?_)⟩)))
      refine SC.rstripChars (s := Sh s₀ h₁₂ _) (fun t₁₃ k₁₃ => ?_) (by omega)
      have hrl : (Txt.rstripChars ins (Str.ofString "\\")).length ≤ ins.length := by
        unfold Txt.rstripChars Txt.stripBy; split
        · exact Nat.le_refl _
        · exact strSub_length_le ..
      refine P.len_str (s := Sh s₀ h₁₂ k₁₃) (by omega) ?_
      refine PyProof.Rows.sub_int (s := Sh s₀ h₁₂ _) ?_
      refine c_int fun _ => PyProof.Rows.mod_int (s := Sh s₀ h₁₂ _) (by decide) ?_
      refine c_int fun _ => PyProof.Rows.eq_int ?_
      refine truthy_b ?_
      have eo : ((((ins.length : Int) - ((Txt.rstripChars ins (Str.ofString "\\")).length : Int)).fmod 2 == 1)) = oddTail ins := rfl
      rw [eo]
      cases hodd : oddTail ins with
      | true =>
        refine wpAny_execs_cons (augS S₁₂ hk l4 m2 (wpAny_BinOp (c_str (nm (v := .str y ty) S₁₂ hk l5 rfl (add_s (by show 1 + _ ≤ _; omega) fun t₁₄ k₁₄ => ?_)))))
        refine ⟨_, _, _, _, rfl, rfl, S₁₂, ?_, fun h₁₅ k₁₅ t₁₅ S₁₅ => ?_⟩
        · rw [len_append]; show _ + (1 + _) ≤ _; omega
        refine wpAny_execs_nil (wpAny_execs_nil (wpAny_execs_nil ?_))
        have est : stepI (rows, some ins) y = (rows, some (ins ++ (qt ++ y))) := by simp [stepI, hodd]
        rw [est]
        exact ⟨B', _, [(R, txts rows)], _, _, rfl, Kp.refl _, S₁₅, _, m1, rfl, ⟨t₁₅, rfl⟩, rfl⟩
      | false =>
        obtain ⟨ys, z, rfl⟩ : ∃ ys z, rows = ys ++ [z] := ⟨_, _, last_split hrn⟩
        have pr1' : ys.length + 1 ≤ 204 := by simpa using pr1
        have hzl : z.length ≤ 204 := pr2 z (by simp)
        refine wpAny_execs_cons (wpAny_Assign_Name ?_)
        refine smeth F.slot_str_split F.type_str_split (nm (v := .str y ty) S₁₂ hk l5 rfl ⟨⟨_, _, rfl⟩, arg1 (c_str ?_)⟩)
        refine split_s (by rfl) (by omega) fun o₁₄ k₁₄ ho₁₄ hf₁₄ _ => ?_
        have S₁₄ := S₁₂.alloc o₁₄ (c := its o₁₄) rfl hf₁₄
        obtain ⟨B₁₅, o', kB₁₅, e₁₅, co, S₁₅⟩ := S₁₄.give0
        cases co
        refine stn S₁₅ hk l6 fun h₁₆ k₁₆ S₁₆ => ?_
        have T₁₆ : Top0 h₁₆ := T.keeps ((kB₂.trans (kB₁₀.trans (hB.trans kB₁₅))).trans S₁₆.keep)
        have hcn : Txt.split y (Str.ofString ",") ≠ [] := split_ne
        have hcl : (Txt.split y (Str.ofString ",")).length ≤ 103 := Nat.le_trans split_len.1 (by omega)
        have hc0 : ((Txt.split y (Str.ofString ",")).headD (Str.ofString "")).length ≤ 100 := by
          have : (Txt.split y (Str.ofString ",")).headD (Str.ofString "") ∈ Txt.split y (Str.ofString ",") := by
            generalize Txt.split y (Str.ofString ",") = l at hcn ⊢
            cases l with
            | nil => exact absurd rfl hcn
            | cons a r => exact .head _
          exact Nat.le_trans (split_len.2 _ this) hyl
        refine wpAny_execs_cons ?_
        refine wpAny_AugAssign_SubscriptAny (nm (v := .ref R) S₁₆ hk l3 m1 (c_neg fun _ => ?_)) (by intros; rfl)
        obtain ⟨oR, eR, cR⟩ := S₁₆.get (a := R) (c := txts (ys ++ [z])) (by simp)
        refine getLast_t eR cR (by omega) fun tz => ?_
        refine wpAny_BinOp (wpAny_BinOp (wpAny_BinOp (c_str (callN T₁₆ ok g2 (by decide) (arg1 (nm (v := .str ins ti) S₁₆ hk l4 m2 ⟨(T₁₆.fns (228, 12, 227) (by decide)).1, ?_⟩))))))
        refine plain_call T₁₆ (hA.le (by omega)) (by omega) fun h₁₇ k₁₇ t₁₇ K₁₇ => ?_
        have S₁₇ := S₁₆.mono K₁₇
        have hpl := lawPlain_len ins
        have q1 : (Str.ofString "\"").length = 1 := rfl
        refine add_s (by rw [q1]; omega) fun t₁₈ k₁₈ => ?_
        refine c_str (add_s (by rw [len_append, q1]; omega) fun t₁₉ k₁₉ => ?_)
        refine head_t (s₀ := s₀) (nm (v := .ref _) S₁₇ hk l6 rfl ⟨_, Txt.split y (Str.ofString ","), o₁₄, _, _, rfl, rfl, S₁₇.old e₁₅, ho₁₄, hcn, by omega, fun t₂₀ => ?_⟩)
        refine add_s (by rw [len_append, len_append, q1]; omega) fun t₂₁ k₂₁ => ?_
        refine iadd_s (by rw [len_append, len_append, len_append, q1]; omega) fun t₂₂ k₂₂ => ?_
        refine setLast_t (U₁ := []) S₁₇ fun h₂₃ S₂₃ => ?_
        refine wpAny_execs_cons ?_
        refine wpAny_AugAssign_Name (ldn (v := .ref R) S₂₃ hk l3 m1 ?_)
        refine tail_t (s₀ := s₀) (nm (v := .ref _) S₂₃ hk l6 rfl ⟨_, Txt.split y (Str.ofString ","), o₁₄, _, _, rfl, rfl, S₂₃.old e₁₅, ho₁₄, List.length_pos_iff.mpr hcn, by omega, fun h₂₄ o₂₄ K₂₄ ho₂₄ hf₂₄ => ?_⟩)
        have S₂₄ := (S₂₃.mono K₂₄).push o₂₄
        refine iadd_t (U₁ := []) S₂₄ (Heap.get?_push_size _ hf₂₄) ho₂₄ (by simp; omega) fun h₂₅ S₂₅ => ?_
        refine stn S₂₅ hk l3 fun h₂₆ k₂₆ S₂₆ => ?_
        refine wpAny_execs_cons (wpAny_Assign_Name (wpAny_Constant_none (stn S₂₆ hk l4 fun h₂₇ k₂₇ S₂₇ => ?_)))
        refine wpAny_execs_nil (wpAny_execs_nil (wpAny_execs_nil ?_))
        have est : stepI (ys ++ [z], some ins) y = (ys ++ [z ++ (((qt ++ lawPlain ins) ++ qt) ++ (Txt.split y (Str.ofString ",")).headD (Str.ofString ""))] ++ (Txt.split y (Str.ofString ",")).drop 1, none) := by
          simp [stepI, hodd, onLast]
        rw [est]
        exact ⟨B₁₅, _, [(R, txts _)], _, _, rfl, kB₁₅, S₂₇, .none, rfl, rfl, rfl, rfl⟩
  · intro B' m' U' h₁₁ k₁₁ hinv hB S₁₁ hk₁₁
    obtain ⟨vi, m1, m2, hvi, rfl⟩ := hinv
    obtain ⟨hrn, hpt⟩ := runI_pot x (strValues lb).length
    have hall : ((Txt.split x qt).drop 1).take (strValues lb).length = (Txt.split x qt).drop 1 := by rw [hlen]; exact List.take_length
    rw [hall] at hvi hrn hpt S₁₁
    have hrun : ((Txt.split x qt).drop 1).foldl stepI (Txt.split ((Txt.split x qt).headD (Str.ofString "")) (Str.ofString ","), none) = runI x := rfl
    rw [hrun] at hvi hrn hpt S₁₁
    have hfin : lawItems x = (if (endI (runI x)).getLastD (Str.ofString "") == Str.ofString "" then (endI (runI x)).dropLast else endI (runI x)).map Txt.strip := rfl
    rw [hfin] at hQ
    generalize runI x = st at hvi hrn hpt S₁₁ hQ
    obtain ⟨rows, ins⟩ := st
    simp only at hrn hvi S₁₁
    have kBB : Kp B B' := kB₂.trans (kB₁₀.trans hB)
    have fin : ∀ rows h₇ k₇ m₇, rows ≠ [] → rows.length ≤ 1000 → (∀ p ∈ rows, p.length ≤ 1000) → m₇ "rows" = some (.ref R) → St B' env.locals m₇ ((R, txts rows) :: U) h₇ →
        (∀ h' k' a m', St B env.locals m' ((a, txts ((if rows.getLastD (Str.ofString "") == Str.ofString "" then rows.dropLast else rows).map Txt.strip)) :: U) h' → Q (.ret (.ref a)) (Sh s₀ h' k')) →
        ∀ E', wpAny (model PW w) A (execs ((dBody (stmtAt 13)).drop 4) env) Q E' (Sh s₀ h₇ k₇) := by
      intro rows h₇ k₇ m₇ hne hle hpl e7 S₇ hQ' E'
      have ret : ∀ rows h₇ k₇, rows.length ≤ 1000 → (∀ p ∈ rows, p.length ≤ 1000) → St B' env.locals m₇ ((R, txts rows) :: U) h₇ →
          (∀ h' k' a m', St B env.locals m' ((a, txts (rows.map Txt.strip)) :: U) h' → Q (.ret (.ref a)) (Sh s₀ h' k')) →
          wpAny (model PW w) A (execs ((dBody (stmtAt 13)).drop 5) env) Q E' (Sh s₀ h₇ k₇) := by
        intro rows h₇ k₇ hle hpl S₇ hQ'
        refine wpAny_execs_cons (wpAny_Return_some ?_)
        obtain ⟨B₈, o, kB, eo, co, S₈⟩ := S₇.give0
        refine compTxt (s₀ := s₀) Txt.strip hh (closureFor_none (by decide)) (by decide) rfl (by decide) (by rfl) ?_
        refine nm S₈ hk l3 e7 ⟨R, rows, o, B₈, m₇, U, h₇, k₇, rfl, rfl, S₈, eo, co, by omega, ?_, fun a' h' k' S' _ => hQ' h' k' a' _ (S'.weaken (kBB.trans kB))⟩
        intro E' y t B₉ m₉ V h₉ k₉ C cenv hc hl hy _ S₉ e9 _
        refine smeth F.slot_str_strip F.type_str_strip (nm S₉ (by rw [hc]; rfl) hl e9 ⟨⟨_, _, rfl⟩, arg0 ?_⟩)
        exact SC.strip (s := Sh s₀ h₉ k₉) (fun t' k' => ⟨t', h₉, k', rfl, rfl, Kp.refl _⟩) (by have := hpl y hy; omega)
      obtain ⟨oR, eR, cR⟩ := S₇.get (a := R) (c := txts rows) (by simp)
      refine wpAny_execs_cons (wpAny_If ?_)
      refine wpAny_isTrue_Compare1 (last_t (s₀ := s₀) (nm (v := .ref R) S₇ hk l3 e7 ⟨R, rows, oR, _, _, rfl, rfl, eR, cR, hne, by omega, fun t₈ => c_str (eq_s (truthy_b ?_))⟩))
      cases hlast : (rows.getLastD (Str.ofString "") == Str.ofString "") with
      | true =>
        rw [hlast] at hQ'
        refine wpAny_execs_cons ?_
        refine wpAny_Expr_any ?_ (interactive_no ok) (by rfl)
        refine lmeth F.slot_list_pop F.type_list_pop (nm (v := .ref R) S₇ hk l3 e7 ?_)
        obtain ⟨vs, hpl'⟩ := txts_plain S₇
        refine ⟨⟨R, _, rfl, hpl'⟩, arg0 ?_⟩
        have hrow := last_split hne
        have S₇' := S₇
        rw [hrow] at S₇'
        refine pop_t (U₁ := []) S₇' (by simp; omega) fun h₈ t₈ S₈ => ?_
        refine wpAny_execs_nil ?_
        exact ret _ _ _ (by simp; omega) (fun p hp => hpl p (List.dropLast_subset _ hp)) S₈ hQ'
      | false =>
        rw [hlast] at hQ'
        refine wpAny_execs_nil ?_
        exact ret _ _ _ hle hpl S₇ hQ'
    have hpt2 : pot (rows, ins) ≤ 204 := by omega
    obtain ⟨pr1, pr2⟩ := pot_rows hpt2
    simp only at pr1 pr2
    refine wpAny_execs_cons (wpAny_If ?_)
    cases ins with
    | none =>
      cases hvi
      refine wpAny_isTrue_Compare1 (nm (v := .none) S₁₁ hk l4 m2 (wpAny_Constant_none (wpAny_isNot_self rfl (truthy_b ?_))))
      refine wpAny_execs_nil ?_
      exact fin rows _ _ _ hrn (by omega) (fun p hp => by have := pr2 p hp; omega) m1 S₁₁ hQ _
    | some ins =>
      obtain ⟨ti, rfl⟩ := hvi
      have hil := pot_ins hpt2
      obtain ⟨ys, z, rfl⟩ : ∃ ys z, rows = ys ++ [z] := ⟨_, _, last_split hrn⟩
      have pr1' : ys.length + 1 ≤ 204 := by simpa using pr1
      have hzl : z.length ≤ 204 := pr2 z (by simp)
      have T₁₁ : Top0 h₁₁ := T.keeps (kBB.trans S₁₁.keep)
      refine wpAny_isTrue_Compare1 (nm (v := .str ins ti) S₁₁ hk l4 m2 (wpAny_Constant_none (wpAny_isNot_other rfl (by simp) (truthy_b ?_))))
      refine wpAny_execs_cons ?_
      refine wpAny_AugAssign_SubscriptAny (nm (v := .ref R) S₁₁ hk l3 m1 (c_neg fun _ => ?_)) (by intros; rfl)
      obtain ⟨oR, eR, cR⟩ := S₁₁.get (a := R) (c := txts (ys ++ [z])) (by simp)
      refine getLast_t eR cR (by omega) fun tz => ?_
      refine wpAny_BinOp (c_str (callN T₁₁ ok g2 (by decide) (arg1 (nm (v := .str ins ti) S₁₁ hk l4 m2 ⟨(T₁₁.fns (228, 12, 227) (by decide)).1, ?_⟩))))
      refine plain_call T₁₁ (hA.le (by omega)) (by omega) fun h₁₇ k₁₇ t₁₇ K₁₇ => ?_
      have S₁₇ := S₁₁.mono K₁₇
      have hpl := lawPlain_len ins
      have q1 : (Str.ofString "\"").length = 1 := rfl
      refine add_s (by rw [q1]; omega) fun t₁₈ k₁₈ => ?_
      refine iadd_s (by rw [len_append, q1]; omega) fun t₂₂ k₂₂ => ?_
      refine setLast_t (U₁ := []) S₁₇ fun h₂₃ S₂₃ => ?_
      refine wpAny_execs_nil ?_
      have est : endI (ys ++ [z], some ins) = ys ++ [z ++ (qt ++ lawPlain ins)] := by simp [endI, onLast]
      rw [est] at hQ
      refine fin _ _ _ _ (by simp) (by simp; omega) (fun p hp => ?_) m1 S₂₃ hQ _
      rcases List.mem_append.mp hp with hp | hp
      · have := pr2 p (by simp [hp]); omega
      · simp only [List.mem_singleton] at hp
        subst hp
        rw [len_append, len_append]
        show _ + (1 + _) ≤ _
        omega
end
section
variable {w : World} {A : Around} {E : Value → Shared → Prop} {s₀ : Shared} {B : Heap} {L : Addr} {m : Str → Option Value} {U : List (Addr × Cell)} {h : Heap} {k : Nat} {env : Env}
theorem items_call {Q : Value → Shared → Prop} {x : Str} {t : Tok} (T : Top0 h) (hA : AOk 6 A) (hsz : x.length ≤ 100)
    (hQ : ∀ h' k' a o, Kp h h' → h.get? a = none → h'.get? a = some o → txts (lawItems x) o → Q (.ref a) (Sh s₀ h' k')) :
    wpAny (model PW w) A (call (.ref 233) [.str x t] []) Q E (Sh s₀ h k) := by
  obtain ⟨hf, hcd⟩ := T.fns (233, 13, 232) (by decide)
  refine callfd (fd := lawFd 13 232) (body := dBody (stmtAt 13)) (binds := [("text", .str x t)]) hf hcd T.nolimit (by have := hA.depth; omega) rfl rfl rfl (by with_unfolding_all rfl) (show ∀ x ∈ (dScope (stmtAt 13)).names, x.2 ≠ .cell from by decide) (PyProof.Rows.locs (by rfl)) rfl rfl rfl
    fun env h₁ he ok S => ?_
  have A2 : AOk 4 (A.deeper env) := (hA.le (by omega)).deeper
  obtain ⟨key⟩ := items_body (Q := retQ Q) (E := outE w A env E) (s₀ := s₀) (w := w) (k := k + 1) S T A2 ok rfl hsz (by subst he; rfl) (by subst he; rfl) (by subst he; rfl) (by subst he; rfl) (by subst he; rfl) (by subst he; rfl) (by subst he; rfl) (by subst he; rfl) (by subst he; rfl)
    (fun h' k' a m' S' => by
      obtain ⟨⟨o, e, c⟩, _, n⟩ := S'.own _ (.head _)
      exact hQ h' k' a o S'.keep n e c)
  assumption
end
structure Fly (Hb : Heap) (A : Around) (outer : List Env) (B : Heap) : Prop where
  stack : A.frames = some outer
  kb : Kp Hb B
  ff : B.FunFrames Hb outer
noncomputable abbrev Flew (Hb : Heap) (outer : List Env) (B : Heap) (cls : String) (e : Addr) (h : Heap) : Prop := (∃ a0, Heap.FlyingW Hb outer e (.type cls) a0 h) ∧ B.UpToSlots h
theorem Fly.keeps {Hb : Heap} {A : Around} {outer : List Env} {B B' : Heap} (F : Fly Hb A outer B) (k : Kp B B') : Fly Hb A outer B' :=
  ⟨F.stack, F.kb.trans k, F.ff.of_keeps fun b o e _ => ⟨o, k _ _ e, rfl⟩⟩
theorem Kp.none {B B' : Heap} (k : Kp B B') {a : Addr} (ha : B'.get? a = none) : B.get? a = none := by
  cases e : B.get? a with
  | none => rfl
  | some o => have := k _ _ e; rw [ha] at this; cases this
section
variable {w : World} {A : Around} {E : Value → Shared → Prop} {s₀ : Shared} {B Hb : Heap} {L : Addr} {m : Str → Option Value} {U : List (Addr × Cell)} {h h₂ : Heap} {k k₂ : Nat} {env : Env} {outer : List Env}
theorem noted_new {A' : Around} {e : Addr} {cls : String} {Q : Unit → Shared → Prop} (hfr : A'.frames = some (env :: outer)) (hk : env.scope.kind = .function) (hf : env.frame = some env.locals)
    (S : St B env.locals m U h) (kb : Kp Hb B) (ff : B.FunFrames Hb outer) (hx : Heap.NewExc h h₂ e cls)
    (hQ : ∀ h₃ a0, Heap.HeldW Hb (env :: outer) e (.type cls) a0 env.locals h₃ → B.UpToSlots h₃ → Q () (Sh s₀ h₃ k₂)) :
    wpAny (model PW w) A' (noteFrame (.ref e) env) Q E (Sh s₀ h₂ k₂) := by
  obtain ⟨ob, t, he, hc, hd⟩ := hx.there
  have K : Kp B h₂ := S.keep.trans hx.keeps
  have F2 : h₂.FunFrames Hb (env :: outer) := Heap.FunFrames.cons (by rw [hk]; decide) hf (S.ns.keeps hx.keeps) (kb.none S.nl) (ff.of_keeps fun b o e _ => ⟨o, K _ _ e, rfl⟩)
  have hen : Hb.get? e = none := (kb.trans S.keep).none hx.new
  unfold noteFrame
  simp only [hf]
  refine wpAny_bind (wpAny_field (s := Sh s₀ h₂ k₂) he hd (x := .none) rfl ?_)
  rw [if_neg (by decide)]
  refine wpAny_entryW (s := Sh s₀ h₂ k₂) (base := Hb) (a0 := t) hfr F2 hf he (kb.trans K) hen hd (by simp) rfl fun h₃ hN => ?_
  obtain ⟨k1, k2, k3, k4⟩ := hN
  rw [hc] at k3
  exact hQ h₃ t ⟨k1, hen, k2, k3⟩ ((Heap.UpToSlots.of_keeps K).trans k4)
theorem flight_held {A' : Around} {e : Addr} {cls a0 : Value} {l : List Env} {Q : Unit → Shared → Prop} (hf : env.frame = some L) (hh : Heap.HeldW Hb l e cls a0 L h)
    (hQ : ∀ h₃, Heap.HeldW Hb l e cls a0 L h₃ → h.UpToSlots h₃ → Q () (Sh s₀ h₃ k)) :
    wpAny (model PW w) A' (setFlight (.ref e) env.frame) Q E (Sh s₀ h k) := by
  obtain ⟨f1, f2, f3, oe, vs, T, oT, ts, he, hcls, hd, h1, hnT, hTe, hT, hdT, h3⟩ := hh
  have hsz3 : 3 < ts.size := (Array.getElem?_eq_some_iff.mp h3).1
  rw [hf]
  unfold setFlight
  refine wpAny_bind (wpAny_field (s := Sh s₀ h k) he hd h1 ?_)
  rw [if_pos (show (Value.ref T != Value.none) = true from by simp)]
  have other : ∀ b, b ≠ T → (h.update T (Obj.mapFields (·.setIfInBounds 3 ((some L : Option Addr).elim Value.none fun f => rawInt f)))).get? b = h.get? b :=
    fun b hb => Heap.get?_update_other _ _ (Ne.symm hb)
  have noRecord : ∀ b o, h.get? b = some o → (∀ vs, o.data ≠ .fields vs) → b ≠ T := fun b o hb hnf q => by
    rw [q, hT] at hb; injection hb with hb; subst hb; exact hnf ts hdT
  refine wpAny_setField (s := Sh s₀ h k) hT hdT hsz3 (hQ _ ⟨fun b o hbo => (other b fun q => by rw [q, hnT] at hbo; cases hbo).trans (f1 b o hbo), f2,
    f3.of_keeps fun b o hb hnf => ⟨o, (other b (noRecord b o hb hnf)).trans hb, rfl⟩, ?_⟩ fun b o hb hn => ⟨o.slots, (other b (noRecord b o hb hn)).trans hb⟩)
  exact ⟨oe, vs, T, _, _, (other e (Ne.symm hTe)).trans he, hcls, hd, h1, hnT, hTe, Heap.get?_update_self _ hT (Obj.isFreed_of_fields (Obj.data_mapFields hdT _)), Obj.data_mapFields hdT _, by simp [hsz3]⟩
theorem leaves_held {A' : Around} {e : Addr} {cls a0 : Value} {Q : Unit → Shared → Prop} (hf : env.frame = some L) (hh : Heap.HeldW Hb (env :: outer) e cls a0 L h)
    (hQ : ∀ h₃, Heap.FlyingW Hb outer e cls a0 h₃ → h.UpToSlots h₃ → Q () (Sh s₀ h₃ k)) : wpAny (model PW w) A' (leaving env (.ref e)) Q E (Sh s₀ h k) := by
  unfold leaving
  refine wpAny_bind (wpAny_noteFrame_againW (s := Sh s₀ h k) hf hh.2.2.2 ?_)
  refine wpAny_landsW (s := Sh s₀ h k) hh fun h' hfl hu => ?_
  obtain ⟨k1, k2, ⟨_, _, k3⟩, k4⟩ := hfl
  exact hQ h' ⟨k1, k2, k3, k4⟩ hu
theorem HeldW_tb {l : List Env} {e : Addr} {cls a0 : Value} (hh : Heap.HeldW Hb l e cls a0 L h) : ∃ oe vs T, h.get? e = some oe ∧ oe.data = .fields vs ∧ vs[1]? = some (.ref T) := by
  obtain ⟨f1, f2, f3, oe, vs, T, oT, ts, he, hcls, hd, h1, _⟩ := hh
  exact ⟨oe, vs, T, he, hd, h1⟩
theorem flyLoop {e : Addr} {cls : String} {Q : Flow → Shared → Prop} (F : Fly Hb A outer B) (hk : env.scope.kind = .function) (hf : env.frame = some env.locals)
    (S : St B env.locals m U h) (hx : Heap.NewExc h h₂ e cls)
    (hE : ∀ h₃, Flew Hb outer B cls e h₃ → E (.ref e) (Sh s₀ h₃ k₂)) :
    EE w (A.deeper env) env (fun r s' => match r with | .ok f => Q f s' | .error e => cameBackBy (model PW w) (A.deeper env) env (outE w A env E) e s') (.ref e) (Sh s₀ h₂ k₂) := by
  refine noted_new (Around.frames_deeper F.stack) hk hf S F.kb F.ff hx fun h₃ a0 hh u₃ => ?_
  show cameBackBy (model PW w) (A.deeper env) env (outE w A env E) (.ref e) (Sh s₀ h₃ k₂)
  obtain ⟨oe, vs, T, he, hd, h1⟩ := HeldW_tb hh
  unfold cameBackBy
  refine wpAny_bind (wpAny_field (s := Sh s₀ h₃ k₂) he hd h1 ?_)
  rw [if_neg (show ¬ ((Value.ref T == Value.none) = true) from Bool.false_ne_true)]
  refine flight_held hf hh fun h₄ hh₄ u₄ => ?_
  exact leaves_held hf hh₄ fun h₅ hfl u₅ => hE h₅ ⟨⟨a0, hfl⟩, (u₃.trans u₄).trans u₅⟩
theorem flyOut {e : Addr} {cls : String} (F : Fly Hb A outer B) (hk : env.scope.kind = .function) (hf : env.frame = some env.locals)
    (S : St B env.locals m U h) (hx : Heap.NewExc h h₂ e cls)
    (hE : ∀ h₃, Flew Hb outer B cls e h₃ → E (.ref e) (Sh s₀ h₃ k₂)) : outE w A env E (.ref e) (Sh s₀ h₂ k₂) := by
  show wpAny (model PW w) (A.deeper env) (leaving env (.ref e)) _ _ _
  unfold leaving
  refine wpAny_bind (noted_new (Around.frames_deeper F.stack) hk hf S F.kb F.ff hx fun h₃ a0 hh u₃ => ?_)
  refine wpAny_landsW (s := Sh s₀ h₃ k₂) hh fun h' hfl hu => ?_
  obtain ⟨k1, k2, ⟨_, _, k3⟩, k4⟩ := hfl
  exact hE h' ⟨⟨a0, k1, k2, k3, k4⟩, u₃.trans hu⟩
end
noncomputable def dV (l : List (Str × Str × Tok)) : List (Str × Value) := l.map fun p => (p.1, .str p.2.1 p.2.2)
noncomputable def putS (ps : List (Str × Str)) (k v : Str) : List (Str × Str) := if ps.any (fun p => p.1 = k) then ps.map (fun p => if p.1 = k then (p.1, v) else p) else ps ++ [(k, v)]
noncomputable def putT (l : List (Str × Str × Tok)) (k v : Str) (t : Tok) : List (Str × Str × Tok) := if l.any (fun p => p.1 = k) then l.map (fun p => if p.1 = k then (p.1, v, t) else p) else l ++ [(k, v, t)]
noncomputable def dstr (w : World) (ps : List (Str × Str)) : Cell := fun o => ∃ l, l.map (fun p => (p.1, p.2.1)) = ps ∧ o.IsDictOf (strKind PW w) (dV l)
theorem stored_dV (l : List (Str × Str × Tok)) (k v : Str) (t : Tok) : stored (dV l) k (.str v t) = dV (putT l k v t) := by
  unfold stored dV putT
  have e : (l.map fun p => (p.1, Value.str p.2.1 p.2.2)).any (fun kv => kv.1 = k) = l.any (fun p => p.1 = k) := by rw [List.any_map]; rfl
  rw [e]
  split
  · rw [List.map_map, List.map_map]
    apply List.map_congr_left
    intro p _
    by_cases h : p.1 = k <;> simp [h]
  · simp
theorem putT_putS (l : List (Str × Str × Tok)) (k v : Str) (t : Tok) : (putT l k v t).map (fun p => (p.1, p.2.1)) = putS (l.map fun p => (p.1, p.2.1)) k v := by
  unfold putT putS
  have e : (l.map fun p => (p.1, p.2.1)).any (fun kv => kv.1 = k) = l.any (fun p => p.1 = k) := by rw [List.any_map]; rfl
  rw [e]
  split
  · rw [List.map_map, List.map_map]
    apply List.map_congr_left
    intro p _
    by_cases h : p.1 = k <;> simp [h]
  · simp
theorem putS_len (ps : List (Str × Str)) (k v : Str) : (putS ps k v).length ≤ ps.length + 1 := by
  unfold putS; split <;> simp
section
variable {w : World} {A : Around} {E : Value → Shared → Prop} {s₀ : Shared} {B : Heap} {L : Addr} {m : Str → Option Value} {U U₁ U₂ : List (Addr × Cell)} {h : Heap} {k : Nat} {env : Env}
theorem St.dict {d : Addr} {ps : List (Str × Str)} (S : St B L m U h) (hm : (d, dstr w ps) ∈ U) : ∃ l, l.map (fun p => (p.1, p.2.1)) = ps ∧ h.DictOf (strKind PW w) d (dV l) := by
  obtain ⟨o, e, l, hl, hd⟩ := S.get hm
  exact ⟨l, hl, Heap.dictOf_iff.mpr ⟨o, e, hd⟩⟩
theorem setD {d : Addr} {ps : List (Str × Str)} {x v : Str} {t u : Tok} {Q : Unit → Shared → Prop} (S : St B L m (U₁ ++ (d, dstr w ps) :: U₂) h) (hn : ps.length ≤ 100000)
    (hQ : ∀ h' k', St B L m (U₁ ++ (d, dstr w (putS ps x v)) :: U₂) h' → Q () (Sh s₀ h' k')) : wpAny (model PW w) A (setItem (.ref d) (.str x t) (.str v u)) Q E (Sh s₀ h k) := by
  obtain ⟨l, rfl, hd⟩ := S.dict (w := w) (d := d) (ps := ps) (by simp)
  have hs := sizeLine_eq
  rw [List.length_map] at hn
  refine wpAny_setItem_pairs (s := Sh s₀ h k) (k := x) (strKind_is PW w x t) hd (fun h' hd' hs' => hQ h' _ ?_) (by simp [dV]; omega)
  obtain ⟨o', e', hd''⟩ := Heap.dictOf_iff.mp hd'
  exact S.upd hs'.extBut e' ⟨putT l x v u, putT_putS l x v u, by rw [← stored_dV]; exact hd''⟩
theorem newD {pos : Pos} {Q : Value → Shared → Prop} (hl : h.NoLimit) (hQ : ∀ o, dstr w [] o → o.isFreed = false → (h.objs.size == sysModules) = false → Q (.ref h.objs.size) (Sh s₀ (h.push o) k)) :
    wpAny (model PW w) A (eval (.Dict [] [] pos) env) Q E (Sh s₀ h k) := by
  have low := PyProof.Rows.modules_low hl
  refine wpAny_Dict_empty (hQ _ ⟨[], rfl, ?_⟩ rfl (beq_eq_false_iff_ne.mpr (Nat.ne_of_gt low)))
  obtain ⟨o, ho, hd⟩ := Heap.dictOf_iff.mp (Heap.DictOf.new (knd := strKind PW w) h)
  rw [Heap.get?_push_size _ rfl] at ho
  exact (Option.some.inj ho) ▸ hd
end
section
variable {w : World} {A : Around} {E : Value → Shared → Prop} {s₀ : Shared} {B : Heap} {L : Addr} {m : Str → Option Value} {U : List (Addr × Cell)} {h : Heap} {k : Nat} {env : Env}
theorem not_iter_list {l : Addr} {items : Array Value} {Q : Bool → Shared → Prop} {s : Shared} (hl : s.heap.IsList l items) (hQ : Q false s) : wpAny (model PW w) A (notIterableAtAll (.ref l)) Q E s := by
  unfold notIterableAtAll
  refine wpAny_bind (wpAny_specialOf hl.typeIs slot_list_iter.lookup ?_)
  exact wpAny_pure hQ
theorem unpack_two {l : Addr} {v u : Value} {Q : List Value → Shared → Prop} (hh : A.handled = none) (hl : h.IsList l #[v, u])
    (hQ : ∀ h', Kp h h' → Q [v, u] (Sh s₀ h' k)) : wpAny (model PW w) A (unpackItems (.ref l) 2 none) Q E (Sh s₀ h k) := by
  have hlt : l ≠ h.objs.size := by obtain ⟨o, ho, _⟩ := hl; exact Nat.ne_of_lt (Heap.lt_size ho)
  have kp : ∀ {h₁ h₂ : Heap}, (∀ b o, b ≠ h.objs.size → h₁.get? b = some o → h₂.get? b = some o) → Kp h h₁ → Kp h h₂ := fun x y b o e => x b o (Nat.ne_of_lt (Heap.lt_size e)) (y b o e)
  unfold unpackItems
  refine wpAny_bind (not_iter_list (s := Sh s₀ h k) hl ?_)
  simp only [Bool.false_eq_true, if_false]
  refine wpAny_bind (wpAny_holding (wpAny_pyIter_list (s := Sh s₀ h k) hl ?_))
  have h1 : Kp h (h.push (listIt l)) := Kp.push _ _
  have hit : (h.push (listIt l)).IsListIter h.objs.size l 0 := ⟨_, Heap.get?_push_size _ rfl, rfl, rfl⟩
  refine wpAny_bind (wpAny_holding ?_)
  refine wpAny_bind (wpAny_pyNext_list_item (s := Sh s₀ _ k) hit (hl.push _) (x := v) rfl fun h₂ hit₂ hs₂ => ?_)
  have k₂ := kp hs₂.extBut h1
  have hl₂ : h₂.IsList l #[v, u] := let ⟨o, e, r⟩ := hl; ⟨o, k₂ _ _ e, r⟩
  refine wpAny_bind (wpAny_holding (wpAny_bind (wpAny_pyNext_list_item (s := Sh s₀ h₂ k) hit₂ hl₂ (x := u) rfl fun h₃ hit₃ hs₃ => ?_)))
  have k₃ := kp hs₃.extBut k₂
  have hl₃ : h₃.IsList l #[v, u] := let ⟨o, e, r⟩ := hl; ⟨o, k₃ _ _ e, r⟩
  refine wpAny_bind (wpAny_holding (wpAny_pure (wpAny_pure (wpAny_pure ?_))))
  rw [if_neg (by simp)]
  refine wpAny_bind (wpAny_holding (wpAny_pyNext_list_end (s := Sh s₀ h₃ k) hh hit₃ hl₃ rfl fun h₄ he => ?_))
  simp only [Option.isSome_none, Bool.false_eq_true, if_false]
  exact wpAny_pure (hQ h₄ (kp he k₃))
theorem unpack_few {l : Addr} {v : Value} {Q : List Value → Shared → Prop} (hh : A.handled = none) (hl : h.IsList l #[v])
    (hE : ∀ h₁ h' k' e, Kp h h₁ → Heap.NewExc h₁ h' e "ValueError" → E (.ref e) (Sh s₀ h' k')) : wpAny (model PW w) A (unpackItems (.ref l) 2 none) Q E (Sh s₀ h k) := by
  have hlt : l ≠ h.objs.size := by obtain ⟨o, ho, _⟩ := hl; exact Nat.ne_of_lt (Heap.lt_size ho)
  have kp : ∀ {h₁ h₂ : Heap}, (∀ b o, b ≠ h.objs.size → h₁.get? b = some o → h₂.get? b = some o) → Kp h h₁ → Kp h h₂ := fun x y b o e => x b o (Nat.ne_of_lt (Heap.lt_size e)) (y b o e)
  unfold unpackItems
  refine wpAny_bind (not_iter_list (s := Sh s₀ h k) hl ?_)
  simp only [Bool.false_eq_true, if_false]
  refine wpAny_bind (wpAny_holding (wpAny_pyIter_list (s := Sh s₀ h k) hl ?_))
  have h1 : Kp h (h.push (listIt l)) := Kp.push _ _
  have hit : (h.push (listIt l)).IsListIter h.objs.size l 0 := ⟨_, Heap.get?_push_size _ rfl, rfl, rfl⟩
  refine wpAny_bind (wpAny_holding ?_)
  refine wpAny_bind (wpAny_pyNext_list_item (s := Sh s₀ _ k) hit (hl.push _) (x := v) rfl fun h₂ hit₂ hs₂ => ?_)
  have k₂ := kp hs₂.extBut h1
  have hl₂ : h₂.IsList l #[v] := let ⟨o, e, r⟩ := hl; ⟨o, k₂ _ _ e, r⟩
  refine wpAny_bind (wpAny_holding (wpAny_bind (wpAny_pyNext_list_end (s := Sh s₀ h₂ k) hh hit₂ hl₂ rfl fun h₃ he => ?_)))
  have k₃ := kp he k₂
  refine wpAny_pure (wpAny_pure ?_)
  rw [if_pos (by simp)]
  refine wpAny_bind (wpAny_rule ?_)
  refine wpAny_bind (wpAny_raiseErrorMade plainExc_ValueError hh ?_ (hm := ?_))
  · exact fun h' tk e hx => hE h₃ h' tk e k₃ hx
  · simp only [List.length_cons, List.length_nil]
    rw [sizeLine_eq]
    decide +kernel
end
end Mine
end
section
open PySem PySem.W PySem.Calls
open Builtin Builtin.Str
namespace Mine
noncomputable def keqvV (v : Str) : Str := if Txt.item v 0 == qt && Txt.item v (-1) == qt then Txt.slice v (some 1) (some (-1)) else v
noncomputable def keqvRun : List Str → List (Str × Str) → Except Bool (List (Str × Str))
  | [], acc => .ok acc
  | x :: r, acc => match cutEq x with
    | none => .error true
    | some p => if p.2.length = 0 then .error false else keqvRun r (putS acc p.1 (keqvV p.2))
theorem cutEq_len {x : Str} {p : Str × Str} (h : cutEq x = some p) : p.1.length ≤ x.length ∧ p.2.length ≤ x.length := by
  unfold cutEq at h
  split at h
  · cases h; exact ⟨strSub_length_le .., strSub_length_le ..⟩
  · cases h
section
variable {w : World} {A : Around} {E : Value → Shared → Prop} {s₀ : Shared} {B Hb : Heap} {L : Addr} {m : Str → Option Value} {U : List (Addr × Cell)} {h : Heap} {k : Nat} {env : Env} {outer : List Env}
inductive IxSPre (s₀ : Shared) (Q : Value → Shared → Prop) (E : Value → Shared → Prop) (o i : Value) (s₂ : Shared) : Prop
  | mk (x : Str) (t : Tok) (j : Int) (u : Tok) (h₂ : Heap) (k₂ : Nat) (e1 : o = .str x t) (e2 : i = .int j u) (e3 : s₂ = Sh s₀ h₂ k₂) (hf : fitsSsize j = true)
      (no : (j < -(x.length : Int) ∨ (x.length : Int) ≤ j) → ∀ h' tk e, Heap.NewExc h₂ h' e "IndexError" → E (.ref e) (Sh s₀ h' tk))
      (yes : -(x.length : Int) ≤ j → j < x.length → ∀ t', Q (.str (Txt.item x j) t') (Sh s₀ h₂ (k₂ + 1)))
theorem ixS {value slice : Expr} {pos : Pos} {Q : Value → Shared → Prop} (hh : A.handled = none)
    (hv : wpAny (model PW w) A (eval value env) (fun o s₁ => wpAny (model PW w) A (eval slice env) (IxSPre s₀ Q E o) E s₁) E (Sh s₀ h k))
    (hs : ∀ x t j u, subscripted slice false (.str x t) (.int j u) = operate [.str x t, .int j u] (getItem (.str x t) (.int j u)) := by intros; with_unfolding_all rfl)
    (hg : ∀ x t r, letTemporaryGo value (.str x t) r = pure () := by intros; with_unfolding_all rfl) :
    wpAny (model PW w) A (eval (.Subscript value slice pos) env) Q E (Sh s₀ h k) := by
  refine PyProof.Rows.Subscript_ (wpAny_mono hv (fun o s₁ q => wpAny_mono q (fun i s₂ q => ?_) fun _ _ e => e) fun _ _ e => e)
  obtain ⟨x, t, j, u, h₂, k₂, rfl, rfl, rfl, hf, h0, h1⟩ := q
  exact PyProof.Rows.item_str_or (s := Sh s₀ h₂ k₂) hh hf h0 (fun a b => h1 a b _) (hs x t j u) (hg x t)
inductive KInv (w : World) (B : Heap) (D : Addr) (xs : List Str) (i : Nat) (B' : Heap) (m' : Locs) (U' : Own) : Prop
  | mk (acc : List (Str × Str)) (kB : Kp B B') (v1 : m' "parsed" = some (.ref D)) (hU : U' = [(D, dstr w acc)]) (e : keqvRun xs [] = keqvRun (xs.drop i) acc) (hl : acc.length ≤ i)
theorem keqv_body {Q : Flow → Shared → Prop} {a : Addr} {o : Obj} {xs : List Str} (S : St B env.locals m U h) (T : Top0 B) (hA : AOk 3 A) (Fl : Fly Hb A outer B) (ok : EOk env) (hf : env.frame = some env.locals) (hv : m "l" = some (.ref a)) (ha : B.get? a = some o) (ho : txts xs o) (hn : xs.length ≤ 1000) (hsz : ∀ x ∈ xs, x.length ≤ 1000)
   (l1 : env.kindOf "l" = some .local) (l2 : env.kindOf "parsed" = some .local) (l3 : env.kindOf "elt" = some .local) (l4 : env.kindOf "k" = some .local) (l5 : env.kindOf "v" = some .local)
   (hQ : ∀ h' k' d ps m', keqvRun xs [] = .ok ps → (d == sysModules) = false → ps.length ≤ 1000 → St B env.locals m' ((d, dstr w ps) :: U) h' → Q (.ret (.ref d)) (Sh s₀ h' k'))
   (hE : ∀ cls e h' k', (keqvRun xs [] = .error true ∧ cls = "ValueError" ∨ keqvRun xs [] = .error false ∧ cls = "IndexError") → Flew Hb outer B cls e h' → E (.ref e) (Sh s₀ h' k')) :
   Runs w (A.deeper env) (execs (dBody (stmtAt 8)) env) Q (outE w A env E) (Sh s₀ h k) := by
  refine ⟨?_⟩
  have hk := ok.kind
  have hh : (A.deeper env).handled = none := hA.handled
  have hs : sizeLine = 16777216 := sizeLine_eq
  refine wpAny_execs_cons ?_
  refine wpAny_Expr_any (c_str ?_) (interactive_no ok) (by rfl)
  refine wpAny_execs_cons (wpAny_Assign_Name ?_)
  refine newD (w := w) (T.keeps S.keep).nolimit fun o₁ hd₁ hf₁ hlo => ?_
  have S₁ := S.alloc o₁ (c := dstr w []) hd₁ hf₁
  generalize hD : h.objs.size = D at S₁ hlo ⊢
  refine stn S₁ hk l2 fun h₂ k₂ S₂ => ?_
  refine wpAny_execs_cons ?_
  refine forListE (s₀ := s₀) hh (.inl fun _ _ => rfl) ?_
  obtain ⟨l, nl, rfl, rfl⟩ := ho
  have hlen : (strValues l).length = l.length := by simp [strValues]
  rw [List.length_map] at hn
  refine nm S₂ hk l1 hv ⟨a, strValues l, _, nl, B, _, [(D, dstr w [])], U, h₂, _, KInv w B D (l.map (·.1)),
    rfl, rfl, S₂, ha, rfl, rfl, ⟨[], Kp.refl _, rfl, rfl, rfl, Nat.le_refl _⟩, ?_, ?_⟩
  · intro _ rfl i v B' m' U' V' h₃ k₃ hP hinv hB S₃ hk₃ _
    obtain ⟨acc, _, e1, rfl, e2, e3⟩ := hinv
    obtain ⟨y, t, rfl, hy⟩ := strVal_get hP
    have hil : i < l.length := by
      have := (List.getElem?_eq_some_iff.mp hy).1
      simpa using this
    have hyl : y.length ≤ 1000 := hsz y (List.mem_of_getElem? hy)
    have hdrop : (l.map (·.1)).drop i = y :: (l.map (·.1)).drop (i + 1) := by
      obtain ⟨hlt, e⟩ := List.getElem?_eq_some_iff.mp hy
      rw [List.drop_eq_getElem_cons hlt, e]
    refine wpAny_assign_Name (stn S₃ hk l3 fun h₄ k₄ S₄ => ?_)
    refine wpAny_execs_cons (PyProof.Rows.Assign_Tuple ?_)
    refine smeth F.slot_str_split F.type_str_split (nm (v := .str y t) S₄ hk l3 rfl ⟨⟨_, _, rfl⟩, arg2 (c_str (c_int fun _ => ?_))⟩)
    refine splitEq_s (by omega) fun o₅ k₅ ho₅ hf₅ _ => ?_
    have S₅ := S₄.alloc o₅ (c := its o₅) rfl hf₅
    obtain ⟨B₆, o', kB₆, e₆, co, S₆⟩ := S₅.give0
    cases co
    have F₆ : Fly Hb A outer B₆ := (Fl.keeps hB).keeps kB₆
    rw [arm_assign_Tuple]
    refine wpAny_bind (wpAny_standAt ?_)
    unfold unpack
    obtain ⟨l₅, n₅, el₅, eo₅⟩ := ho₅
    have hcut : keqvRun (l.map (·.1)) [] = match cutEq y with
        | none => .error true
        | some p => if p.2.length = 0 then .error false else keqvRun ((l.map (·.1)).drop (i + 1)) (putS acc p.1 (keqvV p.2)) := by
      rw [e2, hdrop]; rfl
    cases hc : cutEq y with
    | none =>
      rw [hc] at hcut
      have : l₅.map (·.1) = [y] := by rw [el₅]; unfold splitEq; rw [hc]
      obtain ⟨⟨y', t'⟩, hl₅, rfl⟩ : ∃ p, l₅ = [p] ∧ p.1 = y := by
        cases l₅ with
        | nil => simp at this
        | cons p r =>
          simp only [List.map_cons, List.cons.injEq, List.map_eq_nil_iff] at this
          exact ⟨p, by rw [this.2], this.1⟩
      subst hl₅
      refine wpAny_bind (wpAny_holding ?_)
      refine unpack_few hh ⟨_, S₆.old e₆, by rw [eo₅], n₅, by rw [eo₅]; rfl⟩ fun h₇ h₈ k₈ e K₇ hx => ?_
      exact flyLoop F₆ hk hf (S₆.mono K₇) hx fun h₉ hfl => hE "ValueError" e h₉ _ (.inl ⟨hcut, rfl⟩) ⟨hfl.1, (Heap.UpToSlots.of_keeps (hB.trans kB₆)).trans hfl.2⟩
    | some p =>
      rw [hc] at hcut
      dsimp only at hcut
      obtain ⟨pl1, pl2⟩ := cutEq_len hc
      have : l₅.map (·.1) = [p.1, p.2] := by rw [el₅]; unfold splitEq; rw [hc]
      obtain ⟨q1, q2, hl₅, hq1, hq2⟩ : ∃ q1 q2, l₅ = [q1, q2] ∧ q1.1 = p.1 ∧ q2.1 = p.2 := by
        obtain ⟨a, r, rfl, ha, hr⟩ := List.map_eq_cons_iff.mp this
        obtain ⟨b, r', rfl, hb, hr'⟩ := List.map_eq_cons_iff.mp hr
        rw [List.map_eq_nil_iff] at hr'
        exact ⟨a, b, by rw [hr'], ha, hb⟩
      subst hl₅
      refine wpAny_bind (wpAny_holding ?_)
      refine unpack_two hh (v := .str q1.1 q1.2) (u := .str q2.1 q2.2) ⟨_, S₆.old e₆, by rw [eo₅], n₅, by rw [eo₅]; rfl⟩ fun h₇ K₇ => ?_
      rw [hq1, hq2]
      have S₇ := S₆.mono K₇
      refine wpAny_assignInOrder_more (wpAny_assign_Name (stn S₇ hk l4 fun h₈ k₈ S₈ => ?_))
      refine wpAny_assignInOrder_more (wpAny_assign_Name (stn S₈ hk l5 fun h₉ k₉ S₉ => ?_))
      refine wpAny_assignInOrder_none ?_
      refine wpAny_execs_cons (wpAny_If ?_)
      have rest : ∀ (p1 p2 p3 p4 p5 : Pos) (R : Flow → Shared → Prop) v h₉ k₉ t m₉, v = keqvV p.2 → p.2.length ≠ 0 → St B₆ env.locals m₉ ((D, dstr w acc) :: V') h₉ → m₉ "parsed" = some (.ref D) → m₉ "k" = some (.str p.1 q1.2) → m₉ "v" = some (.str v t) →
          (∀ s₃, Nx s₀ env.locals V' B' (KInv w B D (l.map (·.1)) (i + 1)) s₃ → R .next s₃) →
          ∀ E', wpAny (model PW w) (A.deeper env) (exec (.Assign [.Subscript (.Name "parsed" p1) (.Name "k" p2) p3] (.Name "v" p4) p5) env) R E' (Sh s₀ h₉ k₉) := by
        intro p1 p2 p3 p4 p5 R v h₉ k₉ t m₉ hv hne S₉ a1 a2 a3 hR E'
        refine wpAny_Assign_Subscript ?_
        refine nm S₉ hk l5 a3 (nm S₉ hk l2 a1 (nm S₉ hk l4 a2 ?_))
        refine setD (U₁ := []) S₉ (by omega) fun h₁₀ k₁₀ S₁₀ => ?_
        refine hR _ ⟨B₆, _, [(D, _)], h₁₀, k₁₀, rfl, kB₆, S₁₀, putS acc p.1 v, hB.trans kB₆, a1, rfl, ?_, Nat.le_trans (putS_len ..) (by omega)⟩
        rw [hcut, hv]
        simp [hne]
      have q1v : (Str.ofString "\"").length = 1 := rfl
      refine wpAny_isTrue_BoolOp (wpAny_allTrue_And_cons ?_)
      refine wpAny_isTrue_Compare1 (ixS (s₀ := s₀) hh (nm (v := .str p.2 q2.2) S₉ hk l5 rfl (c_int fun _ => ⟨_, _, _, _, _, _, rfl, rfl, rfl, by decide, ?_, ?_⟩)))
      · intro hout h₁₀ tk e hx
        have hz : p.2.length = 0 := by omega
        rw [if_pos hz] at hcut
        exact flyLoop F₆ hk hf S₉ hx fun h₁₁ hfl => hE "IndexError" e h₁₁ _ (.inr ⟨hcut, rfl⟩) ⟨hfl.1, (Heap.UpToSlots.of_keeps (hB.trans kB₆)).trans hfl.2⟩
      · intro _ hin t₁₀
        have hne : p.2.length ≠ 0 := by omega
        refine c_str (eq_s (truthy_b ?_))
        cases h0 : (Txt.item p.2 0 == qt) with
        | false =>
          have hv0 : p.2 = keqvV p.2 := by unfold keqvV; rw [h0]; rfl
          have h0' : (Txt.item p.2 0 == Str.ofString "\"") = false := h0
          rw [h0']
          refine wpAny_execs_nil ?_
          refine wpAny_execs_cons (rest _ _ _ _ _ _ _ _ _ _ _ hv0 hne S₉ e1 rfl rfl (fun s₃ q => wpAny_execs_nil q) _)
        | true =>
          have h0' : (Txt.item p.2 0 == Str.ofString "\"") = true := h0
          rw [h0']
          refine wpAny_allTrue_And_cons ?_
          refine wpAny_isTrue_Compare1 (ixS (s₀ := s₀) hh (nm (v := .str p.2 q2.2) S₉ hk l5 rfl (c_neg fun _ => ⟨_, _, _, _, _, _, rfl, rfl, rfl, by decide, ?_, ?_⟩)))
          · intro hout
            omega
          · intro _ _ t₁₁
            refine c_str (eq_s (truthy_b ?_))
            cases h1 : (Txt.item p.2 (-1) == qt) with
            | false =>
              have hv0 : p.2 = keqvV p.2 := by unfold keqvV; rw [h0, h1]; rfl
              have h1' : (Txt.item p.2 (-1) == Str.ofString "\"") = false := h1
              rw [h1']
              refine wpAny_execs_nil ?_
              refine wpAny_execs_cons (rest _ _ _ _ _ _ _ _ _ _ _ hv0 hne S₉ e1 rfl rfl (fun s₃ q => wpAny_execs_nil q) _)
            | true =>
              have h1' : (Txt.item p.2 (-1) == Str.ofString "\"") = true := h1
              rw [h1']
              refine wpAny_allTrue_And_nil ?_
              refine wpAny_execs_cons (wpAny_Assign_Name ?_)
              refine sl_s (s₀ := s₀) (nm (v := .str p.2 q2.2) S₉ hk l5 rfl (wpAny_evalPart_some (c_int fun _ => wpAny_evalPart_some (c_neg fun _ => ⟨p.2, q2.2, some (1, _), some (-1, _), _, _, rfl, rfl, rfl, rfl, by omega, fun h₁₂ t₁₂ k₁₂ K₁₂ => ?_⟩))))
              refine stn (S₉.mono K₁₂) hk l5 fun h₁₃ k₁₃ S₁₃ => ?_
              refine wpAny_execs_nil ?_
              have hv0 : Txt.slice p.2 (some 1) (some (-1)) = keqvV p.2 := by unfold keqvV; rw [h0, h1]; rfl
              refine wpAny_execs_cons (rest _ _ _ _ _ _ _ _ _ _ _ hv0 hne S₁₃ e1 rfl rfl (fun s₃ q => wpAny_execs_nil q) _)
  · intro B' m' U' h₃ k₃ hinv hB S₃ hk₃
    obtain ⟨acc, _, e1, rfl, e2, e3⟩ := hinv
    rw [hlen, List.drop_of_length_le (by simp)] at e2
    refine wpAny_execs_cons (wpAny_Return_some (nm (v := .ref D) S₃ hk l2 e1 ?_))
    exact hQ h₃ k₃ D acc m' e2 hlo (by omega) (S₃.weaken hB)
end
end Mine
end
section
open PySem PySem.W PySem.Calls
namespace Mine
inductive All2 {α β : Type} (R : α → β → Prop) : List α → List β → Prop
  | nil : All2 R [] []
  | cons {x : α} {y : β} {xs : List α} {ys : List β} : R x y → All2 R xs ys → All2 R (x :: xs) (y :: ys)
theorem All2.imp {α β : Type} {R S : α → β → Prop} {xs : List α} {ys : List β} (h : All2 R xs ys) (f : ∀ x y, R x y → S x y) : All2 S xs ys := by
  induction h with
  | nil => exact .nil
  | cons a _ ih => exact .cons (f _ _ a) ih
theorem All2.len {α β : Type} {R : α → β → Prop} {xs : List α} {ys : List β} (h : All2 R xs ys) : xs.length = ys.length := by
  induction h with
  | nil => rfl
  | cons _ _ ih => simp [ih]
theorem All2.get {α β : Type} {R : α → β → Prop} {xs : List α} {ys : List β} (h : All2 R xs ys) : ∀ {i : Nat} {x : α}, xs[i]? = some x → ∃ y, ys[i]? = some y ∧ R x y := by
  induction h with
  | nil => intro i x e; simp at e
  | cons a _ ih =>
    intro i x e
    cases i with
    | zero => simp only [List.getElem?_cons_zero, Option.some.injEq] at e; subst e; exact ⟨_, rfl, a⟩
    | succ i => simpa using ih (by simpa using e)
theorem All2.snoc {α β : Type} {R : α → β → Prop} {xs : List α} {ys : List β} {x : α} {y : β} (h : All2 R xs ys) (r : R x y) : All2 R (xs ++ [x]) (ys ++ [y]) := by
  induction h with
  | nil => exact .cons r .nil
  | cons a _ ih => exact .cons a ih
theorem All2.append {α β : Type} {R : α → β → Prop} {xs xs' : List α} {ys ys' : List β} (h : All2 R xs ys) (h' : All2 R xs' ys') : All2 R (xs ++ xs') (ys ++ ys') := by
  induction h with
  | nil => exact h'
  | cons a _ ih => exact .cons a ih
noncomputable def PairsS (h : Heap) (vs : List Value) (ps : List (Str × Str)) : Prop :=
  All2 (fun v p => ∃ a t u, v = .ref a ∧ h.get? a = some { cls := .type "tuple", data := .seq #[.str p.1 t, .str p.2 u] }) vs ps
theorem PairsS.keeps {h h' : Heap} {vs : List Value} {ps : List (Str × Str)} (x : PairsS h vs ps) (k : Kp h h') : PairsS h' vs ps :=
  x.imp fun _ _ ⟨a, t, u, e, g⟩ => ⟨a, t, u, e, k _ _ g⟩
theorem forall₂_of_get {α β : Type} {R : α → β → Prop} : ∀ {xs : List α} {ys : List β}, xs.length = ys.length → (∀ (j : Nat) (x : α) (y : β), xs[j]? = some x → ys[j]? = some y → R x y) → All2 R xs ys
  | [], [], _, _ => .nil
  | x :: xs, y :: ys, hl, h => .cons (h 0 x y rfl rfl) (forall₂_of_get (by simpa using hl) fun j a b ha hb => h (j + 1) a b (by simpa using ha) (by simpa using hb))
  | [], _ :: _, hl, _ => by simp at hl
  | _ :: _, [], hl, _ => by simp at hl
theorem exc_ValueError : isSubtype (.type "ValueError") (.type "BaseException") = pure true := by rw [isSubtype_type]; kernel_rfl
theorem exc_IndexError : isSubtype (.type "IndexError") (.type "BaseException") = pure true := by rw [isSubtype_type]; kernel_rfl
theorem exc_TypeError : isSubtype (.type "TypeError") (.type "BaseException") = pure true := by rw [isSubtype_type]; kernel_rfl
theorem nt_ValueError : isSubtype (.type ((Manifest.find? "ValueError").elim "type" fun x => x.metatype)) (.type "tuple") = pure false := by rw [find?_eq_fast, isSubtype_type]; kernel_rfl
theorem nt_IndexError : isSubtype (.type ((Manifest.find? "IndexError").elim "type" fun x => x.metatype)) (.type "tuple") = pure false := by rw [find?_eq_fast, isSubtype_type]; kernel_rfl
theorem nt_TypeError : isSubtype (.type ((Manifest.find? "TypeError").elim "type" fun x => x.metatype)) (.type "tuple") = pure false := by rw [find?_eq_fast, isSubtype_type]; kernel_rfl
theorem sub_VV : isSubtype (.type "ValueError") (.type "ValueError") = pure true := by rw [isSubtype_type]; kernel_rfl
theorem sub_IV : isSubtype (.type "IndexError") (.type "ValueError") = pure false := by rw [isSubtype_type]; kernel_rfl
theorem sub_II : isSubtype (.type "IndexError") (.type "IndexError") = pure true := by rw [isSubtype_type]; kernel_rfl
theorem sub_TT : isSubtype (.type "TypeError") (.type "TypeError") = pure true := by rw [isSubtype_type]; kernel_rfl
section
variable {w : World} {A : Around} {E : Value → Shared → Prop} {s₀ : Shared} {B Hb : Heap} {L : Addr} {m : Str → Option Value} {U : List (Addr × Cell)} {h : Heap} {k : Nat} {env : Env} {outer : List Env}
theorem keqv_call {Q : Value → Shared → Prop} {a : Addr} {o : Obj} {xs : List Str} (T : Top0 h) (hA : AOk 5 A) (Fl : Fly Hb A outer h) (ha : h.get? a = some o) (ho : txts xs o) (hn : xs.length ≤ 1000) (hsz : ∀ x ∈ xs, x.length ≤ 1000)
    (hQ : ∀ h' k' d ps o, keqvRun xs [] = .ok ps → (d == sysModules) = false → ps.length ≤ 1000 → Kp h h' → h.get? d = none → h'.get? d = some o → dstr w ps o → Q (.ref d) (Sh s₀ h' k'))
    (hE : ∀ cls e h' k', (keqvRun xs [] = .error true ∧ cls = "ValueError" ∨ keqvRun xs [] = .error false ∧ cls = "IndexError") → Flew Hb outer h cls e h' → E (.ref e) (Sh s₀ h' k')) :
    wpAny (model PW w) A (call (.ref 213) [.ref a] []) Q E (Sh s₀ h k) := by
  obtain ⟨⟨t1, d, mt, hf⟩, hcd⟩ := T.keqv
  refine callfd (fd := keqvFd t1 d mt) (body := dBody (stmtAt 8)) (binds := [("l", .ref a)]) hf hcd T.nolimit (by have := hA.depth; omega) rfl rfl rfl (by with_unfolding_all rfl) (show ∀ x ∈ (dScope (stmtAt 8)).names, x.2 ≠ .cell from by decide) (PyProof.Rows.locs (by rfl)) rfl rfl rfl
    fun env h₁ he ok S => ?_
  obtain ⟨key⟩ := keqv_body (Q := retQ Q) (E := E) (s₀ := s₀) (w := w) (k := k + 1) (A := A) S T (hA.le (by omega)) Fl ok (by subst he; rfl) rfl ha ho hn hsz (by subst he; rfl) (by subst he; rfl) (by subst he; rfl) (by subst he; rfl) (by subst he; rfl)
    (fun h' k' d ps m' e1 e2 e3 S' => by
      obtain ⟨⟨o, e, c⟩, _, n⟩ := S'.own _ (.head _)
      exact hQ h' k' d ps o e1 e2 e3 S'.keep n e c) hE
  assumption
theorem items_list {d : Addr} {ps : List (Str × Str)} {o : Obj} {Q : Value → Shared → Prop} (hh : A.handled = none) (hd : h.get? d = some o) (ho : dstr w ps o) (hlo : (d == sysModules) = false) (hn : ps.length ≤ 100000)
    (hQ : ∀ v h₁, Kp h h₁ → h₁.IsItemsView v d → (∀ Q' : Value → Shared → Prop, ∀ E' k', (∀ h' k'' a o vs n, Kp h₁ h' → h₁.get? a = none → h'.get? a = some o → o = { cls := .type "list", data := .seq vs.toArray n } → PairsS h' vs ps → vs.length ≤ 100000 → Q' (.ref a) (Sh s₀ h' k'')) →
      wpAny (model PW w) A (call (.type "list") [.ref v]) Q' E' (Sh s₀ h₁ k')) → Q (.ref v) (Sh s₀ h₁ k)) :
    wpAny (model PW w) A (call (.builtin "dict.items") [.ref d]) Q E (Sh s₀ h k) := by
  obtain ⟨l, rfl, hdo⟩ := ho
  have hs := sizeLine_eq
  rw [List.length_map] at hn
  have hD : h.DictOf (strKind PW w) d (dV l) := Heap.dictOf_iff.mpr ⟨o, hd, hdo⟩
  refine call_meetsIn (s := Sh s₀ h k) F.slot_dict_items hD.typeIs F.entry_dict_items (F.args_dict_items_1 _) (meets_dict_items (strKind PW w) d hlo) ⟨⟨_, hD⟩, ?_⟩
  have K : Kp h (h.push { cls := .type "dict_items", data := .fields #[.ref d] }) := Kp.push _ _
  refine hQ _ _ K ⟨_, Heap.get?_push_size _ rfl, rfl, rfl⟩ fun Q' E' k' hQ' => ?_
  obtain ⟨ep, hat⟩ := (hD.keep K).dictAt
  have hlen : (dV l).length = l.length := by simp [dV]
  refine kdx_call (s := Sh s₀ _ k') (knd := strKind PW w) (kvs := dV l) (ep := ep) hh ⟨_, Heap.get?_push_size _ rfl, rfl, rfl⟩ hat (by omega) fun h' tk acc c as hk ha hl hG hacc => ?_
  refine hQ' h' tk _ _ (as.map Value.ref) c hk (get_none_of_ge (Nat.le_refl _)) ha (by rw [← hacc]) ?_ (by simp; omega)
  refine forall₂_of_get (by simp; omega) fun j v p hv hp => ?_
  simp only [List.getElem?_map, Option.map_eq_some_iff] at hv hp
  obtain ⟨a, haj, rfl⟩ := hv
  obtain ⟨q, hq, rfl⟩ := hp
  obtain ⟨key, kk, x, e1, e2, e3⟩ := hG.pairs j a haj
  simp only [dV, List.getElem?_map, hq, Option.map_some, Option.some.injEq, Prod.mk.injEq] at e1
  obtain ⟨rfl, rfl⟩ := e1
  obtain ⟨t, rfl⟩ := Value.isStrOf_shape e2
  exact ⟨a, t, q.2.2, rfl, e3⟩
end
section
variable {w : World} {A : Around} {E : Value → Shared → Prop} {s₀ : Shared} {B Hb : Heap} {L : Addr} {m : Str → Option Value} {U : List (Addr × Cell)} {h : Heap} {k : Nat} {env : Env} {outer : List Env}
theorem dictT_of {d : Addr} {ps : List (Str × Str)} {o : Obj} (hd : h.get? d = some o) (ho : dstr w ps o) : (Sh s₀ h k).TypeIs (.ref d) "dict" ∧ o.dict = none := by
  obtain ⟨l, rfl, es, ep, he, r⟩ := ho
  exact ⟨⟨o, hd, he.1⟩, he.2.1⟩
noncomputable def Kq (Hb h h' : Heap) : Prop := Kp Hb h' ∧ h.UpToSlots h'
theorem Kp.q {Hb h h' : Heap} (k : Kp h h') (kb : Kp Hb h) : Kq Hb h h' := ⟨kb.trans k, Heap.UpToSlots.of_keeps k⟩
theorem dict_body {Q : Flow → Shared → Prop} {a : Addr} {o : Obj} {xs : List Str} (S : St B env.locals m [] h) (T : Top0 Hb) (hA : AOk 8 A) (Fl : Fly Hb A outer B) (ok : EOk env) (hf : env.frame = some env.locals) (hv : m "items" = some (.ref a)) (ha : B.get? a = some o) (ho : txts xs o) (hn : xs.length ≤ 1000) (hsz : ∀ x ∈ xs, x.length ≤ 1000)
   (l1 : env.kindOf "items" = some .local) (g1 : env.kindOf "parse_keqv_list" = some .globalImplicit) (g2 : env.kindOf "list" = some .globalImplicit) (g3 : env.kindOf "ValueError" = some .globalImplicit) (g4 : env.kindOf "IndexError" = some .globalImplicit)
   (hQ : ∀ h' k' d ps vs o n, keqvRun xs [] = .ok ps → ps.length ≤ 1000 → Kp B h' → B.get? d = none → h'.get? d = some o → o = { cls := .type "list", data := .seq vs.toArray n } → PairsS h' vs ps → Q (.ret (.ref d)) (Sh s₀ h' k'))
   (hQ2 : ∀ b h' k' t, keqvRun xs [] = .error b → Kq Hb B h' → Q (.ret (.str (if b then Str.ofString "no sign" else Str.ofString "no value") t)) (Sh s₀ h' k')) :
   Runs w (A.deeper env) (execs (dBody (stmtAt 19)) env) Q E (Sh s₀ h k) := by
  refine ⟨?_⟩
  have hk := ok.kind
  have hh : (A.deeper env).handled = none := hA.handled
  have Th : Top0 h := (T.keeps Fl.kb).keeps S.keep
  refine wpAny_execs_cons ?_
  refine wpAny_Try_except ?_
  refine wpAny_execs_cons (wpAny_Return_some ?_)
  refine callT (id := "list") Th ok g2 (by decide) (arg1 ?_)
  have A7 : AOk 7 (A.deeper env) := hA.deeper
  have F1 : Fly Hb (A.deeper env) (env :: outer) h :=
    ⟨Around.frames_deeper Fl.stack, Fl.kb.trans S.keep, Heap.FunFrames.cons (by rw [hk]; decide) hf S.ns (Fl.kb.none S.nl) (Fl.ff.of_keeps fun b o e _ => ⟨o, S.keep _ _ e, rfl⟩)⟩
  refine meth F.plainAttrs_dict F.slot_dict_items F.type_dict_items (callN (fd := _) Th ok g1 (by decide) (arg1 (nm S hk l1 hv ⟨Th.keqv.1.choose_spec.choose_spec.choose_spec, ?_⟩)))
  refine keqv_call Th (A7.le (by omega)) F1 (S.old ha) ho hn hsz (fun h₂ k₂ d ps o₂ e1 e2 e3 K₂ hnew hd ho₂ => ?_) (fun cls e h₂ k₂ hc hfl => ?_)
  · obtain ⟨t1, t2⟩ := dictT_of (s₀ := s₀) (k := k₂) hd ho₂
    refine ⟨t1, fun b e => by cases e; exact ⟨_, hd, t2⟩, arg0 ?_⟩
    refine items_list hh hd ho₂ e2 (by omega) fun v h₃ K₃ hiv hcall => ?_
    refine hcall _ _ _ fun h₄ k₄ a₄ o₄ vs n K₄ hnew₄ ha₄ ho₄ hp hl => ?_
    exact hQ h₄ k₄ a₄ ps vs o₄ n e1 e3 (((S.keep.trans K₂).trans K₃).trans K₄) (((S.keep.trans K₂).trans K₃).none hnew₄) ha₄ ho₄ hp
  · obtain ⟨⟨a0, hfw⟩, hu⟩ := hfl
    refine wpAny_looks_onW (s := Sh s₀ h₂ k₂) (Around.frames_deeper Fl.stack) hf hfw fun h₃ hh₃ u₃ => ?_
    refine wpAny_landsW (s := Sh s₀ h₃ k₂) hh₃ fun h₄ hf₄ u₄ => ?_
    have T₄ : Top0 h₄ := T.keeps hf₄.1
    obtain ⟨oe, he, hce⟩ := hf₄.there
    have uB : B.UpToSlots h₄ := (Heap.UpToSlots.of_keeps S.keep).trans ((hu.trans u₃).trans u₄)
    rcases hc with ⟨hr, rfl⟩ | ⟨hr, rfl⟩
    · refine wpAny_handleBy_builtin (X := "ValueError") (T := "ValueError") (b := true) exc_ValueError nt_ValueError sub_VV ?_
      refine nbl (s₀ := s₀) T₄ ok g3 (by decide) ⟨rfl, ⟨oe, he, hce⟩, ?_⟩
      rw [if_pos rfl]
      refine PyProof.Rows.lands_againW (s := Sh s₀ h₄ k₂) hf₄ fun h₅ hf₅ u₅ => ?_
      refine wpAny_execs_cons (wpAny_Return_some (c_str ?_))
      exact hQ2 true h₅ _ _ hr ⟨hf₅.1, uB.trans u₅⟩
    · refine wpAny_handleBy_builtin (X := "IndexError") (T := "ValueError") (b := false) exc_ValueError nt_ValueError sub_IV ?_
      refine nbl (s₀ := s₀) T₄ ok g3 (by decide) ⟨rfl, ⟨oe, he, hce⟩, ?_⟩
      rw [if_neg (by decide)]
      refine wpAny_handleBy_builtin (X := "IndexError") (T := "IndexError") (b := true) exc_IndexError nt_IndexError sub_II ?_
      refine nbl (s₀ := s₀) T₄ ok g4 (by decide) ⟨rfl, ⟨oe, he, hce⟩, ?_⟩
      rw [if_pos rfl]
      refine PyProof.Rows.lands_againW (s := Sh s₀ h₄ k₂) hf₄ fun h₅ hf₅ u₅ => ?_
      refine wpAny_execs_cons (wpAny_Return_some (c_str ?_))
      exact hQ2 false h₅ _ _ hr ⟨hf₅.1, uB.trans u₅⟩
end
section
variable {w : World} {A : Around} {E : Value → Shared → Prop} {s₀ : Shared} {B : Heap} {m : Str → Option Value} {U : List (Addr × Cell)} {h : Heap} {k : Nat} {env : Env}
noncomputable def lawOff (x : Str) : Str := if (Txt.slice x none (some 1) ++ Txt.slice x (some (-1)) none == Str.ofString "\"\"") then Txt.slice x (some 1) (some (-1)) else x
theorem off_body {Q : Flow → Shared → Prop} {x : Str} {t : Tok} (S : St B env.locals m U h) (hk : env.scope.kind = .function) (hl : env.kindOf "value" = some .local) (hv : m "value" = some (.str x t))
   (hsz : 2 * x.length ≤ sizeLine) (hQ : ∀ h' t' k', Kp h h' → Q (.ret (.str (lawOff x) t')) (Sh s₀ h' k')) :
   wpAny (model PW w) A (execs (dBody (stmtAt 17)) env) Q E (Sh s₀ h k) := by
  have hx : x.length ≤ sizeLine := by omega
  refine wpAny_execs_cons ?_
  refine wpAny_Return_some ?_
  refine wpAny_IfExp ?_
  refine wpAny_isTrue_Compare1 ?_
  refine wpAny_BinOp ?_
  refine sl_s ?_
  refine nm S hk hl hv ?_
  refine wpAny_evalPart_none ?_
  refine wpAny_evalPart_some ?_
  refine c_int fun _ => ?_
  refine ⟨x, t, none, some (1, _), _, _, rfl, rfl, rfl, rfl, hx, fun h₁ t₁ k₁ K₁ => ?_⟩
  refine sl_s ?_
  refine nm (S.mono K₁) hk hl hv ?_
  refine wpAny_evalPart_some ?_
  refine c_neg fun _ => ?_
  refine wpAny_evalPart_none ?_
  refine ⟨x, t, some (-1, _), none, _, _, rfl, rfl, rfl, rfl, hx, fun h₂ t₂ k₂ K₂ => ?_⟩
  have l1 := Txt.slice_le x none (some 1)
  have l2 := Txt.slice_le x (some (-1)) none
  refine add_s (by simp only [Option.map_none, Option.map_some]; omega) fun t₃ k₃ => ?_
  refine c_str ?_
  refine eq_s ?_
  refine wpAny_truthy_bool ?_
  simp only [Option.map_none, Option.map_some]
  unfold lawOff at hQ
  split
  · rename_i hc
    rw [if_pos hc] at hQ
    refine sl_s ?_
    refine nm ((S.mono K₁).mono K₂) hk hl hv ?_
    refine wpAny_evalPart_some ?_
    refine c_int fun _ => ?_
    refine wpAny_evalPart_some ?_
    refine c_neg fun _ => ?_
    exact ⟨x, t, some (1, _), some (-1, _), _, _, rfl, rfl, rfl, rfl, hx, fun h₄ t₄ k₄ K₄ => hQ _ _ _ ((K₁.trans K₂).trans K₄)⟩
  · rename_i hc
    rw [if_neg hc] at hQ
    exact nm ((S.mono K₁).mono K₂) hk hl hv (hQ _ _ _ (K₁.trans K₂))
end
noncomputable def bareRun : List Str → List (Str × Str) → Except Bool (List (Str × Str))
  | [], acc => .ok acc
  | x :: r, acc => match cutEq x with
    | none => .error true
    | some p => if p.2.length = 0 then .error false else bareRun r (putS acc p.1 (lawOff p.2))
theorem lawOff_len (x : Str) : (lawOff x).length ≤ x.length := by
  unfold lawOff; split
  · exact Txt.slice_le ..
  · exact Nat.le_refl _
noncomputable def part3 (x : Str) : Str × Str × Str := match cutEq x with
  | some p => (p.1, Str.ofString "=", p.2)
  | none => (x, Str.ofString "", Str.ofString "")
section
variable {w : World} {A : Around} {E : Value → Shared → Prop} {s₀ : Shared} {B Hb : Heap} {L : Addr} {m : Str → Option Value} {U : List (Addr × Cell)} {h : Heap} {k : Nat} {env : Env} {outer : List Env}
theorem dict_call {Q : Value → Shared → Prop} {a : Addr} {o : Obj} {xs : List Str} (T : Top0 Hb) (hA : AOk 8 A) (Fl : Fly Hb A outer h) (ha : h.get? a = some o) (ho : txts xs o) (hn : xs.length ≤ 1000) (hsz : ∀ x ∈ xs, x.length ≤ 1000)
   (hQ : ∀ h' k' d ps vs o n, keqvRun xs [] = .ok ps → ps.length ≤ 1000 → Kp h h' → h.get? d = none → h'.get? d = some o → o = { cls := .type "list", data := .seq vs.toArray n } → PairsS h' vs ps → Q (.ref d) (Sh s₀ h' k'))
   (hQ2 : ∀ b h' k' t, keqvRun xs [] = .error b → Kq Hb h h' → Q (.str (if b then Str.ofString "no sign" else Str.ofString "no value") t) (Sh s₀ h' k')) :
    wpAny (model PW w) A (call (.ref 271) [.ref a] []) Q E (Sh s₀ h k) := by
  have Th : Top0 h := T.keeps Fl.kb
  obtain ⟨hf, hcd⟩ := Th.fns (271, 19, 270) (by decide)
  refine callfd (fd := lawFd 19 270) (body := dBody (stmtAt 19)) (binds := [("items", .ref a)]) hf hcd Th.nolimit (by have := hA.depth; omega) rfl rfl rfl (by with_unfolding_all rfl) (show ∀ x ∈ (dScope (stmtAt 19)).names, x.2 ≠ .cell from by decide) (PyProof.Rows.locs (by rfl)) rfl rfl rfl
    fun env h₁ he ok S => ?_
  obtain ⟨key⟩ := dict_body (Q := retQ Q) (E := outE w A env E) (s₀ := s₀) (w := w) (k := k + 1) (A := A) S T hA Fl ok (by subst he; rfl) rfl ha ho hn hsz (by subst he; rfl) (by subst he; rfl) (by subst he; rfl) (by subst he; rfl) (by subst he; rfl) hQ hQ2
  assumption
theorem off_call {Q : Value → Shared → Prop} {x : Str} {t : Tok} (T : Top0 h) (hA : AOk 1 A) (hsz : x.length ≤ 1000000) (hQ : ∀ h' t' k', Kp h h' → Q (.str (lawOff x) t') (Sh s₀ h' k')) :
    wpAny (model PW w) A (call (.ref 257) [.str x t] []) Q E (Sh s₀ h k) := by
  have hs := sizeLine_eq
  obtain ⟨hf, hcd⟩ := T.fns (257, 17, 256) (by decide)
  refine callfd (fd := lawFd 17 256) (body := dBody (stmtAt 17)) (binds := [("value", .str x t)]) hf hcd T.nolimit (by have := hA.depth; omega) rfl rfl rfl (by with_unfolding_all rfl) (show ∀ x ∈ (dScope (stmtAt 17)).names, x.2 ≠ .cell from by decide) (PyProof.Rows.locs (by rfl)) rfl rfl rfl
    fun env h₁ he ok S => ?_
  exact off_body S ok.kind (by subst he; rfl) rfl (by omega) fun h' t' k' K => hQ h' t' k' (S.keep.trans K)
theorem assign3 {x y z : Str} {p1 p2 p3 pos : Pos} {ctx : Nat} {a : Addr} {v1 v2 v3 : Value} {Q : Unit → Shared → Prop} (hh : A.handled = none) (hk : env.scope.kind = .function) (S : St B env.locals m U h) (ht : h.get? a = some (tupO [v1, v2, v3]))
    (lx : env.kindOf x = some .local) (ly : env.kindOf y = some .local) (lz : env.kindOf z = some .local)
    (hQ : ∀ h' k', St B env.locals (fun n => if n = z then some v3 else if n = y then some v2 else if n = x then some v1 else m n) U h' → Q () (Sh s₀ h' k')) :
    wpAny (model PW w) A (assign (.Tuple [.Name x p1, .Name y p2, .Name z p3] ctx pos) env (.ref a)) Q E (Sh s₀ h k) := by
  refine wpAny_assign_Tuple (s := Sh s₀ h k) (items := #[v1, v2, v3]) hh ⟨_, ht, rfl, 0, rfl⟩ rfl rfl fun h₁ he => ?_
  have K : Kp h h₁ := fun b o e => he b o (Nat.ne_of_lt (Heap.lt_size e)) e
  refine wpAny_assignInOrder_more (wpAny_assign_Name (stn (S.mono K) hk lx fun h₂ k₂ S₂ => ?_))
  refine wpAny_assignInOrder_more (wpAny_assign_Name (stn S₂ hk ly fun h₃ k₃ S₃ => ?_))
  refine wpAny_assignInOrder_more (wpAny_assign_Name (stn S₃ hk lz fun h₄ k₄ S₄ => ?_))
  exact wpAny_assignInOrder_none (hQ h₄ k₄ S₄)
theorem part3_s {x : Str} {t u : Tok} {Q : Value → Shared → Prop} (hsz : x.length ≤ sizeLine)
    (hQ : ∀ t1 t2 t3 k', k ≤ k' → Q (.ref h.objs.size) (Sh s₀ (h.push (tupO [.str (part3 x).1 t1, .str (part3 x).2.1 t2, .str (part3 x).2.2 t3])) k')) :
    wpAny (model PW w) A (call (.builtin "str.partition") [.str x t, .str (Str.ofString "=") u]) Q E (Sh s₀ h k) := by
  refine partEq_s hsz fun t1 t2 t3 k' hk => ?_
  have := hQ t1 t2 t3 k' hk
  unfold part3 at this
  cases hc : cutEq x with
  | none => rw [hc] at this; exact this
  | some p => rw [hc] at this; exact this
theorem part3_len (x : Str) : (part3 x).1.length ≤ x.length ∧ (part3 x).2.2.length ≤ x.length := by
  unfold part3
  cases hc : cutEq x with
  | none => exact ⟨Nat.le_refl _, Nat.zero_le _⟩
  | some p => exact cutEq_len hc
theorem isTrue_not {e : Expr} {p : Pos} {whole : Sem Value} {Q : Bool → Shared → Prop} {s : Shared} (hv : wpAny (model PW w) A (isTrue e env (eval e env)) (fun b s' => Q (!b) s') E s) :
    wpAny (model PW w) A (isTrue (.UnaryOp .Not e p) env whole) Q E s := by
  rw [arm_isTrue_UnaryOp]
  exact wpAny_bind (wpAny_mono hv (fun b s' q => wpAny_pure q) fun _ _ e => e)
inductive BInv (w : World) (D : Addr) (xs : List Str) (i : Nat) (B' : Heap) (m' : Locs) (U' : Own) : Prop
  | mk (acc : List (Str × Str)) (v1 : m' "rows" = some (.ref D)) (hU : U' = [(D, dstr w acc)]) (e : bareRun xs [] = bareRun (xs.drop i) acc) (hl : acc.length ≤ i)
theorem bare_body {Q : Flow → Shared → Prop} {a : Addr} {o : Obj} {xs : List Str} (S : St B env.locals m [] h) (T : Top0 B) (hA : AOk 3 A) (ok : EOk env) (hv : m "items" = some (.ref a)) (ha : B.get? a = some o) (ho : txts xs o) (hn : xs.length ≤ 1000) (hsz : ∀ x ∈ xs, x.length ≤ 1000)
   (l1 : env.kindOf "items" = some .local) (l2 : env.kindOf "rows" = some .local) (l3 : env.kindOf "item" = some .local) (l4 : env.kindOf "name" = some .local) (l5 : env.kindOf "sign" = some .local) (l6 : env.kindOf "value" = some .local)
   (g1 : env.kindOf "_law_off" = some .globalImplicit) (g2 : env.kindOf "list" = some .globalImplicit)
   (hQ : ∀ h' k' d ps vs o n, bareRun xs [] = .ok ps → ps.length ≤ 1000 → Kp B h' → B.get? d = none → h'.get? d = some o → o = { cls := .type "list", data := .seq vs.toArray n } → PairsS h' vs ps → Q (.ret (.ref d)) (Sh s₀ h' k'))
   (hQ2 : ∀ b h' k' t, bareRun xs [] = .error b → Kp B h' → Q (.ret (.str (if b then Str.ofString "no sign" else Str.ofString "no value") t)) (Sh s₀ h' k')) :
   Runs w A (execs (dBody (stmtAt 18)) env) Q E (Sh s₀ h k) := by
  refine ⟨?_⟩
  have hk := ok.kind
  have hh := hA.handled
  have hs : sizeLine = 16777216 := sizeLine_eq
  refine wpAny_execs_cons (wpAny_Assign_Name ?_)
  refine newD (w := w) (T.keeps S.keep).nolimit fun o₁ hd₁ hf₁ hlo => ?_
  have S₁ := S.alloc o₁ (c := dstr w []) hd₁ hf₁
  generalize hD : h.objs.size = D at S₁ hlo ⊢
  refine stn S₁ hk l2 fun h₂ k₂ S₂ => ?_
  refine wpAny_execs_cons ?_
  refine forList (s₀ := s₀) hh (.inl fun _ _ => rfl) ?_
  obtain ⟨l, nl, rfl, rfl⟩ := ho
  have hlen : (strValues l).length = l.length := by simp [strValues]
  rw [List.length_map] at hn
  refine nm S₂ hk l1 hv ⟨a, strValues l, _, nl, B, _, [(D, dstr w [])], [], h₂, _, BInv w D (l.map (·.1)),
    rfl, rfl, S₂, ha, rfl, rfl, ⟨[], rfl, rfl, rfl, Nat.le_refl _⟩, ?_, ?_⟩
  · intro E' _ i v B' m' U' V' h₃ k₃ hP hinv hB S₃ hk₃ _
    obtain ⟨acc, e1, rfl, e2, e3⟩ := hinv
    obtain ⟨y, t, rfl, hy⟩ := strVal_get hP
    have hil : i < l.length := by
      have := (List.getElem?_eq_some_iff.mp hy).1
      simpa using this
    have hyl : y.length ≤ 1000 := hsz y (List.mem_of_getElem? hy)
    have hdrop : (l.map (·.1)).drop i = y :: (l.map (·.1)).drop (i + 1) := by
      obtain ⟨hlt, e⟩ := List.getElem?_eq_some_iff.mp hy
      rw [List.drop_eq_getElem_cons hlt, e]
    have hcut : bareRun (l.map (·.1)) [] = match cutEq y with
        | none => .error true
        | some p => if p.2.length = 0 then .error false else bareRun ((l.map (·.1)).drop (i + 1)) (putS acc p.1 (lawOff p.2)) := by
      rw [e2, hdrop]; rfl
    have hp3 := part3_len y
    refine wpAny_assign_Name (stn S₃ hk l3 fun h₄ k₄ S₄ => ?_)
    refine wpAny_execs_cons (PyProof.Rows.Assign_Tuple ?_)
    refine smeth F.slot_str_partition F.type_str_partition (nm (v := .str y t) S₄ hk l3 rfl ⟨⟨_, _, rfl⟩, arg1 (c_str ?_)⟩)
    refine part3_s (by omega) fun t1 t2 t3 k₅ _ => ?_
    refine assign3 (s₀ := s₀) hh hk (S₄.push _) (Heap.get?_push_size _ rfl) l4 l5 l6 fun h₆ k₆ S₆ => ?_
    refine wpAny_execs_cons (wpAny_If ?_)
    refine isTrue_not (wpAny_isTrue_value (nm (v := .str (part3 y).2.2 t3) S₆ hk l6 rfl (truthy_s (by omega) ?_)))
    by_cases hz : (part3 y).2.2.length = 0
    · rw [decide_eq_false (by simpa using hz)]
      refine wpAny_execs_cons (wpAny_Return_some (wpAny_IfExp ?_))
      have hl1 : (part3 y).2.1.length ≤ 1 := by
        unfold part3; split
        · exact Nat.le_refl _
        · exact Nat.zero_le _
      refine wpAny_isTrue_value (nm (v := .str (part3 y).2.1 t2) S₆ hk l5 rfl (truthy_s (by omega) ?_))
      cases hc : cutEq y with
      | none =>
        rw [hc] at hcut
        have e : (part3 y).2.1.length = 0 := by unfold part3; rw [hc]; rfl
        rw [decide_eq_false (by simpa using e)]
        refine c_str ?_
        exact hQ2 true h₆ _ _ hcut (hB.trans S₆.keep)
      | some p =>
        rw [hc] at hcut
        dsimp only at hcut
        have e : (part3 y).2.1.length = 1 := by unfold part3; rw [hc]; rfl
        have e5 : (part3 y).2.2 = p.2 := by unfold part3; rw [hc]
        rw [e5] at hz
        rw [if_pos hz] at hcut
        rw [decide_eq_true (by rw [e]; decide)]
        refine c_str ?_
        exact hQ2 false h₆ _ _ hcut (hB.trans S₆.keep)
    · rw [decide_eq_true (by simpa using hz)]
      refine wpAny_execs_nil ?_
      have T₆ : Top0 h₆ := T.keeps (hB.trans S₆.keep)
      refine wpAny_execs_cons (wpAny_Assign_Subscript ?_)
      refine callN (fd := lawFd 17 256) T₆ ok g1 (by decide) (arg1 (nm (v := .str (part3 y).2.2 t3) S₆ hk l6 rfl ⟨(T₆.fns (257, 17, 256) (by decide)).1, ?_⟩))
      refine off_call T₆ (hA.le (by omega)) (by omega) fun h₇ t₇ k₇ K₇ => ?_
      have S₇ := S₆.mono K₇
      refine nm (v := .ref D) S₇ hk l2 e1 (nm (v := .str (part3 y).1 t1) S₇ hk l4 rfl ?_)
      refine setD (w := w) (U₁ := []) S₇ (by omega) fun h₈ k₈ S₈ => ?_
      refine wpAny_execs_nil ?_
      cases hc : cutEq y with
      | none =>
        have e : (part3 y).2.2.length = 0 := by unfold part3; rw [hc]; rfl
        exact absurd e hz
      | some p =>
        rw [hc] at hcut
        dsimp only at hcut
        have e5 : (part3 y) = (p.1, Str.ofString "=", p.2) := by unfold part3; rw [hc]
        rw [e5] at hz S₈
        rw [if_neg hz] at hcut
        exact ⟨B', _, [(D, _)], h₈, k₈, rfl, Kp.refl _, S₈, putS acc p.1 (lawOff p.2), e1, rfl, hcut, Nat.le_trans (putS_len ..) (by omega)⟩
  · intro B' m' U' h₃ k₃ hinv hB S₃ hk₃
    obtain ⟨acc, e1, rfl, e2, e3⟩ := hinv
    rw [hlen, List.drop_of_length_le (by simp)] at e2
    have T₃ : Top0 h₃ := T.keeps (hB.trans S₃.keep)
    refine wpAny_execs_cons (wpAny_Return_some ?_)
    obtain ⟨oD, eD, cD⟩ := S₃.get (a := D) (c := dstr w acc) (by simp)
    refine callT (id := "list") T₃ ok g2 (by decide) (arg1 ?_)
    refine meth F.plainAttrs_dict F.slot_dict_items F.type_dict_items (nm (v := .ref D) S₃ hk l2 e1 ?_)
    obtain ⟨t1, t2⟩ := dictT_of (s₀ := s₀) (k := k₃) eD cD
    refine ⟨t1, fun b e => by cases e; exact ⟨_, eD, t2⟩, arg0 ?_⟩
    refine items_list hh eD cD hlo (by omega) fun v h₄ K₄ hiv hcall => ?_
    refine hcall _ _ _ fun h₅ k₅ a₅ o₅ vs n K₅ hnew₅ ha₅ ho₅ hp hl => ?_
    exact hQ h₅ k₅ a₅ acc vs o₅ n e2 (by omega) (((hB.trans S₃.keep).trans K₄).trans K₅) (((hB.trans S₃.keep).trans K₄).none hnew₅) ha₅ ho₅ hp
theorem bare_call {Q : Value → Shared → Prop} {a : Addr} {o : Obj} {xs : List Str} (T : Top0 h) (hA : AOk 4 A) (ha : h.get? a = some o) (ho : txts xs o) (hn : xs.length ≤ 1000) (hsz : ∀ x ∈ xs, x.length ≤ 1000)
   (hQ : ∀ h' k' d ps vs o n, bareRun xs [] = .ok ps → ps.length ≤ 1000 → Kp h h' → h.get? d = none → h'.get? d = some o → o = { cls := .type "list", data := .seq vs.toArray n } → PairsS h' vs ps → Q (.ref d) (Sh s₀ h' k'))
   (hQ2 : ∀ b h' k' t, bareRun xs [] = .error b → Kp h h' → Q (.str (if b then Str.ofString "no sign" else Str.ofString "no value") t) (Sh s₀ h' k')) :
    wpAny (model PW w) A (call (.ref 264) [.ref a] []) Q E (Sh s₀ h k) := by
  obtain ⟨hf, hcd⟩ := T.fns (264, 18, 263) (by decide)
  refine callfd (fd := lawFd 18 263) (body := dBody (stmtAt 18)) (binds := [("items", .ref a)]) hf hcd T.nolimit (by have := hA.depth; omega) rfl rfl rfl (by with_unfolding_all rfl) (show ∀ x ∈ (dScope (stmtAt 18)).names, x.2 ≠ .cell from by decide) (PyProof.Rows.locs (by rfl)) rfl rfl rfl
    fun env h₁ he ok S => ?_
  obtain ⟨key⟩ := bare_body (Q := retQ Q) (E := outE w A env E) (s₀ := s₀) (w := w) (k := k + 1) S T hA.deeper ok rfl ha ho hn hsz (by subst he; rfl) (by subst he; rfl) (by subst he; rfl) (by subst he; rfl) (by subst he; rfl) (by subst he; rfl) (by subst he; rfl) (by subst he; rfl) hQ hQ2
  assumption
end
theorem hideAll_mem {h : Heap} {l : List Addr} {b : Addr} {o : Obj} (e : (hideAll h l).get? b = some o) : b ∉ l := fun q => by rw [hideAll_none _ q] at e; cases e
section
variable {B : Heap} {L : Addr} {m : Str → Option Value} {U V : List (Addr × Cell)} {h h₁ : Heap}
theorem St.lend (S : St h L m [] h₁) (U : List (Addr × Cell)) (hU : ∀ p ∈ U, ∃ o, h.get? p.1 = some o ∧ p.2 o) (nd : (U.map (·.1)).Nodup) : St (hideAll h (U.map (·.1))) L m U h₁ := by
  refine ⟨S.ns, fun b o e => S.keep b o (of_hideAll _ e), ?_, fun p hp => ?_, nd⟩
  · cases e : (hideAll h (U.map (·.1))).get? L with
    | none => rfl
    | some o => have := of_hideAll _ e; rw [S.nl] at this; cases this
  · obtain ⟨o, e, c⟩ := hU p hp
    refine ⟨⟨o, S.keep _ _ e, c⟩, ?_, hideAll_none _ (List.mem_map_of_mem hp)⟩
    intro q; rw [q, S.nl] at e; cases e
theorem St.back {Lc : Addr} {mc : Str → Option Value} {B'' h'' : Heap} {U'' : List (Addr × Cell)} (S : St B L m (V ++ U) h) (S2 : St B'' Lc mc U'' h'') (k2 : Kp (hideAll h (U.map (·.1))) B'') :
    ∃ B3, Kp B B3 ∧ (∀ a o, B''.get? a = some o → h.get? a = none → B3.get? a = some o) ∧ St B3 L m (V ++ U'') h'' := by
  obtain ⟨oL, es, ep, hL, r⟩ := S.ns
  have nd := S.nd
  rw [List.map_append] at nd
  have nd' := List.nodup_append.mp nd
  have LU : L ∉ U.map (·.1) := fun q => by
    obtain ⟨p, hp, e⟩ := List.mem_map.mp q
    exact (S.own p (List.mem_append_right _ hp)).2.1 e
  have hL' : B''.get? L = some oL := k2 _ _ (hideAll_get _ hL LU)
  have hV : ∀ p ∈ V, ∃ o, B''.get? p.1 = some o ∧ p.2 o := fun p hp => by
    obtain ⟨⟨o, e, c⟩, _⟩ := S.own p (List.mem_append_left _ hp)
    exact ⟨o, k2 _ _ (hideAll_get _ e fun q => nd'.2.2 p.1 (List.mem_map_of_mem hp) p.1 q rfl), c⟩
  have hB : Kp B B'' := fun b o e => k2 _ _ (hideAll_get _ (S.keep _ _ e) fun q => by
    obtain ⟨p, hp, rfl⟩ := List.mem_map.mp q
    rw [(S.own p (List.mem_append_right _ hp)).2.2] at e; cases e)
  have nU : ∀ p ∈ U'', B''.get? p.1 = none := fun p hp => (S2.own p hp).2.2
  have ex : ∀ b o, B''.get? b = some o → b ≠ L → b ∉ V.map (·.1) → (hideAll h'' (L :: (V ++ U'').map (·.1))).get? b = some o := fun b o e n1 n2 => by
    refine hideAll_get _ (S2.keep _ _ e) fun q => ?_
    rcases List.mem_cons.mp q with q | q
    · exact n1 q
    · rw [List.map_append] at q
      rcases List.mem_append.mp q with q | q
      · exact n2 q
      · obtain ⟨p, hp, rfl⟩ := List.mem_map.mp q
        rw [nU p hp] at e; cases e
  refine ⟨hideAll h'' (L :: (V ++ U'').map (·.1)), fun b o e => ?_, fun a o e hn => ?_, ⟨⟨oL, es, ep, S2.keep _ _ hL', r⟩, fun b o e => of_hideAll _ e, hideAll_none _ (.head _), fun p hp => ?_, ?_⟩⟩
  · refine ex b o (hB _ _ e) (fun q => by rw [q, S.nl] at e; cases e) fun q => ?_
    obtain ⟨p, hp, rfl⟩ := List.mem_map.mp q
    rw [(S.own p (List.mem_append_left _ hp)).2.2] at e; cases e
  · refine ex a o e (fun q => by rw [q, hL] at hn; cases hn) fun q => ?_
    obtain ⟨p, hp, rfl⟩ := List.mem_map.mp q
    obtain ⟨⟨o', e', _⟩, _⟩ := S.own p (List.mem_append_left _ hp)
    rw [hn] at e'; cases e'
  · rcases List.mem_append.mp hp with hp' | hp'
    · obtain ⟨o, e, c⟩ := hV p hp'
      exact ⟨⟨o, S2.keep _ _ e, c⟩, (S.own p (List.mem_append_left _ hp')).2.1, hideAll_none _ (List.mem_cons_of_mem _ (List.mem_map_of_mem hp))⟩
    · obtain ⟨⟨o, e, c⟩, n1, n2⟩ := S2.own p hp'
      exact ⟨⟨o, e, c⟩, (fun q => by rw [q, hL'] at n2; cases n2), hideAll_none _ (List.mem_cons_of_mem _ (List.mem_map_of_mem hp))⟩
  · rw [List.map_append]
    refine List.nodup_append.mpr ⟨nd'.1, S2.nd, fun a ha b hb q => ?_⟩
    subst q
    obtain ⟨p, hp, e⟩ := List.mem_map.mp ha
    obtain ⟨p', hp', e'⟩ := List.mem_map.mp hb
    obtain ⟨o, e1, _⟩ := hV p hp
    have := nU p' hp'
    rw [e', ← e, e1] at this; cases this
theorem St.ungive {B₁ : Heap} {a : Addr} {o : Obj} {c : Cell} (S : St B₁ L m U h) (k : Kp B B₁) (e : B₁.get? a = some o) (n : B.get? a = none) (hc : c o) : St B L m ((a, c) :: U) h := by
  have S' := S.weaken k
  refine ⟨S'.ns, S'.keep, S'.nl, fun p hp => ?_, List.nodup_cons.mpr ⟨fun q => ?_, S.nd⟩⟩
  · rcases List.mem_cons.mp hp with rfl | hp
    · exact ⟨⟨o, S.keep _ _ e, hc⟩, (fun q => by dsimp only at q; rw [q, S.nl] at e; cases e), n⟩
    · exact S'.own p hp
  · obtain ⟨p, hp, q⟩ := List.mem_map.mp q
    have := (S.own p hp).2.2
    rw [q, e] at this; cases this
end
section
variable {w : World} {A : Around} {E : Value → Shared → Prop} {s₀ : Shared} {B : Heap} {L : Addr} {m : Str → Option Value} {U U₁ U₂ : List (Addr × Cell)} {h : Heap} {k : Nat} {env : Env}
theorem appendL {R : Addr} {vs : List Value} {v : Value} {Q : Value → Shared → Prop} (S : St B L m (U₁ ++ (R, lst vs) :: U₂) h) (hn : vs.length ≤ 100000)
    (hQ : ∀ h', St B L m (U₁ ++ (R, lst (vs ++ [v])) :: U₂) h' → Q .none (Sh s₀ h' k)) : wpAny (model PW w) A (call (.builtin "list.append") [.ref R, v]) Q E (Sh s₀ h k) := by
  obtain ⟨o, e, c⟩ := S.get (a := R) (c := lst vs) (by simp)
  have hs := sizeLine_eq
  refine wpAny_list_append_plain (s := Sh s₀ h k) (plain_of e c) (fun h' hp hs => hQ h' ?_) (by rw [List.size_toArray]; omega)
  obtain ⟨o', e', c'⟩ := of_plain hp
  exact S.upd hs.extBut e' (by simpa using c')
theorem appendT {R : Addr} {xs : List Str} {x : Str} {t : Tok} {Q : Value → Shared → Prop} (S : St B L m (U₁ ++ (R, txts xs) :: U₂) h) (hn : xs.length ≤ 100000)
    (hQ : ∀ h', St B L m (U₁ ++ (R, txts (xs ++ [x])) :: U₂) h' → Q .none (Sh s₀ h' k)) : wpAny (model PW w) A (call (.builtin "list.append") [.ref R, .str x t]) Q E (Sh s₀ h k) := by
  obtain ⟨o, e, l, n, hl, rfl⟩ := S.get (a := R) (c := txts xs) (by simp)
  have hs := sizeLine_eq
  refine wpAny_list_append_plain (s := Sh s₀ h k) ⟨n, e⟩ (fun h' hp hs => hQ h' ?_) (by rw [List.size_toArray]; simp [strValues, ← hl] at hn ⊢; omega)
  obtain ⟨n', e'⟩ := hp
  exact S.upd hs.extBut e' ⟨l ++ [(x, t)], n', by simp [hl], by simp [strValues]⟩
inductive LastPre (s₀ : Shared) (Q : Value → Shared → Prop) (v : Value) (s₁ : Shared) : Prop
  | mk (D : Addr) (vs : List Value) (x : Value) (o : Obj) (h₁ : Heap) (k₁ : Nat) (e1 : v = .ref D) (e2 : s₁ = Sh s₀ h₁ k₁) (e : h₁.get? D = some o) (ho : lst (vs ++ [x]) o) (hn : vs.length ≤ 100000) (q : Q x (Sh s₀ h₁ (k₁ + 1 + 1)))
theorem lastL {value : Expr} {c : Nat} {p p1 pos : Pos} {Q : Value → Shared → Prop}
    (hv : wpAny (model PW w) A (eval value env) (LastPre s₀ Q) E (Sh s₀ h k))
    (hg : ∀ a r, letTemporaryGo value (.ref a) r = pure () := by intros; with_unfolding_all rfl) :
    wpAny (model PW w) A (eval (.Subscript value (.UnaryOp .USub (.Constant (.int 1) c p) p1) pos) env) Q E (Sh s₀ h k) := by
  refine ixL (wpAny_mono hv (fun v s₁ q => ?_) fun _ _ e => e) (by intros; with_unfolding_all rfl) hg
  obtain ⟨D, vs, x, o, h₁, k₁, rfl, rfl, e, ⟨n, rfl⟩, h2, hQ⟩ := q
  refine c_neg fun t => ⟨D, _, -1, t, vs.length, x, rfl, rfl, ⟨_, e, rfl, n, rfl⟩, by simp; omega, ?_, by simp, hQ⟩
  unfold seqIndex?
  simp only [List.size_toArray, List.length_append, List.length_cons, List.length_nil, show (-1 : Int) < 0 by decide, if_true]
  rw [if_pos (by simp only [Bool.and_eq_true, decide_eq_true_eq]; omega)]
  congr 1
  omega
theorem lst_plain {R : Addr} {vs : List Value} (S : St B L m U h) (hm : (R, lst vs) ∈ U) : ∃ n, h.get? R = some { cls := .type "list", data := .seq vs.toArray n } := by
  obtain ⟨o, e, n, rfl⟩ := S.get hm
  exact ⟨n, e⟩
end
noncomputable def RowsR (h : Heap) (rv : List Value) (rows : List (Str × Addr)) : Prop := All2 (fun v p => ∃ a t, v = .ref a ∧ h.get? a = some (tupO [.str p.1 t, .ref p.2])) rv rows
theorem RowsR.keeps {h h' : Heap} {rv : List Value} {rows : List (Str × Addr)} (x : RowsR h rv rows) (k : Kp h h') : RowsR h' rv rows := x.imp fun _ _ ⟨a, t, e, g⟩ => ⟨a, t, e, k _ _ g⟩
noncomputable def findR (rows : List (Str × Addr)) (x : Str) : Option Addr := (rows.find? (fun p => p.1 == x)).map (·.2)
noncomputable def NewRow (B B' : Heap) (R M : Addr) (rv rv' : List Value) (x : Str) (a : Addr) (b : Bool) : Prop :=
  (b = false ∧ rv' = rv) ∨ (b = true ∧ ∃ tup t, rv' = rv ++ [.ref tup] ∧ B'.get? tup = some (tupO [.str x t, .ref a]) ∧ B.get? tup = none ∧ tup ≠ R ∧ tup ≠ M)
section
variable {w : World} {A : Around} {E : Value → Shared → Prop} {s₀ : Shared} {B : Heap} {L : Addr} {m : Str → Option Value} {U : List (Addr × Cell)} {h : Heap} {k : Nat} {env : Env}
inductive VInv (R M : Addr) (x : Str) (t : Tok) (b : Bool) (rows : List (Str × Addr)) (i : Nat) (B' : Heap) (m' : Locs) (U' : Own) : Prop
  | mk (v1 : m' "rows" = some (.ref R)) (v2 : m' "made" = some (.ref M)) (v3 : m' "name" = some (.str x t)) (v4 : m' "kept" = some (.bool b)) (hU : U' = []) (e : findR rows x = findR (rows.drop i) x)
theorem values_body {Q : Flow → Shared → Prop} {R M : Addr} {rv mv : List Value} {rows : List (Str × Addr)} {x : Str} {t : Tok} {b : Bool} (S : St B env.locals m [(R, lst rv), (M, lst mv)] h) (hA : AOk 3 A) (ok : EOk env)
   (v1 : m "rows" = some (.ref R)) (v2 : m "made" = some (.ref M)) (v3 : m "name" = some (.str x t)) (v4 : m "kept" = some (.bool b)) (hr : RowsR B rv rows) (hn : rv.length ≤ 10000) (hn2 : mv.length ≤ 10000)
   (l1 : env.kindOf "rows" = some .local) (l2 : env.kindOf "made" = some .local) (l3 : env.kindOf "name" = some .local) (l4 : env.kindOf "kept" = some .local) (l5 : env.kindOf "other" = some .local) (l6 : env.kindOf "values" = some .local)
   (hQ : ∀ B' h' k' a m', findR rows x = some a → Kp B B' → St B' env.locals m' [(R, lst rv), (M, lst mv)] h' → Q (.ret (.ref a)) (Sh s₀ h' k'))
   (hQ2 : ∀ B' h' k' a m' rv', findR rows x = none → Kp B B' → NewRow B B' R M rv rv' x a b → St B' env.locals m' [(R, lst rv'), (M, lst (mv ++ [.ref a])), (a, txts [])] h' → Q (.ret (.ref a)) (Sh s₀ h' k')) :
   Runs w A (execs (dBody (stmtAt 15)) env) Q E (Sh s₀ h k) := by
  refine ⟨?_⟩
  have hk := ok.kind
  have hh := hA.handled
  have hs : sizeLine = 16777216 := sizeLine_eq
  have nR : B.get? R = none := (S.own (R, lst rv) (by simp)).2.2
  obtain ⟨B₁, oR, kB₁, eR, cR, S₁⟩ := S.give0
  obtain ⟨nr, rfl⟩ := id cR
  refine wpAny_execs_cons ?_
  refine forList (s₀ := s₀) hh (.inr ⟨_, _, _, rfl⟩) ?_
  have hlen := hr.len
  refine nm S₁ hk l1 v1 ⟨R, rv, _, nr, B₁, _, [], [(M, lst mv)], h, k, VInv R M x t b rows,
    rfl, rfl, S₁, eR, rfl, rfl, ⟨v1, v2, v3, v4, rfl, rfl⟩, ?_, ?_⟩
  · intro E' _ i v B' m' U' V' h₂ k₂ hP hinv hB S₂ hk₂ hback
    obtain ⟨e1, e2, e3, e4, rfl, e5⟩ := hinv
    obtain ⟨p, hp, a, tp, rfl, ha⟩ := hr.get hP
    have hdrop : rows.drop i = p :: rows.drop (i + 1) := by
      obtain ⟨hlt, e⟩ := List.getElem?_eq_some_iff.mp hp
      rw [List.drop_eq_getElem_cons hlt, e]
    have ha₂ : h₂.get? a = some (tupO [.str p.1 tp, .ref p.2]) := S₂.keep _ _ (hB _ _ (kB₁ _ _ ha))
    refine wpAny_assign_Tuple (s := Sh s₀ h₂ k₂) (items := #[.str p.1 tp, .ref p.2]) hh ⟨_, ha₂, rfl, 0, rfl⟩ rfl rfl fun h₃ he => ?_
    have K₃ : Kp h₂ h₃ := fun b o e => he b o (Nat.ne_of_lt (Heap.lt_size e)) e
    refine wpAny_assignInOrder_more (wpAny_assign_Name (stn (S₂.mono K₃) hk l5 fun h₄ k₄ S₄ => ?_))
    refine wpAny_assignInOrder_more (wpAny_assign_Name (stn S₄ hk l6 fun h₅ k₅ S₅ => ?_))
    refine wpAny_assignInOrder_none ?_
    refine wpAny_execs_cons (wpAny_If ?_)
    refine wpAny_isTrue_Compare1 (nm (v := .str p.1 tp) S₅ hk l5 rfl (nm (v := .str x t) S₅ hk l3 e3 (eq_s (truthy_b ?_))))
    cases hq : (p.1 == x) with
    | true =>
      refine wpAny_execs_cons (wpAny_Return_some (nm (v := .ref p.2) S₅ hk l6 rfl ?_))
      have hf : findR rows x = some p.2 := by rw [e5, hdrop]; simp [findR, hq]
      obtain ⟨U₃, S₆⟩ := hback B' _ [] h₅ S₅
      have S₇ : St B' env.locals _ [(M, lst mv)] h₅ := S₆.sub (by simp)
      have S₈ := S₇.ungive (B := B) (kB₁.trans hB) (hB _ _ eR) nR cR
      exact hQ B h₅ k₅ p.2 _ hf (Kp.refl _) S₈
    | false =>
      refine wpAny_execs_nil (wpAny_execs_nil ?_)
      have hf : findR rows x = findR (rows.drop (i + 1)) x := by rw [e5, hdrop]; simp [findR, hq]
      exact ⟨B', _, [], h₅, k₅, rfl, Kp.refl _, S₅, e1, e2, e3, e4, rfl, hf⟩
  · intro B' m' U' h₂ k₂ hinv hB S₂ hk₂
    obtain ⟨e1, e2, e3, e4, rfl, e5⟩ := hinv
    rw [hlen, List.drop_of_length_le (Nat.le_refl _)] at e5
    have S₃ : St B env.locals m' [(R, lst rv), (M, lst mv)] h₂ := St.ungive (U := [(M, lst mv)]) S₂ (kB₁.trans hB) (hB _ _ eR) nR cR
    refine wpAny_execs_cons ?_
    refine wpAny_Expr_any ?_ (interactive_no ok) (by rfl)
    refine lmeth slot_list_append type_list_append (nm S₃ hk l2 e2 ?_)
    obtain ⟨n₃, hM⟩ := lst_plain S₃ (R := M) (vs := mv) (by simp)
    refine ⟨⟨M, _, rfl, n₃, hM⟩, arg1 (wpAny_List_spliced (arg0 ⟨Nat.zero_le _, ?_⟩))⟩
    have S₄ := S₃.alloc { cls := .type "list", data := .seq ([] : List Value).toArray } (c := txts []) ⟨[], 0, rfl, rfl⟩
    generalize hD : h₂.objs.size = D at S₄ ⊢
    have S₄' : St B env.locals m' ([(D, txts []), (R, lst rv)] ++ (M, lst mv) :: []) _ := S₄
    refine appendL S₄' (by omega) fun h₅ S₅ => ?_
    have S₆ : St B env.locals m' [(R, lst rv), (M, lst (mv ++ [.ref D])), (D, txts [])] h₅ := S₅.perm (by
      show ((D, txts []) :: [(R, lst rv), (M, lst (mv ++ [.ref D]))]).Perm ([(R, lst rv), (M, lst (mv ++ [.ref D]))] ++ [(D, txts [])])
      exact (List.perm_append_singleton ..).symm)
    have hfind : findR rows x = none := by rw [e5]; rfl
    refine wpAny_execs_cons (wpAny_If ?_)
    refine wpAny_isTrue_value (nm (v := .bool b) S₆ hk l4 e4 (truthy_b ?_))
    have fin : ∀ B' rv' h₇ k₇, Kp B B' → NewRow B B' R M rv rv' x D b → St B' env.locals m' [(R, lst rv'), (M, lst (mv ++ [.ref D])), (D, txts [])] h₇ →
        ∀ E', wpAny (model PW w) A (execs ((dBody (stmtAt 15)).drop 3) env) Q E' (Sh s₀ h₇ k₇) := by
      intro B' rv' h₇ k₇ kB hrv S₇ E'
      refine wpAny_execs_cons (wpAny_Return_some ?_)
      obtain ⟨n₇, hM₇⟩ := lst_plain S₇ (R := M) (vs := mv ++ [.ref D]) (by simp)
      refine lastL (s₀ := s₀) (nm S₇ hk l2 e2 ⟨M, mv, .ref D, _, h₇, k₇, rfl, rfl, hM₇, ⟨n₇, rfl⟩, by omega, ?_⟩)
      exact hQ2 B' h₇ _ D m' rv' hfind kB hrv S₇
    cases b with
    | false =>
      refine wpAny_execs_nil ?_
      exact fin B rv h₅ _ (Kp.refl _) (.inl ⟨rfl, rfl⟩) S₆ _
    | true =>
      refine wpAny_execs_cons ?_
      refine wpAny_Expr_any ?_ (interactive_no ok) (by rfl)
      obtain ⟨n₆, hR₆⟩ := lst_plain S₆ (R := R) (vs := rv) (by simp)
      obtain ⟨n₇, hM₆⟩ := lst_plain S₆ (R := M) (vs := mv ++ [.ref D]) (by simp)
      refine lmeth slot_list_append type_list_append (nm (v := .ref R) S₆ hk l1 e1 ⟨⟨R, _, rfl, n₆, hR₆⟩, arg1 ?_⟩)
      refine wpAny_Tuple_spliced (arg2 (nm (v := .str x t) S₆ hk l3 e3 ?_))
      refine lastL (s₀ := s₀) (nm S₆ hk l2 e2 ⟨M, mv, .ref D, _, h₅, _, rfl, rfl, hM₆, ⟨n₇, rfl⟩, by omega, ?_⟩)
      refine ⟨by show 2 ≤ sizeLine; omega, ?_⟩
      have S₇ := S₆.alloc (tupO [.str x t, .ref D]) (c := its _) rfl
      obtain ⟨B₈, o₈, kB₈, e₈, c₈, S₈⟩ := S₇.give0
      cases c₈
      refine appendL (U₁ := []) S₈ (by omega) fun h₉ S₉ => ?_
      refine wpAny_execs_nil ?_
      have fr : h₅.get? h₅.objs.size = none := get_none_of_ge (Nat.le_refl _)
      have n1 : h₅.objs.size ≠ R := fun q => by rw [q, hR₆] at fr; cases fr
      have n2 : h₅.objs.size ≠ M := fun q => by rw [q, hM₆] at fr; cases fr
      exact fin B₈ (rv ++ [Value.ref h₅.objs.size]) h₉ _ kB₈ (.inr ⟨rfl, h₅.objs.size, t, rfl, e₈, S₆.keep.none fr, n1, n2⟩) S₉ _
theorem values_call {Q : Value → Shared → Prop} {V : List (Addr × Cell)} {R M : Addr} {rv mv : List Value} {rows : List (Str × Addr)} {x : Str} {t : Tok} {b : Bool} (T : Top0 h) (hA : AOk 4 A) (S : St B L m (V ++ [(R, lst rv), (M, lst mv)]) h)
   (hr : RowsR B rv rows) (hn : rv.length ≤ 10000) (hn2 : mv.length ≤ 10000)
   (hQ : ∀ B' h' k' a, findR rows x = some a → Kp B B' → St B' L m (V ++ [(R, lst rv), (M, lst mv)]) h' → Q (.ref a) (Sh s₀ h' k'))
   (hQ2 : ∀ B' h' k' a rv', findR rows x = none → Kp B B' → RowsR B' rv' (if b then rows ++ [(x, a)] else rows) → St B' L m (V ++ [(R, lst rv'), (M, lst (mv ++ [.ref a])), (a, txts [])]) h' → Q (.ref a) (Sh s₀ h' k')) :
    wpAny (model PW w) A (call (.ref 245) [.ref R, .ref M, .str x t, .bool b] []) Q E (Sh s₀ h k) := by
  obtain ⟨hf, hcd⟩ := T.fns (245, 15, 244) (by decide)
  refine callfd (fd := lawFd 15 244) (body := dBody (stmtAt 15)) (binds := [("rows", .ref R), ("made", .ref M), ("name", .str x t), ("kept", .bool b)]) hf hcd T.nolimit (by have := hA.depth; omega) rfl rfl rfl (by with_unfolding_all rfl) (show ∀ x ∈ (dScope (stmtAt 15)).names, x.2 ≠ .cell from by decide) (PyProof.Rows.locs (by rfl)) rfl rfl rfl
    fun env h₁ he ok S₁ => ?_
  have nd := S.nd
  rw [List.map_append] at nd
  have nd' := List.nodup_append.mp nd
  have S₂ := S₁.lend [(R, lst rv), (M, lst mv)] (fun p hp => (S.own p (List.mem_append_right _ hp)).1) nd'.2.1
  have hr' : RowsR (hideAll h ([(R, lst rv), (M, lst mv)].map (·.1))) rv rows := hr.imp fun _ p ⟨a, t, e, g⟩ => ⟨a, t, e, hideAll_get _ (S.keep _ _ g) fun q => by
    obtain ⟨p', hp', rfl⟩ := List.mem_map.mp q
    rw [(S.own p' (List.mem_append_right _ hp')).2.2] at g; cases g⟩
  have back : ∀ B'' mc U'' h'', Kp (hideAll h ([(R, lst rv), (M, lst mv)].map (·.1))) B'' → St B'' env.locals mc U'' h'' → ∃ B3, Kp B B3 ∧ (∀ a o, B''.get? a = some o → h.get? a = none → B3.get? a = some o) ∧ St B3 L m (V ++ U'') h'' := fun B'' mc U'' h'' k2 S2 => S.back S2 k2
  obtain ⟨key⟩ := values_body (Q := retQ Q) (E := outE w A env E) (s₀ := s₀) (w := w) (k := k + 4) (rows := rows) (R := R) (M := M) (rv := rv) (mv := mv) (x := x) (t := t) (b := b) S₂ hA.deeper ok rfl rfl rfl rfl hr' hn hn2 (by subst he; rfl) (by subst he; rfl) (by subst he; rfl) (by subst he; rfl) (by subst he; rfl) (by subst he; rfl)
    (fun B'' h' k' a m' hf k2 S' => by
      obtain ⟨B3, k3, _, S3⟩ := back B'' m' _ h' k2 S'
      exact hQ B3 h' k' a hf k3 S3)
    (fun B'' h' k' a m' rv' hf k2 hrow S' => by
      obtain ⟨B3, k3, new, S3⟩ := back B'' m' _ h' k2 S'
      refine hQ2 B3 h' k' a rv' hf k3 ?_ S3
      rcases hrow with ⟨rfl, rfl⟩ | ⟨rfl, tup, t', rfl, g, n0, n1, n2⟩
      · exact hr.keeps k3
      · refine (hr.keeps k3).snoc ⟨tup, t', rfl, new _ _ g ?_⟩
        cases e : h.get? tup with
        | none => rfl
        | some o =>
          rw [hideAll_get _ e (by simp [n1, n2])] at n0; cases n0)
  assumption
end
inductive TE
  | shut
  | refused
  | pair (n v : Str)
structure DS where
  rows : List (Str × Nat)
  made : List (List Str)
  told : List TE
noncomputable def getV (st : DS) (x : Str) (kept : Bool) : Nat × DS := match st.rows.find? (fun p => p.1 == x) with
  | some p => (p.2, st)
  | none => (st.made.length, ⟨if kept then st.rows ++ [(x, st.made.length)] else st.rows, st.made ++ [[]], st.told⟩)
noncomputable def addV (st : DS) (j : Nat) (v : Str) : DS := ⟨st.rows, st.made.modify j (· ++ [v]), st.told⟩
noncomputable def tellD (st : DS) (e : TE) : DS := ⟨st.rows, st.made, st.told ++ [e]⟩
noncomputable def pairD (kept : Bool) (st : DS) (x v : Str) : DS := let r := getV (tellD st (.pair x v)) x kept; addV r.2 r.1 v
noncomputable def stepD (kept shut : Bool) (st : DS) (item : Str) : DS :=
  let st1 := if shut then tellD st .shut else st
  match cutEq item with
  | none => tellD st1 .refused
  | some p => pairD kept st1 (Txt.strip p.1) (Txt.strip p.2)
noncomputable def runD (K S : Nat → Bool) : Nat → List Str → DS → DS
  | _, [], st => st
  | i, x :: r, st => runD K S (i + 1) r (stepD (K i) (S i) st x)
theorem runD_snoc (K S : Nat → Bool) : ∀ (xs : List Str) (i : Nat) (x : Str) (st : DS), runD K S i (xs ++ [x]) st = stepD (K (i + xs.length)) (S (i + xs.length)) (runD K S i xs st) x
  | [], i, x, st => rfl
  | y :: r, i, x, st => by
    show runD K S (i + 1) (r ++ [x]) _ = _
    rw [runD_snoc K S r (i + 1) x]
    have : i + 1 + r.length = i + (y :: r).length := by simp; omega
    rw [this]; rfl
structure Bd (n : Nat) (st : DS) : Prop where
  rows : st.rows.length ≤ n
  made : st.made.length ≤ n
  lists : ∀ l ∈ st.made, l.length ≤ n
  told : st.told.length ≤ 2 * n
  idx : ∀ p ∈ st.rows, p.2 < st.made.length
theorem find_idx {st : DS} {n : Nat} (b : Bd n st) {x : Str} {p : Str × Nat} (h : st.rows.find? (fun p => p.1 == x) = some p) : p.2 < st.made.length := b.idx p (List.mem_of_find?_eq_some h)
theorem getV_lt {st : DS} {n : Nat} (b : Bd n st) (x : Str) (kept : Bool) : (getV st x kept).1 < (getV st x kept).2.made.length := by
  unfold getV; split
  · rename_i p h; exact find_idx b h
  · simp
theorem stepD_bd {kept shut : Bool} {st : DS} {item : Str} {n : Nat} (b : Bd n st) : Bd (n + 1) (stepD kept shut st item) := by
  have b1 : ∀ e, ∀ st : DS, st.rows.length ≤ n → st.made.length ≤ n → (∀ l ∈ st.made, l.length ≤ n) → st.told.length ≤ 2 * n + 1 → (∀ p ∈ st.rows, p.2 < st.made.length) →
      (∀ {k}, k ≤ 1 → Bd (n + 1) (tellD st e)) := fun e st h1 h2 h3 h4 h5 _ _ =>
    ⟨Nat.le_succ_of_le h1, Nat.le_succ_of_le h2, fun l hl => Nat.le_succ_of_le (h3 l hl), by simp [tellD]; omega, h5⟩
  have main : ∀ st1 : DS, st1.rows = st.rows → st1.made = st.made → st1.told.length ≤ 2 * n + 1 → Bd (n + 1) (match cutEq item with
      | none => tellD st1 .refused
      | some p => pairD kept st1 (Txt.strip p.1) (Txt.strip p.2)) := by
    intro st1 e1 e2 e3
    split
    · exact b1 _ st1 (e1 ▸ b.rows) (e2 ▸ b.made) (fun l hl => b.lists l (e2 ▸ hl)) e3 (fun p hp => by rw [e2]; exact b.idx p (e1 ▸ hp)) (k := 0) (by omega)
    · rename_i p _
      unfold pairD getV
      simp only [tellD]
      split
      · rename_i q hq
        refine ⟨by simp only [addV]; rw [e1]; exact Nat.le_succ_of_le b.rows, by simp only [addV, List.length_modify]; rw [e2]; exact Nat.le_succ_of_le b.made, fun l hl => ?_, by simp [addV]; omega, fun p hp => ?_⟩
        · simp only [addV] at hl
          obtain ⟨j, hj⟩ := List.mem_iff_getElem?.mp hl
          rw [List.getElem?_modify, e2] at hj
          simp only [Option.map_eq_map, Option.map_eq_some_iff] at hj
          obtain ⟨l', hl', rfl⟩ := hj
          have := b.lists l' (List.mem_of_getElem? hl')
          split
          · simp; omega
          · omega
        · simp only [addV, List.length_modify] at hp ⊢
          rw [e2]; exact b.idx p (e1 ▸ hp)
      · refine ⟨?_, by simp only [addV, List.length_modify, List.length_append, List.length_cons, List.length_nil]; rw [e2]; have := b.made; omega, fun l hl => ?_, by simp [addV]; omega, fun p hp => ?_⟩
        · simp only [addV]
          have := b.rows
          split
          · simp only [List.length_append, List.length_cons, List.length_nil]; rw [e1]; omega
          · rw [e1]; omega
        · simp only [addV] at hl
          obtain ⟨j, hj⟩ := List.mem_iff_getElem?.mp hl
          rw [List.getElem?_modify, e2] at hj
          simp only [Option.map_eq_map, Option.map_eq_some_iff] at hj
          obtain ⟨l', hl', rfl⟩ := hj
          have : l'.length ≤ n := by
            rcases List.mem_append.mp (List.mem_of_getElem? hl') with q | q
            · exact b.lists l' q
            · simp at q; subst q; exact Nat.zero_le _
          split
          · simp; omega
          · omega
        · simp only [addV, List.length_modify, List.length_append, List.length_cons, List.length_nil] at hp ⊢
          rw [e2]
          split at hp
          · rcases List.mem_append.mp hp with q | q
            · have := b.idx p (e1 ▸ q); omega
            · simp at q; subst q; rw [e2]; simp
          · have := b.idx p (e1 ▸ hp); omega
  unfold stepD
  cases shut with
  | true => exact main _ rfl rfl (by simp [tellD]; have := b.told; omega)
  | false => exact main _ rfl rfl (by have := b.told; simp; omega)
theorem runD_bd (K S : Nat → Bool) : ∀ (xs : List Str) (i n : Nat) (st : DS), Bd n st → Bd (n + xs.length) (runD K S i xs st)
  | [], _, _, _, b => b
  | x :: r, i, n, st, b => by
    have := runD_bd K S r (i + 1) (n + 1) _ (stepD_bd (kept := K i) (shut := S i) (item := x) b)
    rw [show n + (x :: r).length = n + 1 + r.length by simp; omega]
    exact this
theorem Bd.zero : Bd 0 ⟨[], [], []⟩ := ⟨Nat.le_refl _, Nat.le_refl _, fun _ h => (nomatch h), Nat.le_refl _, fun _ h => (nomatch h)⟩
noncomputable def cellsM (ms : List Addr) (made : List (List Str)) : List (Addr × Cell) := (ms.zip made).map fun p => (p.1, txts p.2)
theorem cellsM_snoc {ms : List Addr} {made : List (List Str)} (h : ms.length = made.length) (a : Addr) (l : List Str) : cellsM (ms ++ [a]) (made ++ [l]) = cellsM ms made ++ [(a, txts l)] := by
  unfold cellsM; rw [List.zip_append h]; simp
theorem cellsM_split : ∀ {ms : List Addr} {made : List (List Str)} {j : Nat} {a : Addr} {l : List Str}, ms[j]? = some a → made[j]? = some l →
    ∃ c1 c2, cellsM ms made = c1 ++ (a, txts l) :: c2 ∧ ∀ f : List Str → List Str, cellsM ms (made.modify j f) = c1 ++ (a, txts (f l)) :: c2
  | [], _, j, _, _, h, _ => by simp at h
  | _ :: _, [], j, _, _, _, h => by simp at h
  | b :: ms, x :: made, 0, a, l, h1, h2 => by
    simp only [List.getElem?_cons_zero, Option.some.injEq] at h1 h2
    subst h1 h2
    exact ⟨[], cellsM ms made, rfl, fun f => rfl⟩
  | b :: ms, x :: made, j + 1, a, l, h1, h2 => by
    obtain ⟨c1, c2, e1, e2⟩ := cellsM_split (ms := ms) (made := made) (j := j) (by simpa using h1) (by simpa using h2)
    refine ⟨(b, txts x) :: c1, c2, ?_, fun f => ?_⟩
    · show (b, txts x) :: cellsM ms made = _; rw [e1]; rfl
    · show (b, txts x) :: cellsM ms (made.modify j f) = _; rw [e2]; rfl
noncomputable def ToldR (h : Heap) (pc : Value) (tv : List Value) (told : List TE) : Prop := All2 (fun v e => match e with
  | .shut => v = .none
  | .refused => ∃ t, v = .str (Str.ofString "refused") t
  | .pair n x => ∃ a t u dd, v = .ref a ∧ h.get? a = some { cls := pc, dict := dd, data := .seq #[.str n t, .str x u] }) tv told
theorem ToldR.keeps {h h' : Heap} {pc : Value} {tv : List Value} {told : List TE} (x : ToldR h pc tv told) (k : Kp h h') : ToldR h' pc tv told := x.imp fun v e q => by
  cases e with
  | shut => exact q
  | refused => exact q
  | pair n y => obtain ⟨a, t, u, dd, e, g⟩ := q; exact ⟨a, t, u, dd, e, k _ _ g⟩
section
variable {w : World} {A : Around} {E : Value → Shared → Prop} {s₀ : Shared} {B : Heap} {L : Addr} {m : Str → Option Value} {U : List (Addr × Cell)} {h : Heap} {k : Nat} {env : Env}
theorem arg4 {pos : Pos} {e f g i : Expr} {Q : List Value → Shared → Prop} {s : Shared}
    (hv : wpAny (model PW w) A (eval e env) (fun v s₁ => wpAny (model PW w) A (eval f env) (fun u s₂ => wpAny (model PW w) A (eval g env) (fun z s₃ => wpAny (model PW w) A (eval i env) (fun y s₄ => Q [v, u, z, y] s₄) E s₃) E s₂) E s₁) E s)
    (hs : starEach [e, f, g, i] env = [(false, eval e env), (false, eval f env), (false, eval g env), (false, eval i env)] := by rfl) : wpAny (model PW w) A (spliced (backTo pos (starEach [e, f, g, i] env))) Q E s := by
  rw [hs]
  exact spliced_cons (wpAny_mono hv (fun _ _ q => spliced_cons (wpAny_mono q (fun _ _ q => spliced_cons (wpAny_mono q (fun _ _ q => spliced_cons (wpAny_mono q (fun _ _ q => spliced_nil q) fun _ _ q => q)) fun _ _ q => q)) fun _ _ q => q)) fun _ _ q => q)
theorem forRange {x y : Str} {px p1 p2 p3 p4 p5 pos : Pos} {body : List Stmt} {Q : Flow → Shared → Prop} {a : Addr} {items : List Value} {o : Obj} {n : Nat} {U₁ V : List (Addr × Cell)} (hh : A.handled = none) (T : Top0 h) (ok : EOk env)
    (g1 : env.kindOf "range" = some .globalImplicit) (g2 : env.kindOf "len" = some .globalImplicit) (ly : env.kindOf y = some .local) (hd : (y == ("__debug__" : Str)) = false)
    (S : St B env.locals m (U₁ ++ V) h) (hm : m y = some (.ref a)) (ha : B.get? a = some o) (hc : o.cls = .type "list") (hdt : o.data = .seq items.toArray n) (hn : items.length ≤ 10000)
    (Inv : Nat → Heap → (Str → Option Value) → List (Addr × Cell) → Prop) (h0 : Inv 0 B m U₁)
    (turn : ∀ E' i u B' m' U' V' h₂ k₂, i < items.length → Inv i B' m' U' → Kp B B' → St B' env.locals m' (U' ++ V') h₂ →
        wpAny (model PW w) A (assign (.Name x px) env (.int (i : Nat) u)) (fun _ => wpAny (model PW w) A (execs body env) (NxF s₀ env.locals V' B' (Inv (i + 1)) Q) E') E' (Sh s₀ h₂ k₂))
    (fin : ∀ B' m' U' h₂ k₂, Inv items.length B' m' U' → Kp B B' → St B' env.locals m' (U' ++ V) h₂ → Q .next (Sh s₀ h₂ k₂)) :
    wpAny (model PW w) A (exec (.For (.Name x px) (.Call (.Name "range" p1) [.Call (.Name "len" p2) [.Name y p3] [] p4] [] p5) body [] pos) env) Q E (Sh s₀ h k) := by
  refine wpAny_For ?_ (by intro _; rfl)
  have hl : h.IsList a items.toArray := ⟨o, S.old ha, hc, n, hdt⟩
  have p63 : (2 : Int) ^ 63 = 9223372036854775808 := by decide
  have p62 : (2 : Int) ^ 62 = 4611686018427387904 := by decide
  refine callT (id := "range") T ok g1 (by decide) (arg1 (callB (id := "len") T ok g2 (by decide) (arg1 (nm S ok.kind ly hm ?_ hd))))
  refine call_len_list (s := Sh s₀ h _) hl (by rw [List.size_toArray]; omega) ?_
  refine call_range_1 (s := Sh s₀ h _) ?_
  have S₁ := S.push { cls := .type "range", data := .fields #[.int 0 (k + 1 + 1), .int items.toArray.size (k + 1), .int 1 (k + 1 + 1 + 1)] }
  have hsz : ((items.toArray.size : Nat) : Int) = (items.length : Int) := by simp
  refine wpAny_pyIter_range (s := Sh s₀ _ _) (Heap.get?_push_size _ rfl) (small_one (by omega) (by omega) (by rw [hsz]; omega) (by rw [hsz]; omega)) ?_
  have er : Builtin.Range.rangeSize 0 ((items.toArray.size : Nat) : Int) 1 = (items.length : Int) := by
    rw [rangeSize_one, hsz]
    split <;> omega
  rw [er]
  generalize h.push _ = h₁ at S₁ ⊢
  have S₂ := S₁.allocMid { cls := .type "range_iterator", data := .fields #[rawInt 0, rawInt (items.length : Int), rawInt 1] } (c := its _) rfl
  refine forLoopW (R := fun r s' => match r with | .ok f => Q f s' | .error e => cameBackBy (model PW w) A env E e s') (s₀ := s₀) Inv (wayRange hh h₁.objs.size items.length) (.inl fun _ => rfl) S₂ ?_ h0
    (fun i v B' m' U' oI' h₂ k₂ hi hP hinv hB S₂ hk => ?_)
    (fun B' m' U' h₂ k₂ hinv hB S₂ hk => fin B' m' U' h₂ k₂ hinv hB S₂)
  · show IsRangeIter _ _ (0 + ((0 : Nat) : Int) * 1) ((items.length : Int) - ((0 : Nat) : Int)) 1
    have e1 : (0 + ((0 : Nat) : Int) * 1) = 0 := by decide
    have e2 : (items.length : Int) - ((0 : Nat) : Int) = items.length := by omega
    rw [e1, e2]
    exact Heap.get?_push_size _ rfl
  · obtain ⟨u, rfl⟩ := hP
    exact turn _ i u B' m' U' _ h₂ k₂ hi hinv hB S₂
end
noncomputable def DU (T R M : Addr) (tv rv : List Value) (ms : List Addr) (made : List (List Str)) : List (Addr × Cell) := (T, lst tv) :: (R, lst rv) :: (M, lst (ms.map Value.ref)) :: cellsM ms made
noncomputable def rowsA (ms : List Addr) (rows : List (Str × Nat)) : List (Str × Addr) := rows.map fun p => (p.1, (ms[p.2]?).getD 0)
structure DI (B : Heap) (pc : Value) (st : DS) (tv rv : List Value) (ms : List Addr) : Prop where
  told : ToldR B pc tv st.told
  rows : RowsR B rv (rowsA ms st.rows)
  len : ms.length = st.made.length
theorem DI.keeps {B B' : Heap} {pc : Value} {st : DS} {tv rv : List Value} {ms : List Addr} (x : DI B pc st tv rv ms) (k : Kp B B') : DI B' pc st tv rv ms := ⟨x.told.keeps k, x.rows.keeps k, x.len⟩
theorem findR_rowsA (ms : List Addr) (rows : List (Str × Nat)) (x : Str) : findR (rowsA ms rows) x = (rows.find? (fun p => p.1 == x)).map fun p => (ms[p.2]?).getD 0 := by
  unfold findR rowsA
  rw [List.find?_map, Option.map_map]
  rfl
theorem rowsA_snoc {ms : List Addr} {rows : List (Str × Nat)} (h : ∀ p ∈ rows, p.2 < ms.length) (a : Addr) : rowsA (ms ++ [a]) rows = rowsA ms rows := by
  unfold rowsA
  apply List.map_congr_left
  intro p hp
  rw [List.getElem?_append_left (h p hp)]
theorem getV_bd {st : DS} {n : Nat} (b : Bd n st) (x : Str) : Bd (n + 1) (getV st x false).2 := by
  unfold getV; split
  · exact ⟨Nat.le_succ_of_le b.rows, Nat.le_succ_of_le b.made, fun l hl => Nat.le_succ_of_le (b.lists l hl), by have := b.told; show st.told.length ≤ _; omega, b.idx⟩
  · refine ⟨by simpa using Nat.le_succ_of_le b.rows, by simpa using b.made, fun l hl => ?_, by have := b.told; show st.told.length ≤ _; omega, fun p hp => ?_⟩
    · rcases List.mem_append.mp hl with q | q
      · exact Nat.le_succ_of_le (b.lists l q)
      · simp at q; subst q; exact Nat.zero_le _
    · have := b.idx p (by simpa using hp); simp; omega
section
variable {w : World} {A : Around} {E : Value → Shared → Prop} {s₀ : Shared} {B : Heap} {L : Addr} {m : Str → Option Value} {U : List (Addr × Cell)} {h : Heap} {k : Nat} {env : Env}
theorem values_step {Q : Value → Shared → Prop} {V : List (Addr × Cell)} {TO R M : Addr} {tv rv : List Value} {ms : List Addr} {st : DS} {pc : Value} {n : Nat} {x : Str} {t : Tok} {b : Bool} (T : Top0 h) (hA : AOk 4 A)
   (S : St B L m (DU TO R M tv rv ms st.made ++ V) h) (D : DI B pc st tv rv ms) (bd : Bd n st) (hn : n ≤ 5000)
   (hQ : ∀ B' h' k' a rv' ms', Kp B B' → DI B' pc (getV st x b).2 tv rv' ms' → ms'[(getV st x b).1]? = some a → (∀ (j : Nat) c, ms[j]? = some c → ms'[j]? = some c) → St B' L m (DU TO R M tv rv' ms' (getV st x b).2.made ++ V) h' → Q (.ref a) (Sh s₀ h' k')) :
    wpAny (model PW w) A (call (.ref 245) [.ref R, .ref M, .str x t, .bool b] []) Q E (Sh s₀ h k) := by
  have S₁ : St B L m (((TO, lst tv) :: (cellsM ms st.made ++ V)) ++ [(R, lst rv), (M, lst (ms.map Value.ref))]) h := S.perm (by
    show ((TO, lst tv) :: ([(R, lst rv), (M, lst (ms.map Value.ref))] ++ (cellsM ms st.made ++ V))).Perm _
    exact List.Perm.cons _ List.perm_append_comm)
  have hrl := D.rows.len
  have hrl2 : rv.length = st.rows.length := by rw [hrl]; simp [rowsA]
  have hm := D.len
  refine values_call (rows := rowsA ms st.rows) T hA S₁ D.rows (by have := bd.rows; omega) (by have := bd.made; simp; omega) (fun B' h' k' a hf kB S' => ?_) (fun B' h' k' a rv' hf kB hr' S' => ?_)
  · rw [findR_rowsA, Option.map_eq_some_iff] at hf
    obtain ⟨p, hp, rfl⟩ := hf
    have hg : getV st x b = (p.2, st) := by unfold getV; rw [hp]
    have hlt := find_idx bd hp
    rw [hg] at hQ
    have e : ms[p.2]? = some ((ms[p.2]?).getD 0) := by rw [List.getElem?_eq_getElem (by omega)]; rfl
    refine hQ B' h' k' _ rv ms kB (D.keeps kB) e (fun _ _ e => e) (S'.perm ?_)
    exact (List.Perm.cons _ List.perm_append_comm).symm
  · rw [findR_rowsA, Option.map_eq_none_iff] at hf
    have hg : getV st x b = (st.made.length, ⟨if b then st.rows ++ [(x, st.made.length)] else st.rows, st.made ++ [[]], st.told⟩) := by unfold getV; rw [hf]
    rw [hg] at hQ
    have hidx : ∀ p ∈ st.rows, p.2 < ms.length := fun p hp => by rw [hm]; exact bd.idx p hp
    have er : (if b then rowsA ms st.rows ++ [(x, a)] else rowsA ms st.rows) = rowsA (ms ++ [a]) (if b then st.rows ++ [(x, st.made.length)] else st.rows) := by
      cases b with
      | false => exact (rowsA_snoc hidx a).symm
      | true =>
        have : rowsA (ms ++ [a]) (st.rows ++ [(x, st.made.length)]) = rowsA (ms ++ [a]) st.rows ++ [(x, a)] := by
          simp [rowsA, ← hm]
        simp only [if_true]
        rw [this, rowsA_snoc hidx a]
    rw [er] at hr'
    refine hQ B' h' k' a rv' (ms ++ [a]) kB ⟨D.told.keeps kB, hr', by simp [hm]⟩ (by simp [← hm]) (fun j c e => by rw [List.getElem?_append_left (List.getElem?_eq_some_iff.mp e).1]; exact e) (S'.perm ?_)
    show ((TO, lst tv) :: ((cellsM ms st.made ++ V) ++ [(R, lst rv'), (M, lst (ms.map Value.ref ++ [Value.ref a])), (a, txts [])])).Perm
      ((TO, lst tv) :: (R, lst rv') :: (M, lst ((ms ++ [a]).map Value.ref)) :: (cellsM (ms ++ [a]) (st.made ++ [[]]) ++ V))
    rw [cellsM_snoc hm, List.map_append]
    refine List.Perm.cons _ (List.perm_append_comm.trans ?_)
    show ((R, lst rv') :: (M, lst (ms.map Value.ref ++ [Value.ref a])) :: (a, txts []) :: (cellsM ms st.made ++ V)).Perm _
    refine List.Perm.cons _ (List.Perm.cons _ ?_)
    rw [List.append_assoc]
    exact List.perm_middle.symm
theorem made_append {Q : Value → Shared → Prop} {V : List (Addr × Cell)} {TO R M a : Addr} {tv rv : List Value} {ms : List Addr} {st : DS} {pc : Value} {j : Nat} {x : Str} {t : Tok}
   (S : St B L m (DU TO R M tv rv ms st.made ++ V) h) (D : DI B pc st tv rv ms) (hl : ∀ l ∈ st.made, l.length ≤ 100000) (hj : ms[j]? = some a)
   (hQ : ∀ h', DI B pc (addV st j x) tv rv ms → St B L m (DU TO R M tv rv ms (addV st j x).made ++ V) h' → Q .none (Sh s₀ h' k)) :
    wpAny (model PW w) A (call (.builtin "list.append") [.ref a, .str x t]) Q E (Sh s₀ h k) := by
  have hlt : j < st.made.length := by rw [← D.len]; exact (List.getElem?_eq_some_iff.mp hj).1
  obtain ⟨l, hlj⟩ : ∃ l, st.made[j]? = some l := ⟨st.made[j], List.getElem?_eq_getElem hlt⟩
  obtain ⟨c1, c2, e1, e2⟩ := cellsM_split hj hlj
  have eU : DU TO R M tv rv ms st.made ++ V = ((TO, lst tv) :: (R, lst rv) :: (M, lst (ms.map Value.ref)) :: c1) ++ (a, txts l) :: (c2 ++ V) := by
    unfold DU; rw [e1]; simp
  rw [eU] at S
  refine appendT S (hl l (List.mem_of_getElem? hlj)) fun h' S' => hQ h' ⟨D.told, D.rows, by rw [D.len]; simp [addV]⟩ ?_
  have eU' : DU TO R M tv rv ms (addV st j x).made ++ V = ((TO, lst tv) :: (R, lst rv) :: (M, lst (ms.map Value.ref)) :: c1) ++ (a, txts (l ++ [x])) :: (c2 ++ V) := by
    unfold DU addV; rw [e2]; simp
  rw [eU']; exact S'
theorem made_plain {V : List (Addr × Cell)} {TO R M a : Addr} {tv rv : List Value} {ms : List Addr} {st : DS} {pc : Value} {j : Nat} (S : St B L m (DU TO R M tv rv ms st.made ++ V) h) (D : DI B pc st tv rv ms) (hj : ms[j]? = some a) :
    ∃ vs, h.PlainList a vs := by
  have hlt : j < st.made.length := by rw [← D.len]; exact (List.getElem?_eq_some_iff.mp hj).1
  obtain ⟨l, hlj⟩ : ∃ l, st.made[j]? = some l := ⟨st.made[j], List.getElem?_eq_getElem hlt⟩
  obtain ⟨c1, c2, e1, e2⟩ := cellsM_split hj hlj
  obtain ⟨o, e, lx, n, hl, rfl⟩ := S.get (a := a) (c := txts l) (by unfold DU; rw [e1]; simp)
  exact ⟨_, n, e⟩
end
section
variable {w : World} {A : Around} {E : Value → Shared → Prop} {R : Result → Shared → Prop} {s₀ : Shared} {B : Heap} {L : Addr} {m : Str → Option Value} {U : List (Addr × Cell)} {h : Heap} {k : Nat} {env : Env}
noncomputable abbrev putNm (y : Str) (m : Locs) (D : Addr) : Locs := fun z => if z = y then some (.ref D) else m z
theorem compUG {y : Str} {py spos : Pos} {target iter elt : Expr} {ifs : List Expr} {rest : List Comprehension} {scope : Scope} {pos : Pos} {cl : List (Str × Addr)} {Q : Flow → Shared → Prop} {Hn : Nat → Prop} {kp : Nat → Nat → Prop} {s : Shared} {T : Addr → Nat → (Nat → Value → Prop) → Heap → (Nat → List Value → Heap → Own → Prop) → Nat → Prop} (hkp : ∀ {a b c}, kp a b → b ≤ c → kp a c) (hk : env.scope.kind = .function) (hy : env.kindOf y = some .local)
    (hsw : swapsWith (.ListComp elt (⟨target, iter, ifs, 0⟩ :: rest) scope pos) (some (.Name y py)) spos.line env = pure true)
    (hclos : closureFor scope env = pure cl) (hcell : ∀ y ∈ scope.names, y.2 ≠ .cell) (hkind : scope.kind = .function) (hnames : ∀ y ∈ scope.names, y.2 = .local → scope.names.lookup y.1 = some .local)
    (run : ∀ {I : Addr} {n : Nat} {P : Nat → Value → Prop} {B₁ : Heap} {Inv : Nat → List Value → Heap → Own → Prop} {k₁ : Nat}, T I n P B₁ Inv k₁ → Hn n → ∀ {C D : Addr} {B₀ : Heap} {U₁ V : Own} {h₃ : Heap} {m₃ : Locs} {oI : Obj} {R : Result → Shared → Prop} (Y : Way w A I n P B₀), Kp B₁ B₀ → Owns target I Y.Wst →
      St B₀ C m₃ (U₁ ++ (I, its oI) :: (D, lst []) :: V) h₃ → Y.Wst 0 h₃ → Inv 0 [] B₀ U₁ → (∀ ys B' m' U' h₂ k₂, Inv n ys B' U' → Kp B₀ B' → St B' C m' (U' ++ (D, lst ys) :: V) h₂ → kp k₁ k₂ → R (.ok .next) (Sh s₀ h₂ k₂)) →
      codeAny (model PW w) A (.compLoop (.ListComp elt (⟨target, iter, ifs, 0⟩ :: rest) scope pos) 0 (.ref I) (.ref D) (compEnvC scope cl C env)) R (Sh s₀ h₃ k₁))
    (hv : wpAny (model PW w) A (eval iter env) (fun xv s₁ => wpAny (model PW w) A (pyIter xv) (CPre w A s₀ target env (putNm y) (fun _ => Q .next) T Hn kp) E s₁) E s)
    (hs : ∀ x, foldedSetIterable iter env x = pure x) :
    wpAny (model PW w) A (exec (.Assign [.Name y py] (.ListComp elt (⟨target, iter, ifs, 0⟩ :: rest) scope pos) spos) env) Q E s := by
  rw [exec_Assign_Name_used _ _ _ _ hsw]
  refine wpAny_bind (wpAny_standAt (wpAny_bind ?_))
  show wpAny _ A (do let _ ← comprehension (.ListComp elt (⟨target, iter, ifs, 0⟩ :: rest) scope pos) scope env _ (newList []) false (eval iter env) (some (assign (.Name y py) env))) _ _ _
  refine wpAny_bind (wpAny_mono ?_ (fun _ s' hq => wpAny_pure (wpAny_pure hq)) fun _ _ e => e)
  refine compG (s₀ := s₀) (use := some (assign (.Name y py) env)) (mD := putNm y) (Q := fun _ s' => Q .next s') (Qv := fun _ => Q .next) (T := T) (Hn := Hn) (kp := kp) hkp hclos hcell hkind hnames (fun {C D oL B' m₁ m' X Y h₂ k₂} hL S₄ fin => ?_) run hv hs
  obtain ⟨oL₂, eL₂, cL₂⟩ := S₄.get (a := env.locals) (c := its oL) (by simp)
  cases cL₂
  show wpAny (model PW w) A (assign (.Name y py) env (.ref D)) _ _ _
  refine wpAny_assign_Name (wpAny_storeName_local (s := Sh s₀ h₂ k₂) hy (hL _ eL₂) (fun h₃ hn₃ hs₃ => ?_) (by rw [hk]; rfl))
  obtain ⟨oN, es, ep, eN, rN⟩ := hn₃
  have S₅ := S₄.upd (c' := its oN) hs₃.extBut eN rfl
  exact ⟨m', S₅.ns, fun h' hs' => fin h' _ (Nat.le_succ k₂) (S₅.outer hs'.extBut (m := putNm y m₁ D) (fun h' e => ⟨oN, es, ep, e, rN⟩))⟩
theorem compU {y : Str} {py spos : Pos} {target iter elt : Expr} {ifs : List Expr} {scope : Scope} {pos : Pos} {cl : List (Str × Addr)} {Q : Flow → Shared → Prop} {s : Shared} (hk : env.scope.kind = .function) (hy : env.kindOf y = some .local)
    (hsw : swapsWith (.ListComp elt [⟨target, iter, ifs, 0⟩] scope pos) (some (.Name y py)) spos.line env = pure true)
    (hclos : closureFor scope env = pure cl) (hcell : ∀ y ∈ scope.names, y.2 ≠ .cell) (hkind : scope.kind = .function) (hnames : ∀ y ∈ scope.names, y.2 = .local → scope.names.lookup y.1 = some .local)
    (hv : wpAny (model PW w) A (eval iter env) (fun xv s₁ => wpAny (model PW w) A (pyIter xv) (CPre w A s₀ target env (putNm y) (fun _ => Q .next) (OneT w A s₀ target elt ifs scope cl env) (· ≤ sizeLine) (· ≤ ·)) E s₁) E s)
    (hs : ∀ x, foldedSetIterable iter env x = pure x := by intro _; rfl) :
    wpAny (model PW w) A (exec (.Assign [.Name y py] (.ListComp elt [⟨target, iter, ifs, 0⟩] scope pos) spos) env) Q E s :=
  compUG (s₀ := s₀) (T := OneT w A s₀ target elt ifs scope cl env) (Hn := (· ≤ sizeLine)) (kp := (· ≤ ·)) Nat.le_trans hk hy hsw hclos hcell hkind hnames (fun t hn => oneT_run t hn) hv hs
end
noncomputable def ansD : List Str → DS → List Nat × DS
  | [], st => ([], st)
  | x :: r, st => let g := getV st x false; let q := ansD r g.2; (g.1 :: q.1, q.2)
theorem ansD_snoc : ∀ (xs : List Str) (x : Str) (st : DS), ansD (xs ++ [x]) st = ((ansD xs st).1 ++ [(getV (ansD xs st).2 x false).1], (getV (ansD xs st).2 x false).2)
  | [], x, st => rfl
  | y :: r, x, st => by
    show ((getV st y false).1 :: (ansD (r ++ [x]) (getV st y false).2).1, (ansD (r ++ [x]) (getV st y false).2).2) = _
    rw [ansD_snoc r x]; rfl
theorem ansD_bd : ∀ (xs : List Str) (n : Nat) (st : DS), Bd n st → Bd (n + xs.length) (ansD xs st).2
  | [], _, _, b => b
  | x :: r, n, st, b => by
    have := ansD_bd r (n + 1) _ (getV_bd b x)
    rw [show n + (x :: r).length = n + 1 + r.length by simp; omega]
    exact this
theorem arg5 {w : World} {A : Around} {E : Value → Shared → Prop} {env : Env} {pos : Pos} {e f g i j : Expr} {Q : List Value → Shared → Prop} {s : Shared}
    (hv : wpAny (model PW w) A (eval e env) (fun v s₁ => wpAny (model PW w) A (eval f env) (fun u s₂ => wpAny (model PW w) A (eval g env) (fun z s₃ => wpAny (model PW w) A (eval i env) (fun y s₄ => wpAny (model PW w) A (eval j env) (fun x s₅ => Q [v, u, z, y, x] s₅) E s₄) E s₃) E s₂) E s₁) E s)
    (hs : starEach [e, f, g, i, j] env = [(false, eval e env), (false, eval f env), (false, eval g env), (false, eval i env), (false, eval j env)] := by rfl) : wpAny (model PW w) A (spliced (backTo pos (starEach [e, f, g, i, j] env))) Q E s := by
  rw [hs]
  exact spliced_cons (wpAny_mono hv (fun _ _ q => spliced_cons (wpAny_mono q (fun _ _ q => spliced_cons (wpAny_mono q (fun _ _ q => spliced_cons (wpAny_mono q (fun _ _ q => spliced_cons (wpAny_mono q (fun _ _ q => spliced_nil q) fun _ _ q => q)) fun _ _ q => q)) fun _ _ q => q)) fun _ _ q => q)) fun _ _ q => q)
noncomputable def swapOf (s : Stmt) (env : Env) : Sem Bool := match s with
  | .Assign [t] v p => swapsWith v (some t) p.line env
  | _ => pure false
noncomputable def ansC : List (Str × Nat × Pos) := [("k", 0, ⟨202, 65, 202, 68⟩), ("m", 0, ⟨202, 70, 202, 73⟩), ("", 0, ⟨202, 75, 202, 77⟩), ("q", 0, ⟨202, 79, 202, 82⟩)]
noncomputable def ansNames : List Str := ["k", "m", "", "q"].map Str.ofString
noncomputable def finD (st : DS) : List Nat × DS := let q := ansD ansNames (tellD st .shut); (q.1, ⟨q.2.rows, q.2.made ++ [[Str.ofString "new"]], q.2.told⟩)
noncomputable def resD (K S : Nat → Bool) (xs : List Str) : List Nat × DS := finD (runD K S 0 xs ⟨[], [], []⟩)
inductive ResAt (h : Heap) (pc : Value) (a : Addr) (st : DS) (ans : List Nat) : Prop
  | mk (T R M N W : Addr) (tv rv : List Value) (ms : List Addr) (n1 n2 n3 n4 n5 : Nat) (e0 : h.get? a = some (tupO [.ref T, .ref R, .ref M, .ref N, .ref W]))
    (e1 : h.get? T = some { cls := .type "list", data := .seq tv.toArray n1 }) (rT : ToldR h pc tv st.told)
    (e2 : h.get? R = some { cls := .type "list", data := .seq rv.toArray n2 }) (rR : RowsR h rv (rowsA ms st.rows))
    (e3 : h.get? M = some { cls := .type "list", data := .seq (ms.map Value.ref).toArray n3 }) (hm : ms.length = st.made.length) (mm : ∀ (j : Nat) b l, ms[j]? = some b → st.made[j]? = some l → ∃ o, h.get? b = some o ∧ txts l o)
    (e4 : h.get? N = some { cls := .type "list", data := .seq (ans.map fun j => Value.ref ((ms[j]?).getD 0)).toArray n4 })
    (w1 w2 : Addr) (t : Tok) (o : Obj) (e5 : h.get? W = some { cls := .type "list", data := .seq [Value.ref w1].toArray n5 }) (e6 : h.get? w1 = some (tupO [.str (Str.ofString "k") t, .ref w2])) (e7 : h.get? w2 = some o) (e8 : txts [Str.ofString "new"] o)
theorem relabel_kind {scope : Scope} {env : Env} {cl : List (Str × Addr)} {C : Addr} {x : Str} {kd : NameKind} (hx : scope.names.lookup x = some kd) (hne : kd ≠ .free) : (compEnvC scope cl C env).kindOf x = some kd := by
  have key : ∀ (names : List (Str × NameKind)), names.lookup x = some kd → (names.map fun (n, k) => if (k == NameKind.free && env.scope.kind == .function && env.kindOf n == some .cell) then (n, NameKind.cell) else (n, k)).lookup x = some kd := by
    intro names
    induction names with
    | nil => intro h; cases h
    | cons p r ih =>
      intro h
      obtain ⟨n, kk⟩ := p
      rw [List.lookup_cons] at h
      rw [List.map_cons]
      cases hb : x == n with
      | true =>
        rw [hb] at h
        cases h
        have : (kd == NameKind.free) = false := by cases kd <;> first | rfl | exact absurd rfl hne
        simp only [this, Bool.false_and, Bool.false_eq_true, if_false, List.lookup_cons, hb]
      | false =>
        rw [hb] at h
        have := ih h
        dsimp only
        split
        · rw [List.lookup_cons, hb]; exact this
        · rw [List.lookup_cons, hb]; exact this
  exact key _ hx
theorem relabel_free {scope : Scope} {env : Env} {cl : List (Str × Addr)} {C : Addr} {x : Str} (hx : scope.names.lookup x = some .free) (hk : env.scope.kind = .function) (hl : env.kindOf x = some .cell) : (compEnvC scope cl C env).kindOf x = some .cell := by
  have key : ∀ (names : List (Str × NameKind)), names.lookup x = some .free → (names.map fun (n, k) => if (k == NameKind.free && env.scope.kind == .function && env.kindOf n == some .cell) then (n, NameKind.cell) else (n, k)).lookup x = some .cell := by
    intro names
    induction names with
    | nil => intro h; cases h
    | cons p r ih =>
      intro h
      obtain ⟨n, kk⟩ := p
      rw [List.lookup_cons] at h
      rw [List.map_cons]
      cases hb : x == n with
      | true =>
        rw [hb] at h
        cases h
        rw [beq_iff_eq] at hb
        subst hb
        dsimp only
        rw [hl, hk]
        simp [List.lookup_cons]
      | false =>
        rw [hb] at h
        have := ih h
        dsimp only
        split
        · rw [List.lookup_cons, hb]; exact this
        · rw [List.lookup_cons, hb]; exact this
  exact key _ hx
section
variable {w : World} {A : Around} {E : Value → Shared → Prop} {s₀ : Shared} {B : Heap} {L : Addr} {m : Str → Option Value} {U : List (Addr × Cell)} {h : Heap} {k : Nat} {env : Env}
inductive DInv (TO R M a : Addr) (shut : Int) (tsh : Tok) (st : DS) (B' : Heap) (m' : Locs) (U' : Own) : Prop
  | mk (tv rv : List Value) (ms : List Addr) (hU : U' = DU TO R M tv rv ms st.made) (D : DI B' (.type "tuple") st tv rv ms) (e1 : m' "told" = some (.ref TO)) (e2 : m' "items" = some (.ref a)) (e3 : m' "shut" = some (.int shut tsh))
inductive AInv (TO R M : Addr) (tv : List Value) (q : List Nat × DS) (ys : List Value) (B' : Heap) (U' : Own) : Prop
  | mk (rv : List Value) (ms : List Addr) (hU : U' = DU TO R M tv rv ms q.2.made) (D : DI B' (.type "tuple") q.2 tv rv ms) (e : ys = q.1.map (fun j => Value.ref ((ms[j]?).getD 0))) (hj : ∀ j ∈ q.1, j < ms.length)
theorem due_body {Q : Flow → Shared → Prop} {a cr cm : Addr} {o : Obj} {xs : List Str} {shut : Int} {tsh : Tok} (S : St B env.locals m [(cm, cellC none), (cr, cellC none)] h) (T : Top0 B) (hA : AOk 6 A) (ok : EOk env)
   (hcs : env.cells = [(("made" : Str), cm), (("rows" : Str), cr)]) (hv : m "items" = some (.ref a)) (hv2 : m "shut" = some (.int shut tsh)) (ha : B.get? a = some o) (ho : txts xs o) (hn : xs.length ≤ 1000) (hsz : ∀ x ∈ xs, x.length ≤ 1000)
   (l1 : env.kindOf "items" = some .local) (l2 : env.kindOf "shut" = some .local) (l3 : env.kindOf "told" = some .local) (l4 : env.kindOf "i" = some .local) (l5 : env.kindOf "name" = some .local) (l6 : env.kindOf "sign" = some .local) (l7 : env.kindOf "value" = some .local) (l8 : env.kindOf "answers" = some .local)
   (c1 : env.kindOf "rows" = some .cell) (c2 : env.kindOf "made" = some .cell)
   (g1 : env.kindOf "range" = some .globalImplicit) (g2 : env.kindOf "len" = some .globalImplicit) (g3 : env.kindOf "_law_values" = some .globalImplicit)
   (hsw : swapOf (bodyAt 16 3) env = pure true)
   (hw : swappedStores (aTargets (bodyAt 16 0)) (aValue (bodyAt 16 0)) env = pure none)
   (hQ : ∀ h' k' d, Kp B h' → B.get? d = none → ResAt h' (.type "tuple") d (resD (fun i => decide ((i : Int) < shut)) (fun i => (i : Int) == shut) xs).2 (resD (fun i => decide ((i : Int) < shut)) (fun i => (i : Int) == shut) xs).1 → Q (.ret (.ref d)) (Sh s₀ h' k')) :
   Runs w A (execs (dBody (stmtAt 16)) env) Q E (Sh s₀ h k) := by
  refine ⟨?_⟩
  have hk := ok.kind
  have hh := hA.handled
  have hs : sizeLine = 16777216 := sizeLine_eq
  have k1 : env.cells.lookup ("rows" : Str) = some cr := by rw [hcs]; rfl
  have k2 : env.cells.lookup ("made" : Str) = some cm := by rw [hcs]; rfl
  refine wpAny_execs_cons ?_
  refine PyProof.Rows.Assign_Tuple ?_ (by rfl) hw
  refine wpAny_Tuple_spliced (arg3 ?_)
  refine wpAny_List_spliced (arg0 ⟨Nat.zero_le _, ?_⟩)
  have S₁ := S.alloc { cls := .type "list", data := .seq ([] : List Value).toArray } (c := lst []) ⟨0, rfl⟩
  generalize hR : h.objs.size = R at S₁ ⊢
  refine wpAny_List_spliced (arg0 ⟨Nat.zero_le _, ?_⟩)
  have S₂ := S₁.alloc { cls := .type "list", data := .seq ([] : List Value).toArray } (c := lst []) ⟨0, rfl⟩
  generalize hM : (h.push { cls := .type "list", data := .seq ([] : List Value).toArray }).objs.size = M at S₂ ⊢
  refine wpAny_List_spliced (arg0 ⟨Nat.zero_le _, ?_⟩)
  have S₃ := S₂.alloc { cls := .type "list", data := .seq ([] : List Value).toArray } (c := lst []) ⟨0, rfl⟩
  generalize hT : ((h.push { cls := .type "list", data := .seq ([] : List Value).toArray }).push { cls := .type "list", data := .seq ([] : List Value).toArray }).objs.size = TO at S₃ ⊢
  refine ⟨by show 3 ≤ sizeLine; omega, ?_⟩
  generalize ((h.push { cls := .type "list", data := .seq ([] : List Value).toArray }).push { cls := .type "list", data := .seq ([] : List Value).toArray }).push { cls := .type "list", data := .seq ([] : List Value).toArray } = h₃ at S₃ ⊢
  refine wpAny_assign_Tuple (items := #[.ref R, .ref M, .ref TO]) hh ⟨_, Heap.get?_push_size _ rfl, rfl, 0, rfl⟩ rfl rfl fun h₄ he => ?_
  have K₄ : Kp h₃ h₄ := fun b o e => he b o (Nat.ne_of_lt (Heap.lt_size (Heap.get?_push_of_some _ e))) (Heap.get?_push_of_some _ e)
  have S₄ := S₃.mono K₄
  refine wpAny_assignInOrder_more (wpAny_assign_Name (stC (U₁ := [(TO, lst []), (M, lst []), (R, lst []), (cm, cellC none)]) S₄ hk c1 k1 fun h₅ S₅ => ?_))
  have S₅' : St B env.locals m ([(TO, lst []), (M, lst []), (R, lst [])] ++ (cm, cellC none) :: [(cr, cellC (some (.ref R)))]) h₅ := S₅
  refine wpAny_assignInOrder_more (wpAny_assign_Name (stC S₅' hk c2 k2 fun h₆ S₆ => ?_))
  refine wpAny_assignInOrder_more (wpAny_assign_Name (stn S₆ hk l3 fun h₇ k₇ S₇ => ?_))
  refine wpAny_assignInOrder_none ?_
  obtain ⟨B₈, oM, kB₈, eM, cM, S₈⟩ := St.give (U₁ := [(TO, lst []), (M, lst []), (R, lst [])]) S₇
  obtain ⟨B₉, oR, kB₉, eR, cR, S₉⟩ := St.give (U₁ := [(TO, lst []), (M, lst []), (R, lst [])]) (U₂ := []) S₈
  have S₁₀ : St B₉ env.locals _ (DU TO R M [] [] [] [] ++ []) h₇ := S₉.perm (by
    show [(TO, lst []), (M, lst []), (R, lst [])].Perm [(TO, lst []), (R, lst []), (M, lst [])]
    exact List.Perm.cons _ (List.Perm.swap ..))
  have eM' : B₉.get? cm = some oM := kB₉ _ _ eM
  have kB : Kp B B₉ := kB₈.trans kB₉
  have hrows : ∀ {h'}, Kp B₉ h' → h'.IsCell cr (some (.ref R)) := fun K => ⟨oR, K _ _ eR, cR⟩
  have hmade : ∀ {h'}, Kp B₉ h' → h'.IsCell cm (some (.ref M)) := fun K => ⟨oM, K _ _ eM', cM⟩
  have T₇ : Top0 h₇ := (T.keeps kB).keeps S₉.keep
  obtain ⟨l, nl, hlx, rfl⟩ := id ho
  have hlen : (strValues l).length = xs.length := by rw [← hlx]; simp [strValues]
  refine wpAny_execs_cons ?_
  refine forRange (s₀ := s₀) (items := strValues l) (V := []) hh T₇ ok g1 g2 l1 (by decide) S₁₀ (by exact hv) (kB _ _ ha) rfl rfl (by omega)
    (fun i => DInv TO R M a shut tsh (runD (fun i => decide ((i : Int) < shut)) (fun i => (i : Int) == shut) 0 (xs.take i) ⟨[], [], []⟩)) ⟨[], [], [], rfl, ⟨.nil, .nil, rfl⟩, rfl, hv, hv2⟩ ?_ ?_
  · intro E' i u B' m' U' V' h₁₁ k₁₁ hi hinv hB S₁₁
    obtain ⟨tv, rv, ms, rfl, D, e1, e2, e3⟩ := hinv
    rw [hlen] at hi
    have hbd := runD_bd (fun i => decide ((i : Int) < shut)) (fun i => (i : Int) == shut) (xs.take i) 0 0 _ Bd.zero
    have htl : (xs.take i).length = i := by simp; omega
    rw [Nat.zero_add, htl] at hbd
    have hy : xs[i]? = some xs[i] := List.getElem?_eq_getElem hi
    generalize xs[i] = y at hy
    have hyl : y.length ≤ 1000 := hsz y (List.mem_of_getElem? hy)
    have hst : runD (fun i => decide ((i : Int) < shut)) (fun i => (i : Int) == shut) 0 (xs.take (i + 1)) ⟨[], [], []⟩ =
        stepD (decide ((i : Int) < shut)) ((i : Int) == shut) (runD (fun i => decide ((i : Int) < shut)) (fun i => (i : Int) == shut) 0 (xs.take i) ⟨[], [], []⟩) y := by
      rw [List.take_add_one, hy]
      show runD _ _ 0 (xs.take i ++ [y]) _ = _
      rw [runD_snoc, Nat.zero_add, htl]
    rw [hst]
    generalize runD (fun i => decide ((i : Int) < shut)) (fun i => (i : Int) == shut) 0 (xs.take i) ⟨[], [], []⟩ = st at *
    have hp3 := part3_len y
    refine wpAny_assign_Name (stn S₁₁ hk l4 fun h₁₂ k₁₂ S₁₂ => ?_)
    refine wpAny_execs_cons (wpAny_If ?_)
    refine wpAny_isTrue_Compare1 (nm (v := .int (i : Nat) u) S₁₂ hk l4 rfl (nm (v := .int shut tsh) S₁₂ hk l2 e3 (PyProof.Rows.eq_int (truthy_b ?_))))
    have rest : ∀ st1 tv h₁₃ k₁₃ m₁₃, (st1.rows = st.rows ∧ st1.made = st.made ∧ st1.told.length ≤ 2 * i + 1) → DI B' (.type "tuple") st1 tv rv ms → St B' env.locals m₁₃ (DU TO R M tv rv ms st1.made ++ V') h₁₃ →
        m₁₃ "told" = some (.ref TO) → m₁₃ "items" = some (.ref a) → m₁₃ "shut" = some (.int shut tsh) → m₁₃ "i" = some (.int (i : Nat) u) →
        ∀ (R' : Flow → Shared → Prop), (∀ f s₃, (f = .next ∨ f = .cont) → Nx s₀ env.locals V' B' (DInv TO R M a shut tsh (match cutEq y with
          | none => tellD st1 .refused
          | some p => pairD (decide ((i : Int) < shut)) st1 (Txt.strip p.1) (Txt.strip p.2))) s₃ → R' f s₃) →
        ∀ E', wpAny (model PW w) A (execs ((match bodyAt 16 1 with | .For _ _ b _ _ => b | _ => []).drop 1) env) R' E' (Sh s₀ h₁₃ k₁₃) := by
      intro st1 tv h₁₃ k₁₃ m₁₃ hst1 D S₁₃ f1 f2 f3 f4 R' hR E'
      refine wpAny_execs_cons (PyProof.Rows.Assign_Tuple ?_)
      obtain ⟨t', hx⟩ : ∃ t', (strValues l)[i]? = some (.str y t') := by
        rw [← hlx, List.getElem?_map, Option.map_eq_some_iff] at hy
        obtain ⟨p, hp, e⟩ := hy
        exact ⟨p.2, by simp only [strValues, List.getElem?_map, hp, Option.map_some, e]⟩
      have hL : h₁₃.IsList a (strValues l).toArray := ⟨_, S₁₃.old (hB _ _ (kB _ _ ha)), rfl, nl, rfl⟩
      refine smeth F.slot_str_partition F.type_str_partition (ixL (nm (v := .ref a) S₁₃ hk l1 f2 (nm (v := .int (i : Nat) u) S₁₃ hk l4 f4 ⟨a, _, (i : Nat), u, i, .str y t', rfl, rfl, hL, by rw [List.size_toArray]; omega, ?_, by rw [List.getElem?_toArray]; exact hx, ⟨⟨_, _, rfl⟩, arg1 (c_str ?_)⟩⟩)))
      · unfold seqIndex?
        have h0 : ¬ ((i : Int) < 0) := by omega
        simp only [List.size_toArray, h0, if_false]
        rw [if_pos (by simp only [Bool.and_eq_true, decide_eq_true_eq]; omega)]
        rfl
      refine part3_s (by omega) fun t1 t2 t3 k₁₄ _ => ?_
      refine assign3 (s₀ := s₀) hh hk (S₁₃.push _) (Heap.get?_push_size _ rfl) l5 l6 l7 fun h₁₅ k₁₅ S₁₅ => ?_
      refine wpAny_execs_cons (wpAny_If ?_)
      have hl1 : (part3 y).2.1.length ≤ 1 := by
        unfold part3; split
        · exact Nat.le_refl _
        · exact Nat.zero_le _
      refine isTrue_not (wpAny_isTrue_value (nm (v := .str (part3 y).2.1 t2) S₁₅ hk l6 rfl (truthy_s (by omega) ?_)))
      have htv : tv.length ≤ 3000 := by have := D.told.len; have := hst1.2.2; omega
      have S₁₅' : St B' env.locals _ ((TO, lst tv) :: (((R, lst rv) :: (M, lst (ms.map Value.ref)) :: cellsM ms st1.made) ++ V')) h₁₅ := S₁₅
      obtain ⟨nT, hT₁₅⟩ := lst_plain S₁₅' (R := TO) (vs := tv) (by simp)
      cases hc : cutEq y with
      | none =>
        rw [hc] at hR
        have e : (part3 y).2.1.length = 0 := by unfold part3; rw [hc]; rfl
        rw [decide_eq_false (by simpa using e)]
        refine wpAny_execs_cons ?_
        refine wpAny_Expr_any ?_ (interactive_no ok) (by rfl)
        refine lmeth slot_list_append type_list_append (nm (v := .ref TO) S₁₅ hk l3 f1 ⟨⟨TO, _, rfl, nT, hT₁₅⟩, arg1 (c_str ?_)⟩)
        refine appendL (U₁ := []) S₁₅' (by omega) fun h₁₆ S₁₆ => ?_
        refine wpAny_execs_cons (wpAny_Continue ?_)
        exact hR _ _ (.inr rfl) ⟨B', _, DU TO R M _ rv ms st1.made, h₁₆, _, rfl, Kp.refl _, S₁₆, _, rv, ms, rfl, ⟨D.told.snoc ⟨_, rfl⟩, D.rows, D.len⟩, f1, f2, f3⟩
      | some p =>
        rw [hc] at hR
        dsimp only at hR
        have e5 : (part3 y) = (p.1, Str.ofString "=", p.2) := by unfold part3; rw [hc]
        rw [e5] at S₁₅ S₁₅' hp3 ⊢
        dsimp only at hp3
        rw [decide_eq_true (show (Str.ofString "=").length ≠ 0 by decide)]
        refine wpAny_execs_nil ?_
        refine wpAny_execs_cons ?_
        refine wpAny_Expr_any ?_ (interactive_no ok) (by rfl)
        refine lmeth slot_list_append type_list_append (nm (v := .ref TO) S₁₅ hk l3 f1 ⟨⟨TO, _, rfl, nT, hT₁₅⟩, arg1 ?_⟩)
        refine wpAny_Tuple_spliced (arg2 ?_)
        refine smeth F.slot_str_strip F.type_str_strip (nm (v := .str p.1 t1) S₁₅ hk l5 rfl ⟨⟨_, _, rfl⟩, arg0 ?_⟩)
        refine SC.strip (s := Sh s₀ h₁₅ _) (fun t₁₆ k₁₆ => ?_) (by omega)
        refine smeth F.slot_str_strip F.type_str_strip (nm (v := .str p.2 t3) S₁₅ hk l7 rfl ⟨⟨_, _, rfl⟩, arg0 ?_⟩)
        refine SC.strip (s := Sh s₀ h₁₅ _) (fun t₁₇ k₁₇ => ?_) (by omega)
        refine ⟨by show 2 ≤ sizeLine; omega, ?_⟩
        have S₁₈ := S₁₅'.alloc (tupO [.str (Txt.strip p.1) t₁₆, .str (Txt.strip p.2) t₁₇]) (c := its _) rfl
        obtain ⟨B₁₉, o₁₉, kB₁₉, e₁₉, c₁₉, S₁₉⟩ := S₁₈.give0
        cases c₁₉
        refine appendL (U₁ := []) S₁₉ (by omega) fun h₂₀ S₂₀ => ?_
        have S₂₀' : St B₁₉ env.locals _ (DU TO R M (tv ++ [Value.ref h₁₅.objs.size]) rv ms (tellD st1 (.pair (Txt.strip p.1) (Txt.strip p.2))).made ++ V') h₂₀ := S₂₀
        have D₂₀ : DI B₁₉ (.type "tuple") (tellD st1 (.pair (Txt.strip p.1) (Txt.strip p.2))) (tv ++ [Value.ref h₁₅.objs.size]) rv ms :=
          ⟨(D.told.keeps kB₁₉).snoc ⟨h₁₅.objs.size, t₁₆, t₁₇, none, rfl, e₁₉⟩, D.rows.keeps kB₁₉, D.len⟩
        refine wpAny_execs_cons ?_
        refine wpAny_Expr_any ?_ (interactive_no ok) (by rfl)
        have kB₂₀ : Kp B₉ h₂₀ := (hB.trans kB₁₉).trans S₂₀.keep
        have T₂₀ : Top0 h₂₀ := T.keeps (kB.trans kB₂₀)
        refine lmeth slot_list_append type_list_append (callN (a := 245) (fd := lawFd 15 244) T₂₀ ok g3 (by decide) (arg4 ?_))
        refine nmC (hrows kB₂₀) hk c1 k1 (nmC (hmade kB₂₀) hk c2 k2 ?_)
        refine smeth F.slot_str_strip F.type_str_strip (nm (v := .str p.1 t1) S₂₀ hk l5 rfl ⟨⟨_, _, rfl⟩, arg0 ?_⟩)
        refine SC.strip (s := Sh s₀ h₂₀ _) (fun t₂₁ k₂₁ => ?_) (by omega)
        refine wpAny_Compare1 (nm (v := .int (i : Nat) u) S₂₀ hk l4 f4 (nm (v := .int shut tsh) S₂₀ hk l2 f3 (PyProof.Rows.lt_int ⟨(T₂₀.fns (245, 15, 244) (by decide)).1, ?_⟩)))
        have bd' : Bd (i + 1) (tellD st1 (.pair (Txt.strip p.1) (Txt.strip p.2))) := by
          obtain ⟨q1, q2, q3⟩ := hst1
          exact ⟨by show st1.rows.length ≤ _; rw [q1]; have := hbd.rows; omega, by show st1.made.length ≤ _; rw [q2]; have := hbd.made; omega, fun l hl => by have hl' : l ∈ st1.made := hl; rw [q2] at hl'; have := hbd.lists l hl'; omega,
            by simp [tellD]; omega, fun p hp => by have hp' : p ∈ st1.rows := hp; rw [q1] at hp'; show _ < st1.made.length; rw [q2]; exact hbd.idx p hp'⟩
        refine values_step (n := i + 1) T₂₀ (hA.le (by omega)) S₂₀' D₂₀ bd' (by omega) fun B₂₂ h₂₂ k₂₂ b rv' ms' kB₂₂ D₂₂ hb _ S₂₂ => ?_
        obtain ⟨vs, hpl⟩ := made_plain S₂₂ D₂₂ hb
        refine ⟨⟨b, vs, rfl, hpl⟩, arg1 ?_⟩
        refine smeth F.slot_str_strip F.type_str_strip (nm (v := .str p.2 t3) S₂₂ hk l7 rfl ⟨⟨_, _, rfl⟩, arg0 ?_⟩)
        refine SC.strip (s := Sh s₀ h₂₂ _) (fun t₂₃ k₂₃ => ?_) (by omega)
        refine made_append S₂₂ D₂₂ (fun l hl => ?_) hb fun h₂₄ D₂₄ S₂₄ => ?_
        · unfold getV at hl
          split at hl
          · have := bd'.lists l hl; omega
          · rcases List.mem_append.mp hl with q | q
            · have := bd'.lists l q; omega
            · simp at q; subst q; exact Nat.zero_le _
        refine wpAny_execs_nil ?_
        exact hR _ _ (.inl rfl) ⟨B₂₂, _, DU TO R M _ rv' ms' _, h₂₄, _, rfl, kB₁₉.trans kB₂₂, S₂₄, _, rv', ms', rfl, D₂₄, f1, f2, f3⟩
    have hbdt := hbd.told
    cases hsh : ((i : Int) == shut) with
    | true =>
      obtain ⟨nT, hT₁₂⟩ := lst_plain S₁₂ (R := TO) (vs := tv) (by simp [DU])
      have htv : tv.length ≤ 3000 := by have := D.told.len; omega
      refine wpAny_execs_cons ?_
      refine wpAny_Expr_any ?_ (interactive_no ok) (by rfl)
      refine lmeth slot_list_append type_list_append (nm (v := .ref TO) S₁₂ hk l3 e1 ⟨⟨TO, _, rfl, nT, hT₁₂⟩, arg1 (wpAny_Constant_none ?_)⟩)
      have S₁₂' : St B' env.locals _ ((TO, lst tv) :: (((R, lst rv) :: (M, lst (ms.map Value.ref)) :: cellsM ms st.made) ++ V')) h₁₂ := S₁₂
      refine appendL (U₁ := []) S₁₂' (by omega) fun h₁₃ S₁₃ => ?_
      refine wpAny_execs_nil ?_
      refine rest (tellD st .shut) _ _ _ _ ⟨rfl, rfl, by simp [tellD]; omega⟩ ⟨D.told.snoc rfl, D.rows, D.len⟩ S₁₃ e1 e2 e3 rfl _ (fun f s₃ hf q => ?_) _
      rcases hf with rfl | rfl
      · exact q
      · exact q
    | false =>
      refine wpAny_execs_nil ?_
      refine rest st _ _ _ _ ⟨rfl, rfl, by omega⟩ D S₁₂ e1 e2 e3 rfl _ (fun f s₃ hf q => ?_) _
      rcases hf with rfl | rfl
      · exact q
      · exact q
  · intro B' m' U' h₁₁ k₁₁ hinv hB S₁₁
    obtain ⟨tv, rv, ms, rfl, D, e1, e2, e3⟩ := hinv
    have hbd := runD_bd (fun i => decide ((i : Int) < shut)) (fun i => (i : Int) == shut) xs 0 0 _ Bd.zero
    rw [Nat.zero_add] at hbd
    rw [hlen, List.take_length] at S₁₁ D
    have hres : resD (fun i => decide ((i : Int) < shut)) (fun i => (i : Int) == shut) xs = finD (runD (fun i => decide ((i : Int) < shut)) (fun i => (i : Int) == shut) 0 xs ⟨[], [], []⟩) := rfl
    rw [hres] at hQ
    generalize runD (fun i => decide ((i : Int) < shut)) (fun i => (i : Int) == shut) 0 xs ⟨[], [], []⟩ = st at *
    have htv : tv.length ≤ 3000 := by have := D.told.len; have := hbd.told; omega
    have S₁₁' : St B' env.locals _ ((TO, lst tv) :: (((R, lst rv) :: (M, lst (ms.map Value.ref)) :: cellsM ms st.made) ++ [])) h₁₁ := S₁₁
    obtain ⟨nT, hT₁₁⟩ := lst_plain S₁₁' (R := TO) (vs := tv) (by simp)
    refine wpAny_execs_cons ?_
    refine wpAny_Expr_any ?_ (interactive_no ok) (by rfl)
    refine lmeth slot_list_append type_list_append (nm (v := .ref TO) S₁₁ hk l3 e1 ⟨⟨TO, _, rfl, nT, hT₁₁⟩, arg1 (wpAny_Constant_none ?_)⟩)
    refine appendL (U₁ := []) S₁₁' (by omega) fun h₁₂ S₁₂ => ?_
    have D₁₂ : DI B' (.type "tuple") (tellD st .shut) (tv ++ [.none]) rv ms := ⟨D.told.snoc rfl, D.rows, D.len⟩
    have bd₁₂ : Bd (xs.length + 1) (tellD st .shut) := ⟨Nat.le_succ_of_le hbd.rows, Nat.le_succ_of_le hbd.made, fun l hl => Nat.le_succ_of_le (hbd.lists l hl), by simp [tellD]; have := hbd.told; omega, hbd.idx⟩
    have S₁₂' : St B' env.locals _ (DU TO R M (tv ++ [.none]) rv ms (tellD st .shut).made ++ []) h₁₂ := S₁₂
    have hfin : finD st = ((ansD ansNames (tellD st .shut)).1, ⟨(ansD ansNames (tellD st .shut)).2.rows, (ansD ansNames (tellD st .shut)).2.made ++ [[Str.ofString "new"]], (ansD ansNames (tellD st .shut)).2.told⟩) := rfl
    rw [hfin] at hQ
    generalize tellD st .shut = st2 at *
    clear D S₁₁ S₁₁' S₁₂ hT₁₁
    generalize tv ++ [Value.none] = tv2 at *
    refine wpAny_execs_cons ?_
    refine compU (s₀ := s₀) (cl := [(("rows" : Str), cr), (("made" : Str), cm)]) hk l8 hsw ?_ (by decide) rfl (by decide) ?_
    · refine (closureFor_some ?_).trans ?_
      · rw [hcs]
        intro x hx hf
        simp only [List.mem_cons, List.not_mem_nil, or_false] at hx
        rcases hx with rfl | rfl | rfl | rfl | rfl <;> first | rfl | cases hf
      · rw [hcs]; rfl
    refine listStrs ?cs ?b1 ?b2 ?b3
    case cs => exact ansC
    case b1 => rfl
    case b2 => show 4 ≤ sizeLine; omega
    intro oN hN hfN
    have hN' : txts ansNames oN := hN
    have S₁₃ := S₁₂'.alloc oN (c := its oN) rfl hfN
    obtain ⟨B₁₄, o', kB₁₄, e₁₄, co, S₁₄⟩ := S₁₃.give0
    cases co
    generalize hNa : h₁₂.objs.size = NA at e₁₄ ⊢
    obtain ⟨lN, nN, hlN, rfl⟩ := hN'
    have hL : (h₁₂.push { cls := .type "list", data := .seq (strValues lN).toArray nN }).IsList NA (strValues lN).toArray := ⟨_, S₁₄.old e₁₄, rfl, nN, rfl⟩
    refine wpAny_pyIter_list (s := Sh s₀ _ _) hL ?_
    generalize hH : h₁₂.push { cls := .type "list", data := .seq (strValues lN).toArray nN } = h₁₅ at S₁₄ hL ⊢
    have hne : NA ≠ h₁₅.objs.size := Nat.ne_of_lt (Heap.lt_size (S₁₄.old e₁₄))
    have S₁₅ : St B₁₄ env.locals _ (DU TO R M tv2 rv ms st2.made ++ (h₁₅.objs.size, its (listIt NA)) :: []) (h₁₅.push (listIt NA)) := St.allocMid S₁₄ (listIt NA) (c := its (listIt NA)) rfl
    have hlN4 : (strValues lN).length = 4 := by have := congrArg List.length hlN; simpa [strValues, ansNames] using this
    refine ⟨h₁₅.objs.size, (strValues lN).length, _, B₁₄, _, DU TO R M tv2 rv ms st2.made, [], listIt NA, _, _, wayList hh (items := strValues lN) e₁₄ hne,
      fun i => AInv TO R M tv2 (ansD (ansNames.take i) st2),
      rfl, rfl, S₁₅, by omega, ⟨⟨_, Heap.get?_push_size _ rfl, rfl, rfl⟩, hL.push _⟩, .inl fun _ => rfl, fun B' kb => ⟨rv, ms, rfl, (D₁₂.keeps kB₁₄).keeps kb, rfl, fun j hj => (nomatch hj)⟩, ?_, ?_⟩
    · intro E' i v ys B₂ m₂ U₂ V h₂ k₂ C cenv hcv hi hP hinv hB₂ S₂ hk₂
      obtain ⟨rv', ms', rfl, D₂, rfl, hys⟩ := hinv
      obtain ⟨y, t, rfl, hy⟩ := strVal_get hP
      rw [hlN] at hy
      have hst : ansD (ansNames.take (i + 1)) st2 = ((ansD (ansNames.take i) st2).1 ++ [(getV (ansD (ansNames.take i) st2).2 y false).1], (getV (ansD (ansNames.take i) st2).2 y false).2) := by
        rw [List.take_add_one, hy]; exact ansD_snoc _ _ _
      have hbd2 : Bd (xs.length + 1 + 4) (ansD (ansNames.take i) st2).2 := by
        have b := ansD_bd (ansNames.take i) _ _ bd₁₂
        have hl4 : (ansNames.take i).length ≤ 4 := by rw [List.length_take]; have : ansNames.length = 4 := rfl; omega
        exact ⟨by have := b.rows; omega, by have := b.made; omega, fun l hl => by have := b.lists l hl; omega, by have := b.told; omega, b.idx⟩
      dsimp only
      rw [hst]
      generalize ansD (ansNames.take i) st2 = q at *
      have kk : cenv.scope.kind = .function := by rw [hcv]; rfl
      have kx : cenv.kindOf "name" = some .local := by rw [hcv]; exact relabel_kind rfl (by decide)
      have kv : cenv.kindOf "_law_values" = some .globalImplicit := by rw [hcv]; exact relabel_kind rfl (by decide)
      have kr : cenv.kindOf "rows" = some .cell := by rw [hcv]; exact relabel_free rfl hk c1
      have km : cenv.kindOf "made" = some .cell := by rw [hcv]; exact relabel_free rfl hk c2
      have kcr : cenv.cells.lookup ("rows" : Str) = some cr := by rw [hcv]; rfl
      have kcm : cenv.cells.lookup ("made" : Str) = some cm := by rw [hcv]; rfl
      have okc : EOk cenv := ⟨kk, by rw [hcv]; exact ok.globals, by rw [hcv]; exact ok.builtins⟩
      refine wpAny_assign_Name (stn S₂ kk kx fun h₃ k₃ S₃ => wpAny_tests_nil ?_)
      have kB₃ : Kp B₉ h₃ := ((hB.trans kB₁₄).trans hB₂).trans S₃.keep
      have T₃ : Top0 h₃ := T.keeps (kB.trans kB₃)
      refine callN (a := 245) (fd := lawFd 15 244) T₃ okc kv (by decide) (arg4 ?_)
      refine nmC (hrows kB₃) kk kr kcr (nmC (hmade kB₃) kk km kcm ?_)
      refine nm (v := .str y t) S₃ kk kx (by simp) (wpAny_Constant_bool ⟨(T₃.fns (245, 15, 244) (by decide)).1, ?_⟩)
      refine values_step T₃ (hA.le (by omega)) S₃ D₂ hbd2 (by omega) fun B₄ h₄ k₄ b rv'' ms'' kB₄ D₄ hb hpre S₄ => ?_
      have hys' : ∀ j ∈ q.1, ∃ c, ms'[j]? = some c := fun j hj => ⟨ms'[j]'(hys j hj), List.getElem?_eq_getElem (hys j hj)⟩
      refine ⟨B₄, _, DU TO R M tv2 rv'' ms'' _, h₄, k₄, rfl, kB₄, S₄, rv'', ms'', rfl, D₄, ?_, fun j hj => ?_⟩
      · rw [List.map_append]
        congr 1
        · apply List.map_congr_left
          intro j hj
          obtain ⟨c, hc⟩ := hys' j hj
          rw [hc, hpre j c hc]
        · simp [hb]
      · rcases List.mem_append.mp hj with hj | hj
        · obtain ⟨c, hc⟩ := hys' j hj
          exact (List.getElem?_eq_some_iff.mp (hpre j c hc)).1
        · simp only [List.mem_singleton] at hj
          subst hj
          exact (List.getElem?_eq_some_iff.mp hb).1
    · intro ys B₂ U₂ D₂ h₂ k₂ hinv hB₂ S₂ hk₂
      obtain ⟨rv', ms', rfl, DD, rfl, hys⟩ := hinv
      have hall : ansNames.take (strValues lN).length = ansNames := by rw [hlN4]; rfl
      rw [hall] at S₂ DD hys
      have hbd2 : Bd (xs.length + 1 + 4) (ansD ansNames st2).2 := ansD_bd ansNames _ _ bd₁₂
      generalize ansD ansNames st2 = q at *
      have k₂B : Kp B₉ h₂ := ((hB.trans kB₁₄).trans hB₂).trans S₂.keep
      refine wpAny_execs_cons ?_
      refine wpAny_Expr_any ?_ (interactive_no ok) (by rfl)
      have S₂' : St B₂ env.locals _ ([(TO, lst tv2), (R, lst rv')] ++ (M, lst (ms'.map Value.ref)) :: (cellsM ms' q.2.made ++ [(D₂, lst (q.1.map (fun j => Value.ref ((ms'[j]?).getD 0))))])) h₂ := S₂.perm (by unfold DU; simp)
      obtain ⟨nM, hM₂⟩ := lst_plain S₂' (R := M) (vs := ms'.map Value.ref) (by simp)
      refine lmeth slot_list_append type_list_append (nmC (hmade k₂B) hk c2 k2 ⟨⟨M, _, rfl, nM, hM₂⟩, arg1 (wpAny_List_spliced (arg1 (c_str ⟨?_, ?_⟩)))⟩)
      · show 1 ≤ sizeLine; omega
      have S₃ := S₂'.alloc { cls := .type "list", data := .seq ([Value.str (Str.ofString "new") k₂] : List Value).toArray } (c := txts [Str.ofString "new"]) ⟨[(Str.ofString "new", k₂)], 0, rfl, rfl⟩
      generalize hW : h₂.objs.size = W0 at S₃ ⊢
      have S₃' : St B₂ env.locals _ ([(W0, txts [Str.ofString "new"]), (TO, lst tv2), (R, lst rv')] ++ (M, lst (ms'.map Value.ref)) :: (cellsM ms' q.2.made ++ [(D₂, lst (q.1.map (fun j => Value.ref ((ms'[j]?).getD 0))))])) _ := S₃
      refine appendL S₃' (by have := DD.len; have := hbd2.made; simp; omega) fun h₄ S₄ => ?_
      have k₄B : Kp B₉ h₄ := ((hB.trans kB₁₄).trans hB₂).trans S₄.keep
      refine wpAny_execs_cons (wpAny_Return_some ?_)
      refine wpAny_Tuple_spliced (arg5 ?_)
      refine nm (v := .ref TO) S₄ hk l3 e1 (nmC (hrows k₄B) hk c1 k1 (nmC (hmade k₄B) hk c2 k2 (nm (v := .ref D₂) S₄ hk l8 rfl ?_)))
      refine wpAny_List_spliced (arg1 (wpAny_Tuple_spliced (arg2 (c_str (wpAny_List_spliced (arg1 (c_str ⟨?_, ?_, ?_, ?_⟩)))))))
      · show 1 ≤ sizeLine; omega
      · show 2 ≤ sizeLine; omega
      · show 1 ≤ sizeLine; omega
      refine ⟨by show 5 ≤ sizeLine; omega, ?_⟩
      have res : ∀ t1 t2 k', Q (.ret (.ref (((h₄.push (listO [.str (Str.ofString "new") t1])).push (tupO [.str (Str.ofString "k") t2, .ref h₄.objs.size])).push (listO [.ref (h₄.push (listO [.str (Str.ofString "new") t1])).objs.size])).objs.size))
          (Sh s₀ ((((h₄.push (listO [.str (Str.ofString "new") t1])).push (tupO [.str (Str.ofString "k") t2, .ref h₄.objs.size])).push (listO [.ref (h₄.push (listO [.str (Str.ofString "new") t1])).objs.size])).push
            (tupO [.ref TO, .ref R, .ref M, .ref D₂, .ref ((h₄.push (listO [.str (Str.ofString "new") t1])).push (tupO [.str (Str.ofString "k") t2, .ref h₄.objs.size])).objs.size])) k') := by
        intro t1 t2 k'
        have g1 : (h₄.push (listO [.str (Str.ofString "new") t1])).get? h₄.objs.size = some (listO [.str (Str.ofString "new") t1]) := Heap.get?_push_size _ rfl
        have kA : Kp h₄ (h₄.push (listO [.str (Str.ofString "new") t1])) := Kp.push _ _
        generalize h₄.push (listO [.str (Str.ofString "new") t1]) = hA at g1 kA ⊢
        have g2 : (hA.push (tupO [.str (Str.ofString "k") t2, .ref h₄.objs.size])).get? hA.objs.size = some (tupO [.str (Str.ofString "k") t2, .ref h₄.objs.size]) := Heap.get?_push_size _ rfl
        have kBb : Kp hA (hA.push (tupO [.str (Str.ofString "k") t2, .ref h₄.objs.size])) := Kp.push _ _
        generalize hA.push (tupO [.str (Str.ofString "k") t2, .ref h₄.objs.size]) = hBb at g2 kBb ⊢
        have g3 : (hBb.push (listO [.ref hA.objs.size])).get? hBb.objs.size = some (listO [.ref hA.objs.size]) := Heap.get?_push_size _ rfl
        have kC : Kp hBb (hBb.push (listO [.ref hA.objs.size])) := Kp.push _ _
        generalize hBb.push (listO [.ref hA.objs.size]) = hC at g3 kC ⊢
        have g4 : (hC.push (tupO [.ref TO, .ref R, .ref M, .ref D₂, .ref hBb.objs.size])).get? hC.objs.size = some (tupO [.ref TO, .ref R, .ref M, .ref D₂, .ref hBb.objs.size]) := Heap.get?_push_size _ rfl
        have kD : Kp hC (hC.push (tupO [.ref TO, .ref R, .ref M, .ref D₂, .ref hBb.objs.size])) := Kp.push _ _
        generalize hC.push (tupO [.ref TO, .ref R, .ref M, .ref D₂, .ref hBb.objs.size]) = hD at g4 kD ⊢
        have k4D : Kp h₄ hD := ((kA.trans kBb).trans kC).trans kD
        have S₅ := S₄.mono k4D
        have eU : [(W0, txts [Str.ofString "new"]), (TO, lst tv2), (R, lst rv')] ++ (M, lst (ms'.map Value.ref ++ [Value.ref W0])) :: (cellsM ms' q.2.made ++ [(D₂, lst (q.1.map (fun j => Value.ref ((ms'[j]?).getD 0))))]) =
          (W0, txts [Str.ofString "new"]) :: (TO, lst tv2) :: (R, lst rv') :: (M, lst (ms'.map Value.ref ++ [Value.ref W0])) :: (cellsM ms' q.2.made ++ [(D₂, lst (q.1.map (fun j => Value.ref ((ms'[j]?).getD 0))))]) := rfl
        rw [eU] at S₅
        obtain ⟨n1, r1⟩ := lst_plain S₅ (R := TO) (vs := tv2) (by simp)
        obtain ⟨n2, r2⟩ := lst_plain S₅ (R := R) (vs := rv') (by simp)
        obtain ⟨n3, r3⟩ := lst_plain S₅ (R := M) (vs := ms'.map Value.ref ++ [Value.ref W0]) (by simp)
        obtain ⟨n4, r4⟩ := lst_plain S₅ (R := D₂) (vs := q.1.map (fun j => Value.ref ((ms'[j]?).getD 0))) (by simp)
        have kBh : Kp B₂ hD := S₅.keep
        have lm := DD.len
        refine hQ hD k' hC.objs.size (kB.trans ((((hB.trans kB₁₄).trans hB₂)).trans kBh)) ?_ ⟨TO, R, M, D₂, hBb.objs.size, tv2, rv', ms' ++ [W0], n1, n2, n3, n4, 0, g4, r1, DD.told.keeps kBh, r2, ?_, ?_, ?_, ?_, ?_, hA.objs.size, h₄.objs.size, t2, _, kD _ _ g3, kD _ _ (kC _ _ g2), kD _ _ (kC _ _ (kBb _ _ g1)), ⟨[(Str.ofString "new", t1)], 0, rfl, rfl⟩⟩
        · exact ((((kB.trans ((hB.trans kB₁₄).trans hB₂)).trans S₄.keep).trans kA).trans kBb).trans kC |>.none (get_none_of_ge (Nat.le_refl _))
        · have e : rowsA (ms' ++ [W0]) q.2.rows = rowsA ms' q.2.rows := rowsA_snoc (fun p hp => by rw [lm]; exact hbd2.idx p hp) W0
          show RowsR hD rv' (rowsA (ms' ++ [W0]) q.2.rows)
          rw [e]; exact DD.rows.keeps kBh
        · rw [List.map_append]; exact r3
        · show (ms' ++ [W0]).length = (q.2.made ++ [[Str.ofString "new"]]).length
          simp [lm]
        · intro j b l hj hl
          have hl' : (q.2.made ++ [[Str.ofString "new"]])[j]? = some l := hl
          by_cases hlt : j < ms'.length
          · rw [List.getElem?_append_left hlt] at hj
            rw [List.getElem?_append_left (by omega)] at hl'
            obtain ⟨c1', c2', e1', _⟩ := cellsM_split hj hl'
            exact S₅.get (a := b) (c := txts l) (by rw [e1']; simp)
          · have hjlt := (List.getElem?_eq_some_iff.mp hj).1
            have : j = ms'.length := by simp at hjlt; omega
            subst this
            simp at hj
            rw [lm] at hl'
            simp at hl'
            subst hj hl'
            exact S₅.get (a := W0) (c := txts [Str.ofString "new"]) (by simp)
        · have : q.1.map (fun j => Value.ref (((ms' ++ [W0])[j]?).getD 0)) = q.1.map (fun j => Value.ref ((ms'[j]?).getD 0)) := by
            apply List.map_congr_left
            intro j hj
            rw [List.getElem?_append_left (hys j hj)]
          rw [this]; exact r4
      exact res _ _ _
end
section
variable {w : World} {A : Around} {E : Value → Shared → Prop} {s₀ : Shared} {B : Heap} {L : Addr} {m : Str → Option Value} {U : List (Addr × Cell)} {h : Heap} {k : Nat} {env : Env}
theorem due_call {Q : Value → Shared → Prop} {a : Addr} {o : Obj} {xs : List Str} {shut : Int} {tsh : Tok} (T : Top0 h) (hA : AOk 8 A) (ha : h.get? a = some o) (ho : txts xs o) (hn : xs.length ≤ 1000) (hsz : ∀ x ∈ xs, x.length ≤ 1000)
   (hQ : ∀ h' k' d, Kp h h' → h.get? d = none → ResAt h' (.type "tuple") d (resD (fun i => decide ((i : Int) < shut)) (fun i => (i : Int) == shut) xs).2 (resD (fun i => decide ((i : Int) < shut)) (fun i => (i : Int) == shut) xs).1 → Q (.ref d) (Sh s₀ h' k')) :
    wpAny (model PW w) A (call (.ref 250) [.ref a, .int shut tsh] []) Q E (Sh s₀ h k) := by
  obtain ⟨hf, hcd⟩ := T.fns (250, 16, 249) (by decide)
  refine callC (fd := lawFd 16 249) (body := dBody (stmtAt 16)) (binds := [("items", .ref a), ("shut", .int shut tsh)]) hf hcd T.nolimit (by have := hA.depth; omega) rfl rfl rfl (by with_unfolding_all rfl) rfl (PyProof.Rows.locs (by rfl)) (by decide) rfl rfl rfl
    fun env h₁ k₁ he ok hcs S => ?_
  have ec : cellsFrom (h.objs.size + 1) (lawFd 16 249).scope.names [] = [(("made" : Str), h.objs.size + 2), (("rows" : Str), h.objs.size + 1)] := by rfl
  rw [ec] at hcs S
  have A2 : AOk 6 (A.deeper env) := (hA.le (by omega)).deeper
  have S2 : St h env.locals (fun x => List.lookup x [(("items" : Str), Value.ref a), (("shut" : Str), Value.int shut tsh)].reverse) [(h.objs.size + 2, cellC none), (h.objs.size + 1, cellC none)] h₁ := S
  have l1 : env.kindOf "items" = some .local := by subst he; rfl
  have l2 : env.kindOf "shut" = some .local := by subst he; rfl
  have l3 : env.kindOf "told" = some .local := by subst he; rfl
  have l4 : env.kindOf "i" = some .local := by subst he; rfl
  have l5 : env.kindOf "name" = some .local := by subst he; rfl
  have l6 : env.kindOf "sign" = some .local := by subst he; rfl
  have l7 : env.kindOf "value" = some .local := by subst he; rfl
  have l8 : env.kindOf "answers" = some .local := by subst he; rfl
  have c1 : env.kindOf "rows" = some .cell := by subst he; rfl
  have c2 : env.kindOf "made" = some .cell := by subst he; rfl
  have g1 : env.kindOf "range" = some .globalImplicit := by subst he; rfl
  have g2 : env.kindOf "len" = some .globalImplicit := by subst he; rfl
  have g3 : env.kindOf "_law_values" = some .globalImplicit := by subst he; rfl
  have hsw : swapOf (bodyAt 16 3) env = pure true := by subst he; rfl
  have hw : swappedStores (aTargets (bodyAt 16 0)) (aValue (bodyAt 16 0)) env = pure none := by subst he; rfl
  obtain ⟨key⟩ := due_body (E := outE w A env E) (Q := retQ Q) (w := w) (k := k₁) (s₀ := s₀) S2 T A2 ok hcs rfl rfl ha ho hn hsz l1 l2 l3 l4 l5 l6 l7 l8 c1 c2 g1 g2 g3 hsw hw hQ
  assumption
end
section
variable {w : World} {A : Around} {E : Value → Shared → Prop} {s₀ : Shared} {B : Heap} {L : Addr} {m : Str → Option Value} {U : List (Addr × Cell)} {h : Heap} {k : Nat} {env : Env} {P : Params}
theorem reads_203 : readsIn (K0 P) 203 (.type "type") = true := by kernel_rfl
theorem find_parse : findCls (K0 P) (.ref 203) (.type "type") "parse" = some (.get (.builtin "classmethod.__get__") (.ref 199) .none (.ref 203)) := by kernel_rfl
theorem rec_parse : recIn (K0 P) 199 "classmethod" = some [.ref 197, .bool false] := by kernel_rfl
theorem ga_203 : specialIn (K0 P) (.ref 203) "__getattribute__" = some (some (.builtin "type.__getattribute__")) := by kernel_rfl
theorem parse_method {pl : Sem Bool} {Q : Value × List Value → Shared → Prop} (X : (K0 P).In h)
    (hQ : Q (.ref h.objs.size, []) (Sh s₀ (h.push (methodObj (.ref 197) (.ref 203))) (k + 1))) : wpAny (model PW w) A (getMethod (.ref 203) "parse" pl) Q E (Sh s₀ h k) := by
  refine method_cls (s := Sh s₀ h k) X ga_203 ?_
  refine cls_bind (s := Sh s₀ h k) X reads_203 find_parse (wpAny_call (cm_get (s := Sh s₀ h (k + 1)) X rec_parse ?_))
  exact handed_on rfl hQ
end
end Mine
end
section
open PySem PySem.W PySem.Calls
open Sem (wp)
namespace Mine
theorem mro_map : mroOf (.type "map") = pure [.type "map", .type "object"] := by rw [mroOf_type]; kernel_rfl
theorem lookup_map_new : typeLookup (.type "map") "__new__" = pure (some (.builtin "map.__new__")) := by rw [typeLookup_type, builtinLookup_eq_fast]; kernel_rfl
theorem slot_map_init : Slot "map" "__init__" "object.__init__" :=
  .of (owner := "object") (n := "__init__") (by rw [typeLookup_type, builtinLookup_eq_fast]; kernel_rfl) (by decide +kernel) (by decide +kernel) (by decide +kernel)
    (by first | exact .inl (by decide +kernel) | exact .inr (by decide +kernel)) (by rw [isSubtype_type]; kernel_rfl)
theorem slot_map_iter : Slot "map" "__iter__" "map.__iter__" :=
  .of (owner := "map") (n := "__iter__") (by rw [typeLookup_type, builtinLookup_eq_fast]; kernel_rfl) (by decide +kernel) (by decide +kernel) (by decide +kernel)
    (by first | exact .inl (by decide +kernel) | exact .inr (by decide +kernel)) (by rw [isSubtype_type]; kernel_rfl)
theorem slot_map_next : Slot "map" "__next__" "map.__next__" :=
  .of (owner := "map") (n := "__next__") (by rw [typeLookup_type, builtinLookup_eq_fast]; kernel_rfl) (by decide +kernel) (by decide +kernel) (by decide +kernel)
    (by first | exact .inl (by decide +kernel) | exact .inr (by decide +kernel)) (by rw [isSubtype_type]; kernel_rfl)
theorem entry_map_next : entryFor table "map.__next__" = some Builtin.«map.__next__» := entryFor_of_tree (by kernel_rfl)
theorem entry_map_new : entryFor table "map.__new__" = some Builtin.«map.__new__» := entryFor_of_tree (by kernel_rfl)
theorem args_map_next (a : Value) : argsOk "map.__next__" ⟨[a], []⟩ := by unfold argsOk; kernel_rfl
theorem args_map_iter (a : Value) : argsOk "map.__iter__" ⟨[a], []⟩ := by unfold argsOk; kernel_rfl
theorem entry_map_iter : entryFor table "map.__iter__" = some Builtin.«dict_keyiterator.__iter__» :=
  entryFor_alias (id' := "dict_keyiterator.__iter__") (by kernel_rfl) (by first | rfl | decide +kernel | (unfold String.splitOn; simp +decide [String.splitOnAux])) (by decide +kernel) (by kernel_rfl)
theorem called_map : TypeCalled "map" "map.__new__" "object.__init__" :=
  ⟨by decide +kernel, by decide +kernel, ⟨_, _, mro_map⟩, madeBy_type mro_map lookup_map_new (by decide +kernel), by decide +kernel, by rw [isSubtype_type]; kernel_rfl, slot_map_init⟩
theorem typeCall_map_2 (a b : Value) : checkTypeCall "map" ⟨[a, b], []⟩ = pure () := by kernel_rfl
theorem newCall_map_2 (a b : Value) : checkBuiltinCall "map.__new__" ⟨[.type "map", a, b], []⟩ = pure () := by kernel_rfl
theorem sub_map : isSubtype (.type "map") (.type "map") = pure true := by rw [isSubtype_type]; kernel_rfl
noncomputable abbrev mapH (h : Heap) (l : Addr) (f : Value) : Heap := ((h.push (listIt l)).push (tupO [.ref h.objs.size])).push { cls := .type "map", data := .fields #[.ref (h.push (listIt l)).objs.size, f] }
theorem meets_map_new (f : Value) (l : Addr) (xs : Array Value) :
    Meets (Builtin.«map.__new__» ⟨[.type "map", f, .ref l], []⟩) (fun _ R s => s.heap.IsList l xs ∧
      R (.ok (.ret (.ref ((s.heap.push (listIt l)).push (tupO [.ref s.heap.objs.size])).objs.size))) { s with heap := mapH s.heap l f }) :=
  .of_wp fun prog w A R s h => by
    obtain ⟨hp, g, d, tk, os⟩ := s; obtain ⟨hl, h⟩ := h
    have hsub := sub_map
    have hL : Heap.IsList (Shared.heap ⟨hp, g, d, tk, os⟩) l xs := hl
    wp_walk using wpAny_pyIter_list hL
    exact ⟨_, rfl, h⟩
section
variable {w : World} {A : Around} {E : Value → Shared → Prop} {s₀ : Shared} {B : Heap} {L : Addr} {m : Str → Option Value} {U : List (Addr × Cell)} {h : Heap} {k : Nat} {env : Env} {P : Params}
theorem call_map {f : Value} {l : Addr} {xs : Array Value} {Q : Value → Shared → Prop} (hl : h.IsList l xs)
    (hQ : Q (.ref ((h.push (listIt l)).push (tupO [.ref h.objs.size])).objs.size) (Sh s₀ (mapH h l f) k)) :
    wpAny (model PW w) A (call (.type "map") [f, .ref l]) Q E (Sh s₀ h k) :=
  callType_new (s := Sh s₀ h k) called_map (by decide) (typeCall_map_2 _ _) (newCall_map_2 _ _) (fun obj => F.args_object_init_3 obj _ _) entry_map_new (meets_map_new f l xs)
    ⟨hl, ⟨_, Heap.get?_push_size _ rfl, rfl⟩, hQ⟩
end
theorem map_no_len : typeLookup (.type "map") "__len__" = pure none := by rw [typeLookup_type, builtinLookup_eq_fast]; kernel_rfl
theorem map_no_hint : typeLookup (.type "map") "__length_hint__" = pure none := by rw [typeLookup_type, builtinLookup_eq_fast]; kernel_rfl
noncomputable def MapSt (M T I l : Addr) (its : List (Str × Tok)) (i : Nat) (h : Heap) : Prop :=
  h.get? M = some { cls := .type "map", data := .fields #[.ref T, .builtin "str.strip"] } ∧ h.get? T = some (tupO [.ref I]) ∧ h.IsListIter I l i ∧ h.IsList l (strValues its).toArray
section
variable {w : World} {A : Around} {E : Value → Shared → Prop} {s₀ : Shared} {h : Heap} {k : Nat}
theorem map_walks (hh : A.handled = none) {M T I l : Addr} {its : List (Str × Tok)} (hMI : M ≠ I) (hTI : T ≠ I) (hlI : l ≠ I) (hsz : ∀ p ∈ its, p.1.length ≤ 100000) :
    Walks PW w A M [M, T, I, l] [I] its.length (fun i v => ∃ x t, (its.map (·.1))[i]? = some x ∧ v = .str (Txt.strip x) t) (MapSt M T I l its) where
  sub := fun b hb => by simp at hb; simp -iota [hb]
  frame := fun i h h' st hk => ⟨hk M (by simp) _ st.1, hk T (by simp) _ st.2.1, st.2.2.1.at fun o e => hk I (by simp) o e, st.2.2.2.at fun o e => hk l (by simp) o e⟩
  item := fun i s Q E hi st hQ => by
    obtain ⟨s1, s2, s3, s4⟩ := st
    have hs := sizeLine_eq
    have hT : s.TypeIs (.ref M) "map" := ⟨_, s1, rfl⟩
    have hx : (strValues its).toArray[i]? = some (.str its[i].1 its[i].2) := by simp -iota [strValues, hi]
    have hm : (its.map (·.1))[i]? = some its[i].1 := by simp -iota [hi]
    have hlen := hsz its[i] (List.getElem_mem hi)
    unfold pyNext
    refine wpAny_bind (wpAny_attempt (wpAny_callSpecial?_slot (name := Str.ofString "__next__") hT slot_map_next (wpAny_call_entry slot_map_next hT entry_map_next ?_ (args_map_next _))))
    show wpAny _ _ (field (.ref M) 0 >>= _) _ _ _
    refine wpAny_bind (wpAny_field s1 rfl (x := .ref T) rfl ?_)
    refine wpAny_bind (wpAny_seqItems s2 rfl ?_)
    refine wpAny_bind ?_
    show wpAny _ _ (forIn (#[Value.ref I] : Array Value) _ _) _ _ _
    rw [← Array.forIn_toList]
    simp -iota only [List.forIn_cons, List.forIn_nil]
    refine wpAny_bind (wpAny_bind ?_)
    refine wpAny_holding (wpAny_nextOf_list_item s3 s4 hx fun h₁ hit₁ hs₁ => ?_)
    refine wpAny_pure (wpAny_pure ?_)
    have s1' := hs₁.extBut _ _ hMI s1
    refine wpAny_bind (wpAny_field s1' rfl (x := .builtin "str.strip") rfl ?_)
    refine wpAny_bind (wpAny_holding ?_)
    show wpAny _ _ (call (.builtin "str.strip") [.str its[i].1 its[i].2]) _ _ _
    refine SC.strip (fun t' k' => ?_) (by omega)
    refine wpAny_bind (wpAny_letGo ?_)
    refine wpAny_pure ⟨_, rfl, wpAny_pure ?_⟩
    exact hQ _ h₁ k' ⟨_, t', hm, rfl⟩ ⟨s1', hs₁.extBut _ _ hTI s2, hit₁, s4.extBut hs₁.extBut hlI⟩ fun b o hb e => hs₁.extBut b o (fun q => hb (by simp -iota [q])) e
  done := fun s Q E st hQ => by
    obtain ⟨s1, s2, s3, s4⟩ := st
    have hT : s.TypeIs (.ref M) "map" := ⟨_, s1, rfl⟩
    have hx : (strValues its).toArray[its.length]? = none := by simp -iota [strValues]
    unfold pyNext
    refine wpAny_bind (wpAny_attempt (wpAny_callSpecial?_slot (name := Str.ofString "__next__") hT slot_map_next (wpAny_call_entry slot_map_next hT entry_map_next ?_ (args_map_next _))))
    show wpAny _ _ (field (.ref M) 0 >>= _) _ _ _
    refine wpAny_bind (wpAny_field s1 rfl (x := .ref T) rfl ?_)
    refine wpAny_bind (wpAny_seqItems s2 rfl ?_)
    refine wpAny_bind ?_
    show wpAny _ _ (forIn (#[Value.ref I] : Array Value) _ _) _ _ _
    rw [← Array.forIn_toList]
    simp -iota only [List.forIn_cons, List.forIn_nil]
    refine wpAny_bind (wpAny_bind ?_)
    refine wpAny_holding (wpAny_nextOf_list_end hh s3 s4 hx fun h₁ e he hce => ?_)
    obtain ⟨oe, hoe, hc⟩ := hce
    refine wpAny_bind (wpAny_isInstance (T := "StopIteration") (b := true) ⟨oe, hoe, hc⟩ isSubtype_stop ?_)
    exact wpAny_pure (hQ h₁ s.toks fun b o hb e => he b o (fun q => hb (by simp -iota [q])) e)
  self := fun i s Q E st hQ => by
    have hT : s.TypeIs (.ref M) "map" := ⟨_, st.1, rfl⟩
    refine wpAny_pyIter_slot hT slot_map_iter (wpAny_call_entry slot_map_iter hT entry_map_iter ?_ (args_map_iter _))
    show wpAny _ _ (ret (.ref M)) _ _ s
    exact wpAny_pure ⟨_, rfl, "map", _, hT, slot_map_next.lookup, hQ⟩
theorem collect_map {M T I l : Addr} {its : List (Str × Tok)} {Q : List Value → Shared → Prop} (hh : A.handled = none) (hMI : M ≠ I) (hTI : T ≠ I) (hlI : l ≠ I) (hsz : ∀ p ∈ its, p.1.length ≤ 100000) (hn : its.length ≤ 100000)
    (hst : MapSt M T I l its 0 h) (hQ : ∀ (l' : List (Str × Tok)) h' k', l'.map (·.1) = (its.map (·.1)).map Txt.strip → (∀ b o, b ≠ I → h.get? b = some o → h'.get? b = some o) → Q (strValues l') (Sh s₀ h' k')) :
    wpAny (model PW w) A (collect (.ref M)) Q E (Sh s₀ h k) := by
  have hs := sizeLine_eq
  have W := (map_walks (w := w) (A := A.in1.in1) (its := its) hh hMI hTI hlI hsz).toS
  have hT : ∀ i (s : Shared), MapSt M T I l its i s.heap → s.TypeIs (.ref M) "map" := fun i s st => ⟨_, st.1, rfl⟩
  have hfp : ∀ b ∈ [M, T, I, l], b < h.objs.size := by
    intro b hb
    simp -iota only [List.mem_cons, List.not_mem_nil, or_false] at hb
    obtain ⟨s1, s2, ⟨o3, s3, _⟩, ⟨o4, s4, _⟩⟩ := hst
    rcases hb with rfl | rfl | rfl | rfl
    · exact Heap.lt_size s1
    · exact Heap.lt_size s2
    · exact Heap.lt_size s3
    · exact Heap.lt_size s4
  have hSf : h.objs.size ∉ [M, T, I, l] := fun hm => Nat.lt_irrefl _ (hfp _ hm)
  have hSI : h.objs.size ≠ M := fun e => hSf (by simp -iota [e])
  unfold collect
  refine wpAny_bind (wpAny_runValue (codeAny_builtin F.entry_proto_collect ?_))
  rw [Around.under_plainId F.plain_proto_collect _]
  show wpAny _ A.in1 (newList [] >>= fun l => again (.builtin "list.__iadd__" ⟨[l, .ref M], []⟩)) _ _ _
  refine wpAny_bind (wpAny_newObj_type ?_)
  refine wpAny_pure ⟨plainId_quiet F.plain_list_iadd _, codeAny_builtin F.entry_list_iadd ?_⟩
  rw [Around.under_plainId F.plain_list_iadd _]
  have hst₁ := (map_walks (w := w) (A := A.in1.in1) (its := its) hh hMI hTI hlI hsz).frame 0 h (h.push { cls := .type "list", data := .seq ([] : List Value).toArray }) hst fun b _ o e => Heap.get?_push_of_some _ e
  show wpAny _ A.in1 (Builtin.List.listExtendWith (.ref h.objs.size) (.ref M) (.ref h.objs.size)) _ _ _
  unfold Builtin.List.listExtendWith
  refine wpAny_bind (wpAny_typeOf (hT 0 _ hst₁) ?_)
  have h1 : Builtin.List.listSameRef (.ref h.objs.size) (.ref M) = false := by simp [Builtin.List.listSameRef, hSI]
  have h2 : (Value.type "map" == Value.type "list") = false := by decide
  have h3 : (Value.type "map" == Value.type "tuple") = false := by decide
  simp -iota only [h1, h2, h3, Bool.or_false, Bool.false_eq_true, if_false]
  have W0 := map_walks (w := w) (A := A.in1) (its := its) hh hMI hTI hlI hsz
  refine wpAny_bind (W0.self 0 _ _ _ hst₁ ?_)
  refine wpAny_bind (wpAny_holding ?_)
  unfold Builtin.List.listLengthHint
  refine wpAny_bind (wpAny_specialOf (hT 0 _ hst₁) map_no_len ?_)
  show wpAny _ A.in1 (specialOf (Value.ref M) (Str.ofString "__length_hint__") >>= _) _ _ _
  refine wpAny_bind (wpAny_specialOf (hT 0 _ hst₁) map_no_hint ?_)
  refine wpAny_pure ?_
  show wpAny _ A.in1 (rule "list.extend.makes-room" >>= fun _ => Builtin.List.listTouch (.ref h.objs.size) >>= fun _ =>
    again (.builtin "list.extend.loop" ⟨[.ref h.objs.size, .ref M, .ref h.objs.size], []⟩)) _ _ _
  refine wpAny_bind (wpAny_rule ?_)
  have hS₁ : (h.push { cls := .type "list", data := .seq ([] : List Value).toArray }).get? h.objs.size = some { cls := .type "list", data := .seq ([] : List Value).toArray } := Heap.get?_push_size _ rfl
  refine wpAny_bind ?_
  show wpAny _ A.in1 (updateSeq h.objs.size (·.push .none) >>= fun _ => updateSeq h.objs.size (·.pop)) _ _ _
  refine wpAny_bind (wpAny_updateSeq hS₁ rfl ?_)
  have hS₂ := Heap.get?_update_self (Obj.mapSeq (·.push Value.none)) hS₁ rfl
  refine wpAny_updateSeq hS₂ rfl ?_
  have hS₃ := Heap.get?_update_self (Obj.mapSeq (·.pop)) hS₂ rfl
  have oth : ∀ b o, b ≠ h.objs.size → (h.push { cls := .type "list", data := .seq ([] : List Value).toArray }).get? b = some o →
      (((h.push { cls := .type "list", data := .seq ([] : List Value).toArray }).update h.objs.size (Obj.mapSeq (·.push Value.none))).update h.objs.size (Obj.mapSeq (·.pop))).get? b = some o :=
    fun b o hb e => (Heap.get?_update_other _ _ (Ne.symm hb)).trans ((Heap.get?_update_other _ _ (Ne.symm hb)).trans e)
  refine wpAny_pure ⟨plainId_quiet F.plain_extend_loop _, codeAny_extend_loopS W0.toS (by omega) _ hSf _ its.length 0 _ _ _ rfl (Nat.zero_le _)
    (W0.frame 0 _ _ hst₁ fun b hb o e => oth b o (fun h => hSf (h ▸ hb)) e) hS₃ (ItemsOf.nil _) fun s' acc' c' hm hS' hacc => ?_⟩
  show wpAny _ A (load h.objs.size >>= _) _ _ s'
  refine wpAny_bind (wpAny_load hS' ?_)
  refine wpAny_pure ?_
  rw [Moved.eq_with hm]
  obtain ⟨hsz', hget⟩ := hacc
  obtain ⟨l', hl', hmap⟩ : ∃ l' : List (Str × Tok), strValues l' = acc'.toList ∧ l'.map (·.1) = (its.map (·.1)).map Txt.strip := by
    have key : ∀ (vs : List Value) (xs : List Str), vs.length = xs.length → (∀ (j : Nat) v, vs[j]? = some v → ∃ x t, xs[j]? = some x ∧ v = .str (Txt.strip x) t) → ∃ l' : List (Str × Tok), strValues l' = vs ∧ l'.map (·.1) = xs.map Txt.strip := by
      intro vs
      induction vs with
      | nil =>
        intro xs hl _
        have : xs = [] := List.eq_nil_of_length_eq_zero (by simpa using hl.symm)
        subst this
        exact ⟨[], rfl, rfl⟩
      | cons v r ih =>
        intro xs hl hg
        cases xs with
        | nil => simp at hl
        | cons x xs =>
          obtain ⟨y, t, hy, rfl⟩ := hg 0 v rfl
          simp -iota only [List.getElem?_cons_zero, Option.some.injEq] at hy
          subst hy
          obtain ⟨l', e1, e2⟩ := ih xs (by simpa using hl) fun j u hu => by simpa using hg (j + 1) u (by simpa using hu)
          exact ⟨(Txt.strip x, t) :: l', by simp -iota [strValues] at e1 ⊢; exact e1, by simp -iota [e2]⟩
    exact key acc'.toList (its.map (·.1)) (by simp -iota [hsz']) fun j v hv => hget j v (by rw [← Array.getElem?_toList]; exact hv)
  rw [← hl']
  refine hQ l' s'.heap s'.toks hmap fun b o hb e => ?_
  have hbS : b ≠ h.objs.size := Nat.ne_of_lt (Heap.lt_size e)
  refine hm.heap b o (fun q => ?_) (oth b o hbS (Heap.get?_push_of_some _ e))
  rcases List.mem_cons.mp q with q | q
  · exact hbS q
  · exact hb (List.mem_singleton.mp q)
end
section
variable {w : World} {A : Around} {E : Value → Shared → Prop} {s₀ : Shared} {h : Heap} {k : Nat} {P : Params}
theorem find_new : findCls (K0 P) (.ref 203) (.type "type") "__new__" = some (.get (.builtin "staticmethod.__get__") (.ref 181) .none (.ref 203)) := by kernel_rfl
theorem rec_new : recIn (K0 P) 181 "staticmethod" = some [.ref 130] := by kernel_rfl
theorem special_call : specialIn (K0 P) (.ref 203) "__call__" = some (some (.builtin "type.__call__")) := by kernel_rfl
theorem inst_type : instIn (K0 P) (.ref 203) (.type "type") = some true := by kernel_rfl
theorem cls_203 : clsIn (K0 P) 203 = some ⟨Str.ofString "Pair", [.ref 180], [.ref 203, .ref 180, .type "tuple", .type "object"], 202, Str.ofString "Pair", true, [], [], false, none, false⟩ := by kernel_rfl
theorem madeBy_203 {M : Model} : peek (K0 P) ⟨M.prog, M.w.params⟩ (Bind.madeBy (.ref 203)) = some none := by kernel_rfl
theorem get_new {Q : Value → Shared → Prop} {g d os} (X : (K0 P).In h) (hQ : Q (.ref 130) ⟨h, g, d, k + 1, os⟩) : wpAny (model PW w) A (getAttr (.ref 203) "__new__") Q E ⟨h, g, d, k, os⟩ :=
  cls_bind (s := ⟨h, g, d, k, os⟩) X reads_203 find_new (wpAny_call (sm_get (s := ⟨h, g, d, k + 1, os⟩) X rec_new (handed_on rfl hQ)))
theorem init_203 : findIn (K0 P) (.ref 203) "__init__" = some (some (.builtin "object.__init__")) := by kernel_rfl
theorem sub_203 : subIn (K0 P) (.ref 203) (.ref 203) = some true := by kernel_rfl
theorem sub_203o : subIn (K0 P) (.ref 203) (.type "object") = some true := by kernel_rfl
theorem oi_args2 (a b c : Value) : argsOk "object.__init__" ⟨[a, b, c], []⟩ := F.args_object_init_3 a b c
noncomputable def pairO (d : Addr) (x y : Value) : Obj := { cls := .ref 203, dict := some d, data := .seq #[x, y] }
theorem pair_call {args : List Value} {Q : Value → Shared → Prop} (X : (K0 P).In h)
    (hnew : codeAny (model PW w) (A.under (.builtin "type.__call__" ⟨.ref 203 :: args, []⟩)) (.call (.ref 130) ⟨.ref 203 :: args, []⟩) (fun r s' => match r with
      | .ok (.ret v) => ∃ a d x y h' k', args = [x, y] ∧ v = .ref a ∧ s' = Sh s₀ h' k' ∧ (K0 P).In h' ∧ h'.get? a = some (pairO d x y) ∧ Q v s'
      | .ok _ => False
      | .error e => E e s') (Sh s₀ h (k + 1))) :
    wpAny (model PW w) A (call (.ref 203) args []) Q E (Sh s₀ h k) := by
  obtain ⟨oc, ho⟩ : ∃ o, (K0 P).lookup 203 = some o := ⟨_, rfl⟩
  have hC := X _ _ ho
  have call_ : Looks (model PW w) h (specialOf (.ref 203) "__call__") (some (.builtin "type.__call__")) := looks_specialIn X special_call
  have typ := looks_instIn (M := model PW w) X inst_type
  refine wpAny_call (codeAny_of_tree ?_)
  show wpAny _ _ (callAny (.ref 203) _) _ _ _
  refine nd_load hC ?_
  cases ho
  show wpAny _ _ (callAny.viaDunder (.ref 203) _) _ _ _
  unfold callAny.viaDunder
  refine wpAny_bind (call_.at ?_)
  dsimp only
  rw [tc_bind]
  refine wpAny_bind (wpAny_pure (wpAny_bind (wpAny_pure ?_)))
  refine wpAny_pure (a := Fin.again (.call (.builtin "type.__call__") ⟨.ref 203 :: args, []⟩)) (And.intro rfl ?_)
  refine codeAny_call_builtin_at (Code.quiet_builtin _ (by decide +kernel)) entry_typeCall (check_slot tc_kind tc_split typ (tc_args _ _ _) ?_)
  unfold Builtin.«type.__call__»
  have hm : Looks (model PW w) h (mroOf (.ref 203)) [.ref 203, .ref 180, .type "tuple", .type "object"] := (looks_clsIn X cls_203).andThen .now
  have made : Looks (model PW w) h (Bind.madeBy (.ref 203)) none := Looks.of_peek X madeBy_203
  repeat (first | simp -iota only [List.isEmpty_cons, Bool.false_eq_true, if_false] | with_reducible refine get_new X ?_ | with_reducible refine wpAny_call ?_ | lk)
  refine codeAny_mono hnew fun r s' z => ?_
  rcases r with e | (v | _ | _ | _) <;> first | exact z | exact z.elim | skip
  obtain ⟨a, d, x, y, h', k', rfl, rfl, rfl, X', ha, hQ⟩ := z
  have t1 : Looks (model PW w) h' (typeOf (.ref a)) (.ref 203) := (Looks.ld ha).andThen .now
  have s1 := looks_subIn (M := model PW w) X' sub_203
  have i1 := looks_findIn (M := model PW w) X' init_203
  have so := looks_subIn (M := model PW w) X' sub_203o
  have made' : Looks (model PW w) h' (Bind.madeBy (.ref 203)) none := Looks.of_peek X' madeBy_203
  have b1 : Looks (model PW w) h' (bindSpecial (.builtin "object.__init__") (.ref a)) (.builtin "object.__init__", [.ref a]) := Looks.of_pure (oi_bind (.ref a))
  unfold isInstance callSpecial? specialOf
  show wpAny _ _ _ _ _ ⟨h', s₀.gens, s₀.drawn, k', s₀.os⟩
  repeat (first | simp -iota only [Bool.not_true, Bool.false_eq_true, if_false] | with_reducible refine wpAny_call ?_ | lk)
  have t2 : Looks (model PW w) h' (isInstance (.ref a) (.type "object")) true := t1.andThen so
  refine codeAny_call_builtin oi_plain entry_oi (@check_slot (model PW w) _ _ _ "object.__init__" "object" "__init__" (.ref a) [x, y] [] _ oi_kind oi_split t2 (oi_args2 (.ref a) x y) ?_)
  unfold Builtin.«object.__init__»
  dsimp only [List.singleton_append]
  repeat (first | simp -iota only [List.isEmpty_cons, Bool.not_false, Bool.true_or, if_true, bne_self_eq_false, Bool.false_eq_true, if_false, Bool.false_or, Bool.not_true] | lk)
  exact hQ
end
theorem fc_tnew : findCls ([] : Frag) (.type "tuple") (.type "type") "__new__" = some (.val (.builtin "tuple.__new__")) := by kernel_rfl
theorem fc_tget : findCls ([] : Frag) (.type "tuple") (.type "type") "__getitem__" = some (.val (.builtin "tuple.__getitem__")) := by kernel_rfl
theorem fc_strip : findCls ([] : Frag) (.type "str") (.type "type") "strip" = some (.val (.builtin "str.strip")) := by kernel_rfl
theorem nil_in (h : Heap) : Frag.In [] h := fun _ _ e => by cases e
section
variable {w : World} {A : Around} {E : Value → Shared → Prop} {s₀ : Shared} {B : Heap} {h : Heap} {k : Nat} {P : Params} {env : Env}
theorem get_of_type {n : String} {name : Str} {v : Value} {expr : Bool} {Q : Value → Shared → Prop} (hstub : Manifest.isStub n = false) (e : findCls ([] : Frag) (.type n) (.type "type") name = some (.val v)) (hv : handedIn v = true)
    (ht : typeOf (.type n) = pure (.type "type")) (hQ : Q v (Sh s₀ h (k + 1))) : wpAny (model PW w) A (getAttr (.type n) name expr) Q E (Sh s₀ h k) := by
  have LO : Looks (model PW w) h (opaqueClassAbove (.type n)) none := Looks.of_pure (by unfold opaqueClassAbove; dsimp only; rw [hstub]; rfl)
  have L0 : Looks (model PW w) h (typeOf (.type n)) (.type "type") := Looks.of_pure ht
  refine cls_open (s := Sh s₀ h k) (nil_in h) LO L0 type_tga (looks_hook (nil_in h) (r := none) (by rfl)) (by show subIn [] _ _ = _; rfl) e ?_
  exact wpAny_pure (by show wpAny _ _ (handedOut v) _ _ _; rw [handedOut_of hv]; exact wpAny_pure hQ)
theorem method_of_type {n : String} {name : Str} {v : Value} {pl : Sem Bool} {Q : Value × List Value → Shared → Prop} (hstub : Manifest.isStub n = false) (e : findCls ([] : Frag) (.type n) (.type "type") name = some (.val v)) (hv : handedIn v = true)
    (ht : typeOf (.type n) = pure (.type "type")) (hQ : Q (v, []) (Sh s₀ h (k + 1))) : wpAny (model PW w) A (getMethod (.type n) name pl) Q E (Sh s₀ h k) := by
  have L0 : Looks (model PW w) h (typeOf (.type n)) (.type "type") := Looks.of_pure ht
  unfold getMethod specialOf
  refine wpAny_bind (wpAny_bind (L0.at ((looks_findIn (nil_in h) type_tga).at ?_)))
  dsimp only
  rw [if_pos canon_tga]
  exact wpAny_bind (wpAny_mono (Q := fun v => Q (v, [])) (E := E) (get_of_type hstub e hv ht hQ) (fun _ _ z => wpAny_pure z) fun _ _ z => z)
theorem call_of_type {n : String} {id : String} {o : Expr} {name : Str} {apos pos : Pos} {args : List Expr} {Q : Value → Shared → Prop} (hstub : Manifest.isStub n = false) (e : findCls ([] : Frag) (.type n) (.type "type") name = some (.val (.builtin id))) (hv : handedIn (.builtin id) = true)
    (ht : typeOf (.type n) = pure (.type "type"))
    (hx : wpAny (model PW w) A (eval o env) (fun ov s₁ => ∃ h₁ k₁, ov = .type n ∧ s₁ = Sh s₀ h₁ k₁ ∧
      wpAny (model PW w) A (spliced (backTo pos (starEach args env))) (fun vs s₂ => wpAny (model PW w) A (call (.builtin id) vs) Q E s₂) E (Sh s₀ h₁ (k₁ + 1))) E (Sh s₀ h k))
    (hbase : attributeBase o name env (eval o env) = eval o env := by rfl)
    (hfew : ((backTo pos (starEach args env)).all (fun x => !x.1) && (backToKw pos (keywordEach [] env)).all (fun x => x.1.isSome)
      && decide (args.length + ([] : List Keyword).length + (if ([] : List Keyword).isEmpty then 0 else 1) < 30)) = true := by rfl)
    (hline : (apos.endLine == pos.line) = true := by rfl) (hst : (backTo pos (starEach args env)).any (·.1) = false := by rfl) (hne : backTo pos (starEach args env) ≠ [] := by intro h; cases h) :
    wpAny (model PW w) A (eval (.Call (.Attribute o name apos) args [] pos) env) Q E (Sh s₀ h k) := by
  rw [arm_eval_Call, hbase]
  refine wpAny_bind (wpAny_mono hx (fun ov s₁ q => ?_) fun _ _ e => e)
  obtain ⟨h₁, k₁, rfl, rfl, q⟩ := q
  refine wpAny_bind (wpAny_standAt ?_)
  have hform : methodCallForm (args.length + ([] : List Keyword).length) (backTo pos (starEach args env)) (backToKw pos (keywordEach [] env)) = true := hfew
  have hpos : methodCallPos true o env apos pos = pure pos := by unfold methodCallPos; simp [hline]
  unfold methodCall
  rw [hform]
  refine wpAny_bind (wpAny_holding (method_of_type hstub e hv ht ?_))
  refine wpAny_bind (wpAny_of_eq hpos ?_)
  refine callWith_builtin hst ?_
  generalize hb : backTo pos (starEach args env) = bs at q hst hne ⊢
  cases bs with
  | nil => exact absurd rfl hne
  | cons b r =>
    obtain ⟨st, x⟩ := b
    have : st = false := by simpa using (List.any_eq_false.mp hst (st, x) (.head _))
    subst this
    exact evalArgs_plain q
end
section
variable {w : World} {A : Around} {E : Value → Shared → Prop} {s₀ : Shared} {B : Heap} {h : Heap} {k : Nat} {P : Params} {env : Env}
theorem tn_check (v : Value) {S : Setting} : peek (K0 P) S (checkBuiltinCall "tuple.__new__" ⟨[.ref 203, v], []⟩) = some () := by kernel_rfl
theorem tn_entry : entryFor table "tuple.__new__" = some Builtin.«tuple.__new__» := entryFor_of_tree (by kernel_rfl)
theorem tn_type {S : Setting} : peek (K0 P) S (isType (.ref 203)) = some true := by kernel_rfl
theorem tn_sub {S : Setting} : peek (K0 P) S (isSubtype (.ref 203) (.type "tuple")) = some true := by kernel_rfl
theorem tn_made {S : Setting} : peek (K0 P) S (Bind.madeHere "tuple.__new__" (.ref 203)) = some () := by kernel_rfl
theorem noinit_203 : (some (Value.builtin "object.__init__") == some (Value.builtin "object.__init__")) = true := by decide
theorem tuple_new {T : Addr} {x y : Value} {Q : Value → Shared → Prop} (X : (K0 P).In h) (hT : h.get? T = some (tupO [x, y]))
    (hQ : ∀ h', Kp h h' → Q (.ref (h'.objs.size + 1)) (Sh s₀ ((h'.push emptyDict).push (pairO h'.objs.size x y)) k)) :
    wpAny (model PW w) A (call (.builtin "tuple.__new__") [.ref 203, .ref T] []) Q E (Sh s₀ h k) := by
  have hs := sizeLine_eq
  refine wpAny_call (codeAny_call_builtin_at (Code.quiet_builtin _ (by decide +kernel)) tn_entry ((Looks.of_peek X (tn_check (.ref T))).here ?_))
  have L1 : Looks (model PW w) h (isType (.ref 203)) true := Looks.of_peek X tn_type
  have L2 : Looks (model PW w) h (isSubtype (.ref 203) (.type "tuple")) true := Looks.of_peek X tn_sub
  have L3 : Looks (model PW w) h (Bind.madeHere "tuple.__new__" (.ref 203)) () := Looks.of_peek X tn_made
  have L4 := looks_findIn (M := model PW w) X init_203
  unfold Builtin.«tuple.__new__»
  show wpAny _ _ _ _ _ ⟨h, s₀.gens, s₀.drawn, k, s₀.os⟩
  repeat (first | simp only [Bool.not_true, Bool.false_eq_true, if_false, noinit_203, if_true, beq_self_eq_true] | with_reducible refine wpAny_bind (wpAny_collect_seq (n := 0) T (.inr rfl) hT rfl rfl ?_ ?_) | lk)
  case refine_2 => show 2 ≤ sizeLine; omega
  intro h' K'
  obtain ⟨oc, ho⟩ : ∃ o, (K0 P).lookup 203 = some o := ⟨_, rfl⟩
  have hC := Kp.push h' emptyDict _ _ (K' _ _ (X _ _ ho))
  have hC2 := Kp.push (h'.push emptyDict) (pairO h'.objs.size x y) _ _ hC
  cases ho
  refine wpAny_bind (wpAny_pure (wpAny_bind (wpAny_alloc ?_)))
  refine wpAny_bind ?_
  unfold newObj
  dsimp only
  rw [if_neg (show ¬ ((#[x, y] : Array Value).size > sizeLine) from by show ¬ (2 > sizeLine); omega)]
  unfold newObjAsIs classHasDel
  refine wpAny_bind (wpAny_alloc (wpAny_bind (wpAny_bind (wpAny_load hC2 (wpAny_pure ?_)))))
  refine wpAny_pure (wpAny_pure ?_)
  have := hQ h' K'
  show Q (.ref (h'.push emptyDict).objs.size) _
  rw [Heap.size_push]
  exact this
end
noncomputable def Ctx.called (Γ : Ctx) : Prop := ∃ c ∈ Γ.below, c.1.isCaller = true
noncomputable def wpG {α : Type} (P : Ctx → Prop) (M : Model) (A : Around) (t : Sem α) (Q : α → Shared → Prop) (E : Value → Shared → Prop) (s : Shared) : Prop :=
  ∀ Γ p, Γ.In A → P Γ → wp M Γ t (fun a _ s' => Q a s') (fun e _ s' => E e s') p s
noncomputable def codeG (P : Ctx → Prop) (M : Model) (A : Around) (c : Code) (R : Result → Shared → Prop) (s : Shared) : Prop :=
  ∀ Γ p, Γ.code = c → Γ.Below A → P Γ → wpCode M Γ R p s
structure Deep (P : Ctx → Prop) : Prop where
  enter : ∀ Γ c hd p, P Γ → P (Γ.enter c hd p)
  goto : ∀ Γ c, P Γ → P (Γ.goto c)
section
variable {α β : Type} {P : Ctx → Prop} {M : Model} {A : Around} {E : Value → Shared → Prop} {s : Shared}
theorem wpAny.g {t : Sem α} {Q : α → Shared → Prop} (h : wpAny M A t Q E s) : wpG P M A t Q E s := fun Γ p hΓ _ => h Γ p hΓ
theorem wpG.any {t : Sem α} {Q : α → Shared → Prop} (h : wpG (fun _ => True) M A t Q E s) : wpAny M A t Q E s := fun Γ p hΓ => h Γ p hΓ trivial
theorem wpG_mono {t : Sem α} {Q Q' : α → Shared → Prop} {E' : Value → Shared → Prop} (h : wpG P M A t Q E s)
    (hQ : ∀ a s, Q a s → Q' a s) (hE : ∀ e s, E e s → E' e s) : wpG P M A t Q' E' s :=
  fun Γ p hΓ hP => Sem.wp_mono M Γ t (fun a _ s => hQ a s) (fun e _ s => hE e s) p s (h Γ p hΓ hP)
theorem wpG_bind {m : Sem α} {f : α → Sem β} {Q : β → Shared → Prop} (h : wpG P M A m (fun a s' => wpG P M A (f a) Q E s') E s) :
    wpG P M A (m >>= f) Q E s := fun Γ p hΓ hP => by
  rw [Sem.wp_bind']
  exact Sem.wp_mono M Γ m (fun a p' s' h' => h' Γ p' hΓ hP) (fun _ _ _ h' => h') p s (h Γ p hΓ hP)
theorem wpG_pure {a : α} {Q : α → Shared → Prop} (h : Q a s) : wpG P M A (pure a) Q E s := fun _ _ _ _ => h
theorem wpG_throw {e : Value} {Q : α → Shared → Prop} (h : E e s) : wpG P M A (throw e : Sem α) Q E s := fun _ _ _ _ => h
theorem wpG_attempt {m : Sem α} {Q : Except Value α → Shared → Prop} (h : wpG P M A m (fun a => Q (.ok a)) (fun e => Q (.error e)) s) :
    wpG P M A m.attempt Q E s := fun Γ p hΓ hP => by rw [Sem.wp_attempt]; exact h Γ p hΓ hP
theorem wpG_holding {vs : List Value} {m : Sem α} {Q : α → Shared → Prop} (h : wpG P M A m Q E s) : wpG P M A (holding vs m) Q E s :=
  fun Γ p hΓ hP => by rw [Sem.wp_holding]; exact h Γ p hΓ hP
theorem wpG_onRaise {m : Sem α} {k : Value → Sem Unit} {Q : α → Shared → Prop}
    (h : wpG P M A m Q (fun e s' => wpG P M A (k e) (fun _ s'' => E e s'') E s') s) : wpG P M A (m.onRaise k) Q E s := fun Γ p hΓ hP => by
  rw [Sem.wp_onRaise]
  exact Sem.wp_mono M Γ m (fun _ _ _ h' => h') (fun e p' s' h' => h' Γ p' hΓ hP) p s (h Γ p hΓ hP)
end
section
variable {α β : Type} {P : Ctx → Prop} {M : Model} {A : Around} {E : Value → Shared → Prop} {s : Shared}
theorem codeAny.g {c : Code} {R : Result → Shared → Prop} (h : codeAny M A c R s) : codeG P M A c R s := fun Γ p hc hΓ _ => h Γ p hc hΓ
theorem codeG_mono {c : Code} {R R' : Result → Shared → Prop} (h : codeG P M A c R s) (hR : ∀ r s, R r s → R' r s) : codeG P M A c R' s :=
  fun Γ p hc hΓ hP => wpCode_mono hR (h Γ p hc hΓ hP)
theorem wpG_run (D : Deep P) {c : Code} {h : Option Value} {Q : Flow → Shared → Prop}
    (hc : codeG P M (A.mark h) c (fun r s' => match r with | .ok f => Q f s' | .error e => E e s') s) (hnb : h ≠ some byPass := by intro x; cases x) :
    wpG P M A (run c h) Q E s :=
  fun Γ p hΓ hP => by rw [Sem.wp_run]; exact hc _ p rfl (hΓ.enter c h p hnb) (D.enter _ _ _ _ hP)
theorem wpG_runValue (D : Deep P) {c : Code} {Q : Value → Shared → Prop}
    (hc : codeG P M A c (fun r s' => match r with | .ok (.ret v) => Q v s' | .ok _ => False | .error e => E e s') s) :
    wpG P M A (runValue c) Q E s := fun Γ p hΓ hP => by rw [Sem.wp_runValue]; exact hc _ p rfl (hΓ.enter c none p (by intro x; cases x)) (D.enter _ _ _ _ hP)
theorem wpG_call (D : Deep P) {f : Value} {pos : List Value} {kw : List (Str × Value)} {Q : Value → Shared → Prop}
    (hc : codeG P M A (.call f ⟨pos, kw⟩) (fun r s' => match r with | .ok (.ret v) => Q v s' | .ok _ => False | .error e => E e s') s) :
    wpG P M A (call f pos kw) Q E s := wpG_runValue D hc
theorem codeG_of_tree (D : Deep P) {c : Code} {R : Result → Shared → Prop}
    (h : wpG P M (A.under c) (M.den c) (fun fin s' => match fin with | .done f => R (.ok f) s' | .again c' => c'.quiet = true ∧ codeG P M A c' R s')
      (fun e s' => R (.error e) s') s) : codeG P M A c R s := fun Γ p hc hΓ hP => by
  rw [wpCode_iff_wp, hc]
  refine Sem.wp_mono M Γ _ (fun fin p' s' h' => ?_) (fun _ _ _ h' => h') p s (h Γ p (hc ▸ hΓ.in) hP)
  cases fin with
  | done f => exact h'
  | again c' => exact ⟨h'.1, h'.2 (Γ.goto c') p' rfl (hΓ.goto c') (D.goto _ _ hP)⟩
theorem codeG_loop (D : Deep P) {c : Code} {R : Result → Shared → Prop} (hq : c.quiet = true) (I : Nat → Shared → Prop)
    (turn : ∀ n s, I n s → wpG P M (A.under c) (M.den c)
      (fun fin s' => match fin with
        | .done f => R (.ok f) s'
        | .again c' => (c' = c ∧ ∃ m, m < n ∧ I m s') ∨ (c'.quiet = true ∧ codeG P M A c' R s')) (fun e s' => R (.error e) s') s)
    (n : Nat) (h : I n s) : codeG P M A c R s := by
  induction n using Nat.strongRecOn generalizing s with
  | ind n ih =>
    refine codeG_of_tree D (wpG_mono (turn n s h) (fun fin s' hf => ?_) fun _ _ h' => h')
    cases fin with
    | done f => exact hf
    | again c' =>
      rcases hf with ⟨rfl, m, hm, hI⟩ | hf
      · exact ⟨hq, ih m hm hI⟩
      · exact hf
theorem deep_called : Deep Ctx.called where
  enter := fun Γ c hd p ⟨x, hx, hc⟩ => ⟨x, List.mem_cons_of_mem _ hx, hc⟩
  goto := fun Γ c h => h
theorem deep_true : Deep (fun _ => True) := ⟨fun _ _ _ _ _ => trivial, fun _ _ _ => trivial⟩
end
section
variable {α β : Type} {P : Ctx → Prop} {M : Model} {A : Around} {E : Value → Shared → Prop} {s : Shared}
theorem and3 {a b c : Bool} (h : a = true) : (!a && b && c) = false := by subst h; rfl
theorem not_marked {own : List String} {l : List (Code × Pos)} (h : ∃ c ∈ l, c.1.isCaller = true) : pythonCodeMadeTheCall own (l.map (·.1)) = false := by
  obtain ⟨c, hc, hi⟩ := h
  unfold pythonCodeMadeTheCall
  exact and3 (List.any_eq_true.mpr ⟨c.1, List.mem_map.mpr ⟨c, hc, rfl⟩, hi⟩)
theorem wpG_refuses (hP : ∀ Γ, P Γ → Ctx.called Γ) {msg : String} {Q : α → Shared → Prop} (hh : A.handled = none)
    (h : ∀ h' tk e, Heap.NewExc s.heap h' e "TypeError" → E (.ref e) { s with heap := h', toks := tk }) (hm : (msg : Str).length ≤ sizeLine) :
    wpG P M A (theBinderRefuses msg : Sem α) Q E s := by
  have key : wpAny M A (raiseErrorMade "TypeError" msg : Sem α) Q E s := wpAny_raiseErrorMade plainExc_TypeError hh h hm
  intro Γ p hΓ hp
  have k := key Γ p hΓ
  unfold raiseErrorMade at k
  unfold theBinderRefuses
  rw [Sem.wp_bind'] at k ⊢
  refine Sem.wp_mono M Γ _ (fun v p' s' h' => ?_) (fun _ _ _ x => x) p s k
  rw [Sem.wp_bind'] at h' ⊢
  refine Sem.wp_mono M Γ _ (fun e p'' s'' h'' => ?_) (fun _ _ _ x => x) p' s' h'
  rw [Sem.wp_bind']
  unfold markTheRefusal
  rw [Sem.wp_bind']
  unfold stack
  rw [Sem.wp_stack]
  have hc : ∃ c ∈ ((Γ.code, p'') :: Γ.below), c.1.isCaller = true := by
    obtain ⟨c, hc, hi⟩ := hP Γ hp
    exact ⟨c, List.mem_cons_of_mem _ hc, hi⟩
  simp -iota only [Sem.wp_pure, not_marked hc, Bool.false_eq_true, if_false, Sem.wp_pure']
  exact h''
end
section
variable {prog : Program} {w : World} {A : Around} {s : Shared} {P : Ctx → Prop} {R : Result → Shared → Prop}
theorem codeG_func (D : Deep P) {body env}
    (h : wpG P (model prog w) (A.deeper env) (execs body env) (fun f s' => R (.ok (.ret (match f with | .ret v => v | _ => .none))) s')
      (fun e s' => wpAny (model prog w) (A.deeper env) (leaving env e) (fun _ s'' => R (.error e) s'') (fun e' s'' => R (.error e') s'') s') s) :
    codeG P (model prog w) A (.func body env) R s := by
  refine codeG_of_tree D ?_
  show wpG P _ (A.deeper env) (do point; match ← (execs body env).onRaise (leaving env) with | .ret v => ret v | _ => ret .none) _ _ s
  refine wpG_bind (wpAny.g (wpAny_point (wpG_bind (wpG_onRaise (wpG_mono h (fun f s' h' => ?_) fun _ _ h' => wpAny.g h')))))
  cases f <;> exact wpG_pure h'
theorem codeG_call_function (D : Deep P) {a : Addr} {args : Args} {o : Obj} {fd : FuncData} {body : List Stmt} (hroom : A.depth < recursionLimit)
    (ho : s.heap.get? a = some o)
    (hd' : o.data = .func fd) (hco : fd.scope.isCoroutine = false) (hgen : fd.scope.isGenerator = false) (hbody : fd.body = .stmts body) (hcd : s.heap.CodeRec fd.code fd.qualname)
    (h : wpG P (model prog w) A.in1 (bindArgs fd args) (fun binds s₁ =>
      wpAny (model prog w) A.in1 (newFunctionEnv fd.scope fd.globals fd.closure binds (fd.qualname ++ ".<locals>.") (some a) fd.code none fd.builtins)
        (fun env s₂ => s₂.heap.NoLimit ∧ codeG P (model prog w) A (.func body env) R s₂) (fun e s' => R (.error e) s') s₁) (fun e s' => R (.error e) s') s) :
    codeG P (model prog w) A (.call (.ref a) args) R s := by
  refine codeG_of_tree D ?_
  show wpG P _ A.in1 (callAny (.ref a) args) _ _ s
  simp -iota only [callAny]
  refine wpG_bind (wpAny.g (wpAny_load ho ?_))
  obtain ⟨c, oc, vs, tq, hc, hoc, hdc, hq⟩ := hcd
  simp only [hd', callFunction, hco, hgen, hbody, hc]
  rw [hc] at h
  refine wpG_bind (m := field (.ref c) 1) (wpAny.g (wpAny_field hoc hdc hq (wpG_bind (wpG_pure ?_))))
  exact wpG_bind (wpG_mono h (fun binds s₁ h₁ => wpG_bind (wpAny.g (wpAny_mono h₁ (fun env s₂ h₂ => wpG_bind (wpAny.g (wpAny_enterFrame h₂.1 hroom
    (wpG_pure (And.intro rfl h₂.2))))) fun _ _ h' => h'))) fun _ _ h' => h')
theorem codeG_call_def (D : Deep P) {a : Addr} {o : Obj} {fd : FuncData} {body : List Stmt} {args : Args} {binds : List (Str × Value)}
    (hroom : A.depth < recursionLimit) (ho : s.heap.get? a = some o) (hdata : o.data = .func fd) (hlim : s.heap.NoLimit) (hcd : s.heap.CodeRec fd.code fd.qualname)
    (hbody : fd.body = .stmts body) (hbind : bindArgs fd args = pure binds)
    (hcell : ∀ x ∈ fd.scope.names, x.2 ≠ .cell) (hloc : ∀ x ∈ binds, fd.scope.names.lookup x.1 = some .local)
    (h : ∀ h₀, h₀.Ns s.heap.objs.size (fun x => binds.reverse.lookup x) → (∀ b o, s.heap.get? b = some o → h₀.get? b = some o) →
      wpG P (model prog w) (A.deeper (callEnv fd s.heap.objs.size a)) (execs body (callEnv fd s.heap.objs.size a)) (fun f s' => R (.ok (.ret (match f with | .ret v => v | _ => .none))) s')
        (fun e s' => wpAny (model prog w) (A.deeper (callEnv fd s.heap.objs.size a)) (leaving (callEnv fd s.heap.objs.size a) e) (fun _ s'' => R (.error e) s'') (fun e' s'' => R (.error e') s'') s')
        { s with heap := h₀, toks := s.toks + binds.length })
    (hco : fd.scope.isCoroutine = false := by rfl) (hgen : fd.scope.isGenerator = false := by rfl) (hk : fd.scope.kind = .function := by rfl) :
    codeG P (model prog w) A (.call (.ref a) args) R s := by
  refine codeG_call_function D hroom ho hdata hco hgen hbody hcd ?_
  rw [hbind]
  refine wpG_pure ?_
  refine wpAny_newFunctionEnv hcell hloc (fun h₀ hns₀ hsb₀ => ⟨hlim.fresh _ hsb₀, codeG_func D (h h₀ hns₀ fun b o e => ?_)⟩) hk
  exact hsb₀.extBut b o (Nat.ne_of_lt (Heap.lt_size e)) (Heap.get?_push_of_some _ e)
theorem codeG_call_cells (D : Deep P) {a : Addr} {o : Obj} {fd : FuncData} {body : List Stmt} {vals : List Value} {binds : List (Str × Value)}
    (hroom : A.depth < recursionLimit) (ho : s.heap.get? a = some o) (hdata : o.data = .func fd) (hlim : s.heap.NoLimit) (hcd : s.heap.CodeRec fd.code fd.qualname)
    (hbody : fd.body = .stmts body) (hbind : bindArgs fd ⟨vals, []⟩ = pure binds) (hclo : fd.closure = [])
    (hkind : ∀ x ∈ binds, fd.scope.names.lookup x.1 = some .local ∨ (fd.scope.names.lookup x.1 = some .cell ∧ ((cellsFrom (s.heap.objs.size + 1) fd.scope.names []).lookup x.1).isSome = true))
    (h : ∀ s₁, InCallC s (callEnvC fd s.heap.objs.size a).locals (bindL (callEnvC fd s.heap.objs.size a).kindOf binds fun _ => none) (callEnvC fd s.heap.objs.size a).cells
        (bindC (callEnvC fd s.heap.objs.size a).kindOf binds fun _ => none) s₁ →
      wpG P (model prog w) (A.deeper (callEnvC fd s.heap.objs.size a)) (execs body (callEnvC fd s.heap.objs.size a)) (fun f s' => R (.ok (.ret (match f with | .ret v => v | _ => .none))) s')
        (fun e s' => wpAny (model prog w) (A.deeper (callEnvC fd s.heap.objs.size a)) (leaving (callEnvC fd s.heap.objs.size a) e) (fun _ s'' => R (.error e) s'') (fun e' s'' => R (.error e') s'') s') s₁)
    (hco : fd.scope.isCoroutine = false := by rfl) (hgen : fd.scope.isGenerator = false := by rfl) (hk : fd.scope.kind = .function := by rfl) :
    codeG P (model prog w) A (.call (.ref a) ⟨vals, []⟩) R s := by
  refine codeG_call_function D hroom ho hdata hco hgen hbody hcd ?_
  rw [hbind, hclo]
  refine wpG_pure (wpAny_newFunctionEnv_cells hk hkind fun env he s' x => ?_)
  subst he
  exact ⟨hlim.keeps x.toInCall.keep, codeG_func D (h s' x)⟩
end
section
variable {w : World} {A : Around} {E : Value → Shared → Prop} {s₀ : Shared} {B : Heap} {L : Addr} {m : Str → Option Value} {U U₁ U₂ : List (Addr × Cell)} {h : Heap} {k : Nat} {env : Env} {P : Ctx → Prop}
theorem callfdG (D : Deep P) {a : Addr} {fd : FuncData} {body : List Stmt} {args : List Value} {binds : List (Str × Value)} {Q : Value → Shared → Prop} (hf : h.get? a = some (fnObj fd)) (hcd : h.CodeRec fd.code fd.qualname)
    (hn : h.NoLimit) (hroom : A.depth < 1000) (hbody : fd.body = .stmts body) (hgl : fd.globals = mainGlobals) (hbl : fd.builtins = builtinsNs)
    (hbind : bindArgs fd ⟨args, []⟩ = pure binds) (hcell : ∀ x ∈ fd.scope.names, x.2 ≠ .cell) (hloc : ∀ x ∈ binds, fd.scope.names.lookup x.1 = some .local)
    (hco : fd.scope.isCoroutine = false) (hgen : fd.scope.isGenerator = false) (hk : fd.scope.kind = .function)
    (hb : ∀ env h₁, env = callEnv fd h.objs.size a → EOk env → St h env.locals (fun x => binds.reverse.lookup x) [] h₁ →
      wpG P (model PW w) (A.deeper env) (execs body env) (retQ Q) (outE w A env E) (Sh s₀ h₁ (k + binds.length))) :
    wpG P (model PW w) A (call (.ref a) args []) Q E (Sh s₀ h k) := by
  refine wpG_call D (codeG_call_def D (fd := fd) (body := body) (binds := binds) (s := Sh s₀ h k) hroom hf rfl hn hcd hbody hbind hcell hloc (fun h₀ hns hkp => ?_) hco hgen hk)
  exact hb _ h₀ rfl ⟨hk, hgl, hbl⟩ ⟨hns, hkp, get_none_of_ge (Nat.le_refl _), fun p hp => (nomatch hp), List.nodup_nil⟩
theorem callCG (D : Deep P) {a : Addr} {fd : FuncData} {body : List Stmt} {args : List Value} {binds : List (Str × Value)} {Q : Value → Shared → Prop} (hf : h.get? a = some (fnObj fd)) (hcd : h.CodeRec fd.code fd.qualname)
    (hn : h.NoLimit) (hroom : A.depth < 1000) (hbody : fd.body = .stmts body) (hgl : fd.globals = mainGlobals) (hbl : fd.builtins = builtinsNs)
    (hbind : bindArgs fd ⟨args, []⟩ = pure binds) (hclo : fd.closure = [])
    (hloc : ∀ x ∈ binds, fd.scope.names.lookup x.1 = some .local)
    (hnd : ((cellsFrom 0 fd.scope.names []).map (·.1)).Nodup)
    (hco : fd.scope.isCoroutine = false) (hgen : fd.scope.isGenerator = false) (hk : fd.scope.kind = .function)
    (hb : ∀ env h₁ k₁, env = callEnvC fd h.objs.size a → EOk env → env.cells = cellsFrom (h.objs.size + 1) fd.scope.names [] →
      St h env.locals (fun x => binds.reverse.lookup x) ((cellsFrom (h.objs.size + 1) fd.scope.names []).map fun p => (p.2, cellC none)) h₁ →
      wpG P (model PW w) (A.deeper env) (execs body env) (retQ Q) (outE w A env E) (Sh s₀ h₁ k₁)) :
    wpG P (model PW w) A (call (.ref a) args []) Q E (Sh s₀ h k) := by
  refine wpG_call D (codeG_call_cells D (fd := fd) (body := body) (binds := binds) (s := Sh s₀ h k) hroom hf rfl hn hcd hbody hbind hclo (fun x hx => .inl (hloc x hx)) (fun s₁ x => ?_) hco hgen hk)
  have hcm : ∀ (bs : List (Str × Value)) (m : Str → Option Value), (∀ x ∈ bs, (callEnvC fd h.objs.size a).kindOf x.1 = some .local) → bindC (callEnvC fd h.objs.size a).kindOf bs m = m := by
    intro bs
    induction bs with
    | nil => intro m _; rfl
    | cons b r ih =>
      intro m hb
      obtain ⟨n, v⟩ := b
      unfold bindC
      rw [if_pos (hb (n, v) (.head _))]
      exact ih m fun x hx => hb x (.tail _ hx)
  have e0 := hcm binds (fun _ => none) hloc
  have hbl2 : ∀ (bs : List (Str × Value)) (m : Str → Option Value) (x : Str), (∀ x ∈ bs, (callEnvC fd h.objs.size a).kindOf x.1 = some .local) → bindL (callEnvC fd h.objs.size a).kindOf bs m x = (bs.reverse.lookup x).or (m x) := by
    intro bs
    induction bs with
    | nil => intro m x _; rfl
    | cons b r ih =>
      intro m x hb
      obtain ⟨n, v⟩ := b
      unfold bindL
      rw [if_pos (hb (n, v) (.head _)), ih _ x fun x hx => hb x (.tail _ hx), List.reverse_cons, List.lookup_append]
      cases r.reverse.lookup x with
      | some _ => rfl
      | none =>
        simp -iota only [Option.none_or, List.lookup_cons, List.lookup_nil]
        by_cases e : x = n
        · subst e; simp
        · rw [if_neg e, beq_eq_false_iff_ne.mpr e]; rfl
  have e1 : bindL (callEnvC fd h.objs.size a).kindOf binds (fun _ => none) = fun x => binds.reverse.lookup x := funext fun x => by rw [hbl2 binds _ x hloc]; simp
  obtain ⟨⟨⟨h₁, k₁, rfl⟩, hns, hkeep, hfr⟩, hcell, hap, hab⟩ := x
  rw [e0] at hcell
  rw [e1] at hns
  refine hb (callEnvC fd h.objs.size a) h₁ k₁ rfl ⟨hk, hgl, hbl⟩ rfl ⟨hns, hkeep, get_none_of_ge (Nat.le_refl _), fun p hp => ?_, ?_⟩
  · obtain ⟨q, hq, rfl⟩ := List.mem_map.mp hp
    have hnd' : ((cellsFrom (h.objs.size + 1) fd.scope.names []).map (·.1)).Nodup := PyProof.Rows.cellsFrom_names fd.scope.names 0 (h.objs.size + 1) [] [] rfl ▸ hnd
    obtain ⟨o, e, hd⟩ := hcell q.1 q.2 (PyProof.Rows.lookup_of_mem_nodup hnd' hq)
    have hlt := hab q.1 q.2 hq
    exact ⟨⟨o, e, hd⟩, Nat.ne_of_gt hlt, get_none_of_ge (Nat.le_of_lt hlt)⟩
  · have e1 : (((cellsFrom (h.objs.size + 1) fd.scope.names []).map fun p => (p.2, cellC none)).map (·.1)) = (cellsFrom (h.objs.size + 1) fd.scope.names []).map (·.2) := by simp
    rw [e1]
    exact List.pairwise_map.mpr hap
end
section
variable {P : Ctx → Prop} {M : Model} {A : Around} {E : Value → Shared → Prop} {s : Shared} {env : Env}
theorem wpG_ite {α : Type} {c : Prop} [Decidable c] {t u : Sem α} {Q : α → Shared → Prop} (h : if c then wpG P M A t Q E s else wpG P M A u Q E s) : wpG P M A (if c then t else u) Q E s := by
  split <;> rename_i hc
  · rw [if_pos hc] at h; exact h
  · rw [if_neg hc] at h; exact h
theorem wpG_keep {α : Type} {vs : List Value} {m : Sem α} {Q : α → Shared → Prop} (h : wpG P M A m Q E s) : wpG P M A (m.keep vs) Q E s :=
  fun Γ p hΓ hP => by rw [Sem.wp_keep]; exact h Γ p hΓ hP
theorem wpG_operate {vs : List Value} {m : Sem Value} {Q : Value → Shared → Prop} (h : wpG P M A m Q E s) : wpG P M A (operate vs m) Q E s :=
  fun Γ p hΓ hP => by rw [Sem.wp_operate]; exact h Γ p hΓ hP
theorem wpG_execs_cons {st rest} {Q : Flow → Shared → Prop}
    (h : wpG P M A (exec st env) (fun f s' => match f with | .next => wpG P M A (execs rest env) Q E s' | f => Q f s') E s) :
    wpG P M A (execs (st :: rest) env) Q E s := by
  rw [execs_cons]
  refine wpG_bind (wpG_mono h (fun f s' h' => ?_) fun _ _ e => e)
  cases f <;> first | exact h' | exact wpG_pure h'
theorem wpG_standAt {pos : Pos} {α : Type} {k : Unit → Sem α} {Q : α → Shared → Prop} (h : wpG P M A (k ()) Q E s) : wpG P M A (standAt pos >>= k) Q E s := wpG_bind (wpAny.g (wpAny_standAt h))
theorem wpG_runOwn (D : Deep P) {c : Code} {h : Option Value} {Q : Flow → Shared → Prop}
    (hc : codeG P M (A.mark h) c (fun r s' => match r with | .ok f => Q f s' | .error e => cameBackBy M A env E e s') s) (hnb : h ≠ some byPass := by intro x; cases x) :
    wpG P M A (runOwn c env h) Q E s := by
  unfold runOwn
  exact wpG_onRaise (wpG_mono (wpG_run D hc hnb) (fun _ _ q => q) fun _ _ q => wpAny.g q)
theorem wpG_For (D : Deep P) {target iter body orelse pos} {Q : Flow → Shared → Prop}
    (h : wpAny M A (eval iter env) (fun x s₁ => wpAny M A (pyIter x) (fun it s₂ =>
      codeG P M A (.forLoop target it body orelse env) (fun r s' => match r with | .ok f => Q f s' | .error e => cameBackBy M A env E e s') s₂) E s₁) E s)
    (hs : ∀ x, foldedSetIterable iter env x = pure x := by intro _; rfl) :
    wpG P M A (exec (.For target iter body orelse pos) env) Q E s := by
  rw [exec_For]
  refine wpG_standAt (wpG_bind (wpG_mono (wpAny.g h) (fun x s₁ h₁ => ?_) fun _ _ e => e))
  rw [hs x]
  refine wpG_bind (wpG_pure (wpG_standAt (wpG_bind (wpG_holding (wpG_mono (wpAny.g h₁) (fun it s₂ h₂ => wpG_runOwn D h₂) fun _ _ e => e)))))
theorem wpG_Return_some {e pos} {Q : Flow → Shared → Prop} (h : wpG P M A (eval e env) (fun v => Q (.ret v)) E s) : wpG P M A (exec (.Return (some e) pos) env) Q E s := by
  rw [exec_Return_some]
  exact wpG_standAt (wpG_bind (wpG_mono h (fun _ _ q => wpG_pure q) fun _ _ e => e))
theorem wpG_Assign_Name {x pos' value pos} {Q : Flow → Shared → Prop}
    (h : wpG P M A (eval value env) (fun v s₁ => wpAny M A (storeName env x v) (fun _ => Q .next) E s₁) E s)
    (hs : swapsWith value (some (.Name x pos')) pos.line env = pure false := by rfl) :
    wpG P M A (exec (.Assign [.Name x pos'] value pos) env) Q E s := by
  rw [exec_Assign_Name env x pos' value pos hs]
  refine wpG_standAt (wpG_bind (wpG_mono h (fun v s₁ h₁ => wpG_standAt (wpG_bind (wpAny.g (wpAny_bindName (wpAny_mono h₁ (fun _ _ q => wpG_pure q) fun _ _ e => e))))) fun _ _ e => e))
end
section
variable {P : Ctx → Prop} {prog : Program} {w : World} {A : Around} {E : Value → Shared → Prop} {s : Shared} {env : Env}
theorem codeG_forLoop_any (D : Deep P) {R : Result → Shared → Prop} {target it body env} (I : Nat → Shared → Prop)
    (turn : ∀ n s, I n s → wpAny (model prog w) A (pyNext it) (fun r s₁ => match r with
      | none => R (.ok .next) s₁
      | some v => wpAny (model prog w) A (letOwnedTupleGo target it v) (fun _ s₁' =>
          wpAny (model prog w) A (assign target env v) (fun _ s₂ => wpG P (model prog w) A (execs body env) (fun f s₃ => match f with
            | .next | .cont => ∃ m, m < n ∧ I m s₃
            | .brk => R (.ok .next) s₃
            | .ret v => R (.ok (.ret v)) s₃) (notedBy (model prog w) A env fun e s' => R (.error e) s') s₂) (notedBy (model prog w) A env fun e s' => R (.error e) s') s₁') (notedBy (model prog w) A env fun e s' => R (.error e) s') s₁) (notedBy (model prog w) A env fun e s' => R (.error e) s') s)
    (n : Nat) (h : I n s) : codeG P (model prog w) A (.forLoop target it body [] env) R s := by
  refine codeG_loop D rfl I (fun n s hI => ?_) n h
  show wpG P _ A ((forTurn target it body [] env).onRaise (fun x => do noteFrame x env; theTreesLotGoes x)) _ _ s
  refine wpG_onRaise (wpG_mono (E := notedBy (model prog w) A env fun e s' => R (.error e) s') ?_ (fun _ _ q => q) fun _ _ hx => wpAny.g (wpAny_bind (wpAny_mono hx (fun _ _ e => wpAny_theTreesLotGoes e) fun _ _ e => e)))
  simp -iota only [forTurn]
  refine wpG_standAt (wpG_bind (wpAny.g (wpAny_onRaise (wpAny_mono (turn n s hI) (fun r s₁ h₁ => ?_) fun _ _ h' => wpAny_standAt h'))))
  cases r with
  | none => exact wpG_pure (.inr ⟨rfl, codeAny.g (codeAny_block (wpAny_execs_nil h₁))⟩)
  | some v =>
    refine wpG_bind (wpAny.g (wpAny_mono h₁ (fun _ s₁' h₁' => ?_) fun _ _ h' => h'))
    refine wpG_bind (wpAny.g (wpAny_mono h₁' (fun _ s₂ h₂ => wpG_bind (wpG_mono h₂ (fun f s₃ h₃ => ?_) fun _ _ h' => h')) fun _ _ h' => h'))
    cases f with
    | next => exact wpG_pure (.inl ⟨rfl, h₃⟩)
    | cont => exact wpG_pure (.inl ⟨rfl, h₃⟩)
    | brk => exact wpG_pure h₃
    | ret v => exact wpG_pure h₃
theorem wpG_Try_except {body : List Stmt} {h₀ : ExceptHandler} {hs : List ExceptHandler} {pos : Pos} {Q : Flow → Shared → Prop}
    (h : wpG P (model prog w) A (execs body env) (fun f s₁ => Q f s₁)
      (fun e s₁ => wpAny (model prog w) A (noteFrame e env) (fun _ s₂ => wpAny (model prog w) A (setFlight e none) (fun _ s₃ => wpAny (model prog w) A (handleBy e env (h₀ :: hs)) Q E s₃) E s₂) E s₁) s) :
    wpG P (model prog w) A (exec (.Try body (h₀ :: hs) [] [] pos) env) Q E s := by
  rw [arm_exec_Try]
  refine wpG_standAt ?_
  unfold tryStmt
  simp -iota only [List.isEmpty_nil, if_true, List.isEmpty_cons, Bool.false_and, Bool.false_eq_true, if_false]
  refine wpG_bind (wpG_attempt (wpG_mono h (fun f s₁ q => ?_) fun e s₁ q => ?_))
  · cases f with
    | next => exact wpAny.g (wpAny_execs_nil q)
    | _ => exact wpG_pure q
  · refine wpG_bind (wpAny.g (wpAny_mono q (fun _ s₂ q => ?_) fun _ _ e => e))
    refine wpG_bind (wpAny.g (wpAny_mono q (fun _ s₃ q => wpAny.g q) fun _ _ e => e))
end
end Mine
end
section
open PySem PySem.W PySem.Calls
namespace Mine
section
variable {w : World} {A : Around} {E : Value → Shared → Prop} {R : Result → Shared → Prop} {s₀ : Shared} {B : Heap} {L : Addr} {m : Str → Option Value} {U : List (Addr × Cell)} {h : Heap} {k : Nat} {env : Env} {P : Ctx → Prop}
theorem forLoopG (D : Deep P) {target : Expr} {body : List Stmt} {I : Addr} {n : Nat} {PI : Nat → Value → Prop} (Inv : Nat → Heap → Locs → Own → Prop) (Y : Way w A I n PI B) {oI : Obj} {V : Own}
    (ht : ∀ v, letOwnedTupleGo target (.ref I) v = pure ())
    (S : St B env.locals m (U ++ (I, its oI) :: V) h) (hW : Y.Wst 0 h) (h0 : Inv 0 B m U)
    (turn : ∀ i v B' m' U' oI' h₂ k₂, i < n → PI i v → Inv i B' m' U' → Kp B B' → St B' env.locals m' (U' ++ (I, its oI') :: V) h₂ →
      wpAny (model PW w) A (assign target env v) (fun _ s₂ => wpG P (model PW w) A (execs body env) (NxF s₀ env.locals ((I, its oI') :: V) B' (Inv (i + 1)) fun f => R (.ok f)) (EE w A env R) s₂) (EE w A env R) (Sh s₀ h₂ k₂))
    (fin : ∀ B' m' U' h₂ k₂, Inv n B' m' U' → Kp B B' → St B' env.locals m' (U' ++ V) h₂ → R (.ok .next) (Sh s₀ h₂ k₂)) :
    codeG P (model PW w) A (.forLoop target (.ref I) body [] env) R (Sh s₀ h k) := by
  refine codeG_forLoop_any D (LI s₀ env.locals I (fun _ => V) B (fun i _ => Inv i) Y.Wst n 0 fun _ _ => True) (LI.out fun i ys B' m' U' oI' h₂ k₂ hinv hB S' hW' hi hys hk => ?_) (n + 1)
    ⟨0, [], B, m, U, oI, h, k, h0, Kp.refl _, S, hW, Nat.zero_le _, trivial, Nat.zero_le _⟩
  by_cases hlt : i < n
  · refine Y.W.item i _ _ _ hlt hW' fun v h₃ tk hP hW₃ hk₃ => ?_
    obtain ⟨o₃, e₃⟩ := Y.hI _ _ hW₃
    have S₃ := S'.turned Y.hwr hk₃ e₃
    have t0 := turn i v B' m' U' o₃ h₃ tk hlt hP hinv hB S₃
    show wpAny _ A (letOwnedTupleGo target (.ref I) v) _ _ _
    rw [ht]
    refine wpAny_pure (wpAny_mono t0 (fun _ s₂ q => wpG_mono q (fun f s₃ q => ?_) fun _ _ e => e) fun _ _ e => e)
    have back : Nx s₀ env.locals ((I, its o₃) :: V) B' (Inv (i + 1)) s₃ → ∃ t' < n + 1 - i, LI s₀ env.locals I (fun _ => V) B (fun i _ => Inv i) Y.Wst n 0 (fun _ _ => True) t' s₃ := by
      rintro ⟨B'', m'', U'', h₄, k₄, rfl, hB'', S₄, hinv'⟩
      exact ⟨_, lt_step hlt, i + 1, [], B'', m'', U'', o₃, h₄, k₄, hinv', hB.trans hB'', S₄, Y.frame hB hB'' S₃ S₄ hW₃, hlt, trivial, Nat.zero_le _⟩
    cases f with
    | next => exact back q
    | cont => exact back q
    | brk => exact q
    | ret v => exact q
  · have hin : i = n := Nat.le_antisymm hi (Nat.le_of_not_lt hlt)
    refine Y.W.done _ _ _ (hin ▸ hW') fun h₃ tk hk₃ => ?_
    exact fin B' m' U' h₃ tk (hin ▸ hinv) hB (S'.other fun b o hb e => hk₃ b o (fun q => hb (Y.hwr b q)) e)
theorem forRangeG (D : Deep P) {x y : Str} {px p1 p2 p3 p4 p5 pos : Pos} {body : List Stmt} {Q : Flow → Shared → Prop} {a : Addr} {items : List Value} {o : Obj} {n : Nat} {U₁ V : List (Addr × Cell)} (hh : A.handled = none) (T : Top0 h) (ok : EOk env)
    (g1 : env.kindOf "range" = some .globalImplicit) (g2 : env.kindOf "len" = some .globalImplicit) (ly : env.kindOf y = some .local) (hd : (y == ("__debug__" : Str)) = false)
    (S : St B env.locals m (U₁ ++ V) h) (hm : m y = some (.ref a)) (ha : B.get? a = some o) (hc : o.cls = .type "list") (hdt : o.data = .seq items.toArray n) (hn : items.length ≤ 10000)
    (Inv : Nat → Heap → (Str → Option Value) → List (Addr × Cell) → Prop) (h0 : Inv 0 B m U₁)
    (turn : ∀ i u B' m' U' V' h₂ k₂, i < items.length → Inv i B' m' U' → Kp B B' → St B' env.locals m' (U' ++ V') h₂ →
        wpAny (model PW w) A (assign (.Name x px) env (.int (i : Nat) u)) (fun _ => wpG P (model PW w) A (execs body env) (NxF s₀ env.locals V' B' (Inv (i + 1)) Q) (LE w A env Q E)) (LE w A env Q E) (Sh s₀ h₂ k₂))
    (fin : ∀ B' m' U' h₂ k₂, Inv items.length B' m' U' → Kp B B' → St B' env.locals m' (U' ++ V) h₂ → Q .next (Sh s₀ h₂ k₂)) :
    wpG P (model PW w) A (exec (.For (.Name x px) (.Call (.Name "range" p1) [.Call (.Name "len" p2) [.Name y p3] [] p4] [] p5) body [] pos) env) Q E (Sh s₀ h k) := by
  refine wpG_For D ?_ (by intro _; rfl)
  have hl : h.IsList a items.toArray := ⟨o, S.old ha, hc, n, hdt⟩
  have p63 : (2 : Int) ^ 63 = 9223372036854775808 := by decide
  have p62 : (2 : Int) ^ 62 = 4611686018427387904 := by decide
  refine callT (id := "range") T ok g1 (by decide) (arg1 (callB (id := "len") T ok g2 (by decide) (arg1 (nm S ok.kind ly hm ?_ hd))))
  refine call_len_list (s := Sh s₀ h _) hl (by rw [List.size_toArray]; omega) ?_
  refine call_range_1 (s := Sh s₀ h _) ?_
  have S₁ := S.push { cls := .type "range", data := .fields #[.int 0 (k + 1 + 1), .int items.toArray.size (k + 1), .int 1 (k + 1 + 1 + 1)] }
  have hsz : ((items.toArray.size : Nat) : Int) = (items.length : Int) := by simp
  refine wpAny_pyIter_range (s := Sh s₀ _ _) (Heap.get?_push_size _ rfl) (small_one (by omega) (by omega) (by rw [hsz]; omega) (by rw [hsz]; omega)) ?_
  have er : Builtin.Range.rangeSize 0 ((items.toArray.size : Nat) : Int) 1 = (items.length : Int) := by
    rw [rangeSize_one, hsz]
    split <;> omega
  rw [er]
  generalize h.push _ = h₁ at S₁ ⊢
  have S₂ := S₁.allocMid { cls := .type "range_iterator", data := .fields #[rawInt 0, rawInt (items.length : Int), rawInt 1] } (c := its _) rfl
  refine forLoopG D (R := fun r s' => match r with | .ok f => Q f s' | .error e => cameBackBy (model PW w) A env E e s') (s₀ := s₀) Inv (wayRange hh h₁.objs.size items.length) (fun _ => rfl) S₂ ?_ h0
    (fun i v B' m' U' oI' h₂ k₂ hi hP hinv hB S₂ => ?_)
    (fun B' m' U' h₂ k₂ hinv hB S₂ => fin B' m' U' h₂ k₂ hinv hB S₂)
  · show IsRangeIter _ _ (0 + ((0 : Nat) : Int) * 1) ((items.length : Int) - ((0 : Nat) : Int)) 1
    have e1 : (0 + ((0 : Nat) : Int) * 1) = 0 := by decide
    have e2 : (items.length : Int) - ((0 : Nat) : Int) = items.length := by omega
    rw [e1, e2]
    exact Heap.get?_push_size _ rfl
  · obtain ⟨u, rfl⟩ := hP
    exact turn _ u B' m' U' _ h₂ k₂ hi hinv hB S₂
end
end Mine
end
section
open PySem PySem.W PySem.Calls
open Sem (wp)
namespace Mine
noncomputable def clsFd (i j : Nat) (n q : String) (t : Tok) (c : Addr) (doc : Value) (an : Option Addr) (dflt : Value) (cl : List (Str × Addr)) (ct : Value) : FuncData :=
  { name := Str.ofString n, qualname := Str.ofString q, params := dArgs (inCls i j), body := .stmts (dBody (inCls i j)), scope := dScope (inCls i j), globals := mainGlobals, closure := cl, defaults := dflt, kwdefaults := .none,
    doc := doc, pyModule := .str (Str.ofString "cpy313.importlib.metadata._collections") t, annotations := an, code := .ref c, closureTuple := ct, builtins := builtinsNs }
noncomputable def newFd : FuncData := clsFd 5 4 "__new__" "Pair.__new__" 286 129 (.str (Str.ofString "Create new instance of Pair(name, value)") 416) none .none [] .none
noncomputable def parseFd : FuncData := clsFd 6 0 "parse" "Pair.parse" 286 196 .none (some 200) .none [] .none
noncomputable def getFd : FuncData := clsFd 3 1 "__get__" "_tuplegetter.__get__" 286 60 .none none (.ref 54) [] .none
noncomputable def missFd : FuncData := clsFd 4 1 "__missing__" "FreezableDefaultDict.__missing__" 286 97 .none none .none [(Str.ofString "__class__", 86)] (.ref 91)
noncomputable def freezeFd : FuncData := clsFd 4 2 "freeze" "FreezableDefaultDict.freeze" 286 104 .none none .none [] .none
theorem k_130 {P : Params} {h : Heap} (X : (K0 P).In h) : h.get? 130 = some (fnObj newFd) := X _ _ (by rfl)
theorem k_197 {P : Params} {h : Heap} (X : (K0 P).In h) : h.get? 197 = some (fnObj parseFd) := X _ _ (by rfl)
theorem k_61 {P : Params} {h : Heap} (X : (K0 P).In h) : h.get? 61 = some (fnObj getFd) := X _ _ (by rfl)
theorem k_98 {P : Params} {h : Heap} (X : (K0 P).In h) : h.get? 98 = some (fnObj missFd) := X _ _ (by rfl)
theorem k_105 {P : Params} {h : Heap} (X : (K0 P).In h) : h.get? 105 = some (fnObj freezeFd) := X _ _ (by rfl)
theorem c_130 {P : Params} {h : Heap} (X : (K0 P).In h) : h.CodeRec newFd.code newFd.qualname := codeRec_of X (by rfl)
theorem c_197 {P : Params} {h : Heap} (X : (K0 P).In h) : h.CodeRec parseFd.code parseFd.qualname := codeRec_of X (by rfl)
theorem c_61 {P : Params} {h : Heap} (X : (K0 P).In h) : h.CodeRec getFd.code getFd.qualname := codeRec_of X (by rfl)
theorem c_98 {P : Params} {h : Heap} (X : (K0 P).In h) : h.CodeRec missFd.code missFd.qualname := codeRec_of X (by rfl)
theorem c_105 {P : Params} {h : Heap} (X : (K0 P).In h) : h.CodeRec freezeFd.code freezeFd.qualname := codeRec_of X (by rfl)
theorem bind_two (a x y : Value) : bindArgs newFd ⟨[a, x, y], []⟩ = pure [(("_cls" : Str), a), (("name" : Str), x), (("value" : Str), y)] := by with_unfolding_all rfl
section
variable {P : Ctx → Prop} {w : World} {A : Around} {E : Value → Shared → Prop} {s : Shared}
theorem wpG_no {α : Type} {c : Prop} [Decidable c] {t u : Sem α} {Q : α → Shared → Prop} (hc : ¬ c) (h : wpG P (model PW w) A u Q E s) : wpG P (model PW w) A (if c then t else u) Q E s := by rw [if_neg hc]; exact h
theorem wpG_yes {α : Type} {c : Prop} [Decidable c] {t u : Sem α} {Q : α → Shared → Prop} (hc : c) (h : wpG P (model PW w) A t Q E s) : wpG P (model PW w) A (if c then t else u) Q E s := by rw [if_pos hc]; exact h
theorem wpG_rule {α : Type} {tag : String} {k : Unit → Sem α} {Q : α → Shared → Prop} (h : wpG P (model PW w) A (k ()) Q E s) : wpG P (model PW w) A (rule tag >>= k) Q E s := wpG_bind (wpAny.g (wpAny_rule h))
theorem wpG_refusesB {α β : Type} (hP : ∀ Γ, P Γ → Ctx.called Γ) {msg : String} {k : α → Sem β} {Q : β → Shared → Prop} (hh : A.handled = none)
    (h : ∀ h' tk e, Heap.NewExc s.heap h' e "TypeError" → E (.ref e) { s with heap := h', toks := tk }) (hm : Nat.ble (msg : Str).length sizeLine = true) :
    wpG P (model PW w) A ((theBinderRefuses msg : Sem α) >>= k) Q E s := wpG_bind (wpG_refuses hP hh h (Nat.le_of_ble_eq_true hm))
theorem bind_one (hP : ∀ Γ, P Γ → Ctx.called Γ) (hh : A.handled = none) (a x : Value) {Q : List (Str × Value) → Shared → Prop}
    (hE : ∀ h' tk e, Heap.NewExc s.heap h' e "TypeError" → E (.ref e) { s with heap := h', toks := tk }) : wpG P (model PW w) A (bindArgs newFd ⟨[a, x], []⟩) Q E s := by
  have hd : seqItems? newFd.defaults = pure none := rfl
  have e1 : newFd.params.posonlyargs = [] := by with_unfolding_all rfl
  have e2 : newFd.params.args.map (·.arg) = [("_cls" : Str), "name", "value"] := by with_unfolding_all rfl
  have e3 : newFd.params.kwonlyargs = [] := by with_unfolding_all rfl
  have e4 : newFd.params.vararg = none := by with_unfolding_all rfl
  unfold bindArgs
  simp only [e1, e3, e4, hd, List.map_nil, List.nil_append, List.forIn_nil, pure_bind]
  rw [e2]
  have no1 : ∀ b : Bool, b = false → ¬ (b = true) := fun b e q => by rw [e] at q; cases q
  with_reducible refine wpG_no (no1 _ (by kernel_rfl)) ?_
  with_reducible refine wpG_yes (by kernel_rfl) ?_
  with_reducible refine wpG_rule ?_
  with_reducible refine wpG_refusesB hP hh hE ?_
  kernel_rfl
end
theorem tc_weight (C : Addr) (rest : List Value) (kw : List (Str × Value)) : (Code.builtin "type.__call__" ⟨.ref C :: rest, kw⟩).weight = 1 := by kernel_rfl
theorem tc_units (C : Addr) (rest : List Value) (kw : List (Str × Value)) : (Code.builtin "type.__call__" ⟨.ref C :: rest, kw⟩).cUnits = 1 := by kernel_rfl
theorem AOk.creates {n : Nat} {A : Around} {C : Addr} {rest : List Value} {kw : List (Str × Value)} (x : AOk (n + 1) A) : AOk n (A.under (.builtin "type.__call__" ⟨.ref C :: rest, kw⟩)) :=
  ⟨by have := x.depth; show A.depth + (Code.builtin "type.__call__" ⟨.ref C :: rest, kw⟩).weight + n < 1000; rw [tc_weight]; omega,
   by have := x.units; show A.units + (Code.builtin "type.__call__" ⟨.ref C :: rest, kw⟩).cUnits + 10 * n < 9900; rw [tc_units]; omega, x.handled⟩
section
variable {P : Ctx → Prop} {w : World} {A : Around} {R : Result → Shared → Prop} {E : Value → Shared → Prop} {s : Shared}
theorem codeG_call_builtin_at (D : Deep P) {id : String} {args : Args} {b : Builtin} (hq : (Code.builtin id args).quiet = true) (hb : entryFor table id = some b)
    (h : wpAny (model PW w) A.in1 (checkBuiltinCall id args) (fun _ s₁ => wpG P (model PW w) (A.under (.builtin id args)) (b args)
      (fun fin s' => match fin with | .done f => R (.ok f) s' | .again c' => c'.quiet = true ∧ codeG P (model PW w) A c' R s') (fun e s' => R (.error e) s') s₁)
      (fun e s' => R (.error e) s') s) : codeG P (model PW w) A (.call (.builtin id) args) R s := by
  refine codeG_of_tree D (wpAny.g ?_)
  show wpAny _ A.in1 (do checkBuiltinCall id args; again (.builtin id args)) _ _ s
  refine wpAny_bind (wpAny_mono h (fun _ s₁ h₁ => wpAny_pure (And.intro hq (codeG_of_tree D ?_))) fun _ _ h' => h')
  show wpG P _ _ (match entryFor table id with | some b => b args | none => unsupported ((withoutEnding? id "#data").getD id)) _ _ s₁
  rw [hb]; exact h₁
theorem wpG_looks {α β : Type} {M : Model} {t : Sem α} {k : α → Sem β} {r : α} {Q : β → Shared → Prop} {h : Heap} {g d tk os} (x : Looks M h t r) (q : wpG P M A (k r) Q E ⟨h, g, d, tk, os⟩) : wpG P M A (t >>= k) Q E ⟨h, g, d, tk, os⟩ :=
  wpG_bind (wpAny.g (x.at q))
end
section
variable {P : Ctx → Prop} {w : World} {A : Around} {E : Value → Shared → Prop} {s₀ : Shared} {h : Heap} {k : Nat} {Pm : Params}
noncomputable def cd203 : ClassData := { name := Str.ofString "Pair", bases := [.ref 180], mro := [.ref 203, .ref 180, .type "tuple", .type "object"], ns := 202, qualname := Str.ofString "Pair", hasDict := true, slotNames := [], subclasses := [], abstract := false, collection := none, hasDel := false }
theorem k_203 (X : (K0 Pm).In h) : h.get? 203 = some ⟨.type "type", none, .cls cd203, #[some (.ref 184), none, some (.str (Str.ofString "Pair") 503), some (.str (Str.ofString "Pair") 511), some .none, some (.bool false)]⟩ := X _ _ (by kernel_rfl)
theorem pair_refused (D : Deep P) (hP : ∀ Γ, P Γ → Ctx.called Γ) {x : Value} {Q : Value → Shared → Prop} (X : (K0 Pm).In h) (hA : AOk 3 A)
    (hE : ∀ h' k' e, Heap.NewExc h h' e "TypeError" → E (.ref e) (Sh s₀ h' k')) :
    wpG P (model PW w) A (call (.ref 203) [x] []) Q E (Sh s₀ h k) := by
  have hC := k_203 X
  have call_ : Looks (model PW w) h (specialOf (.ref 203) "__call__") (some (.builtin "type.__call__")) := looks_specialIn X special_call
  have typ := looks_instIn (M := model PW w) X inst_type
  refine wpG_call D (codeG_of_tree D (wpAny.g ?_))
  show wpAny _ _ (callAny (.ref 203) _) _ _ _
  refine nd_load hC ?_
  show wpAny _ _ (callAny.viaDunder (.ref 203) _) _ _ _
  unfold callAny.viaDunder
  refine wpAny_bind (call_.at ?_)
  dsimp only
  rw [tc_bind]
  refine wpAny_bind (wpAny_pure (wpAny_bind (wpAny_pure ?_)))
  refine wpAny_pure (a := Fin.again (.call (.builtin "type.__call__") ⟨[.ref 203, x], []⟩)) (And.intro rfl ?_)
  have hq : (Code.builtin "type.__call__" ⟨[.ref 203, x], []⟩).quiet = true := Code.quiet_builtin _ (by decide +kernel)
  have hchk : ∀ {A' : Around} {Q' : Unit → Shared → Prop} {E' : Value → Shared → Prop}, Q' () ⟨h, s₀.gens, s₀.drawn, k, s₀.os⟩ → wpAny (model PW w) A' (checkBuiltinCall "type.__call__" ⟨[.ref 203, x], []⟩) Q' E' ⟨h, s₀.gens, s₀.drawn, k, s₀.os⟩ := fun {A' Q' E'} q => @check_slot (model PW w) A' E' ⟨h, s₀.gens, s₀.drawn, k, s₀.os⟩ "type.__call__" "type" "__call__" (.ref 203) [x] [] Q' tc_kind tc_split typ (tc_args _ _ _) q
  with_reducible refine codeG_call_builtin_at D hq entry_typeCall (hchk ?_)
  have A2 : AOk 2 (A.under (.builtin "type.__call__" ⟨[.ref 203, x], []⟩)) := hA.creates
  generalize A.under (.builtin "type.__call__" ⟨[.ref 203, x], []⟩) = A' at A2
  have hm : Looks (model PW w) h (mroOf (.ref 203)) [.ref 203, .ref 180, .type "tuple", .type "object"] := (looks_clsIn X cls_203).andThen .now
  have made : Looks (model PW w) h (Bind.madeBy (.ref 203)) none := Looks.of_peek X madeBy_203
  unfold Builtin.«type.__call__»
  have e0 : (Value.ref 203 == Value.type "type") = false := by decide
  simp only [e0, Bool.false_eq_true, if_false]
  with_reducible refine wpG_looks hm ?_
  simp only [List.isEmpty_cons, Bool.false_eq_true, if_false]
  with_reducible refine wpG_looks made ?_
  dsimp only
  with_reducible refine wpG_bind (wpAny.g (get_new X ?_))
  with_reducible refine wpG_bind (wpG_holding ?_)
  with_reducible refine wpG_call D ?_
  have hroom : A'.depth < recursionLimit := by have := A2.depth; show A'.depth < 1000; omega
  with_reducible refine codeG_call_function D (s := ⟨h, s₀.gens, s₀.drawn, k + 1, s₀.os⟩) (fd := newFd) (body := dBody (inCls 5 4)) hroom (k_130 X) rfl rfl rfl rfl (c_130 X) ?_
  have hh : A'.in1.handled = none := A2.handled
  with_reducible exact bind_one (s := ⟨h, s₀.gens, s₀.drawn, k + 1, s₀.os⟩) hP hh _ _ fun h' tk e hx => hE h' tk e hx
end
structure RunsG (P : Ctx → Prop) (w : World) (A : Around) {α : Type} (c : Sem α) (Q : α → Shared → Prop) (E : Value → Shared → Prop) (s : Shared) : Prop where
  go : wpG P (model PW w) A c Q E s
section
variable {P : Ctx → Prop} {w : World} {A : Around} {E : Value → Shared → Prop} {s : Shared} {env : Env}
theorem wpG_Call_star {id : Str} {p sp pos : Pos} {e : Expr} {Q : Value → Shared → Prop}
    (h : wpAny (model PW w) A (eval (.Name id p) env) (fun f s₁ => wpAny (model PW w) A (eval e env) (fun v s₂ => wpAny (model PW w) A (notIterableAtAll v) (fun b s₃ => b = false ∧ wpAny (model PW w) A (collect v) (fun vs s₄ =>
      wpAny (model PW w) A (keeperOf f) (fun _ s₅ => wpG P (model PW w) A (call f vs []) Q E s₅) E s₄) E s₃) E s₂) E s₁) E s) :
    wpG P (model PW w) A (eval (.Call (.Name id p) [.Starred e sp] [] pos) env) Q E s := by
  rw [arm_eval_Call_Name']
  refine wpG_bind (wpAny.g (wpAny_mono h (fun f s₁ q => ?_) fun _ _ e => e))
  show wpG P _ _ (callWith pos f [] [(true, do let v ← eval e env; standAt pos; pure v)] []) _ _ _
  unfold callWith
  refine wpG_bind (wpG_holding (wpAny.g ?_))
  unfold evalArgs
  dsimp only
  refine wpAny_bind (wpAny_bind (wpAny_mono q (fun v s₂ q => ?_) fun _ _ e => e))
  refine wpAny_bind (wpAny_standAt (wpAny_pure (wpAny_bind (wpAny_pure (wpAny_holding ?_)))))
  simp -iota only [List.all_nil, if_true]
  refine wpAny_bind (wpAny_pure ?_)
  refine wpAny_bind (wpAny_bind (wpAny_mono q (fun b s₃ q => ?_) fun _ _ e => e))
  obtain ⟨rfl, q⟩ := q
  simp -iota only [Bool.false_eq_true, if_false]
  refine wpAny_holding (wpAny_mono q (fun vs s₄ q => wpAny_pure ?_) fun _ _ e => e)
  refine wpG_standAt ?_
  simp -iota only [List.any_cons, List.any_nil, Bool.or_false, List.nil_append, List.filterMap_nil, List.zip_nil_left]
  refine wpG_bind (wpAny.g (wpAny_mono q (fun kp s₅ q => ?_) fun _ _ e => e))
  have tail : ∀ {t : Sem Value}, wpG P (model PW w) A t Q E s₅ → wpG P (model PW w) A (t >>= fun r => holding [r] point >>= fun _ => pure r) Q E s₅ :=
    fun ht => wpG_bind (wpG_mono ht (fun r s₂ hr => wpAny.g (wpAny_bind (wpAny_holding (wpAny_point (wpAny_pure hr))))) fun _ _ x => x)
  cases kp
  · exact tail (by unfold callMarked; exact wpG_keep q)
  all_goals exact tail (wpG_operate q)
end
section
variable {P : Ctx → Prop} {w : World} {A : Around} {E : Value → Shared → Prop} {s₀ : Shared} {B Hb : Heap} {m : Str → Option Value} {U : List (Addr × Cell)} {h : Heap} {k : Nat} {env : Env} {outer : List Env} {Pm : Params}
theorem map_not_iter {M : Addr} {f : Value} {T : Addr} {Q : Bool → Shared → Prop} (hM : h.get? M = some { cls := .type "map", data := .fields #[.ref T, f] }) (hQ : Q false (Sh s₀ h k)) : wpAny (model PW w) A (notIterableAtAll (.ref M)) Q E (Sh s₀ h k) := by
  unfold notIterableAtAll
  have hT : (Sh s₀ h k).TypeIs (.ref M) "map" := ⟨_, hM, rfl⟩
  exact wpAny_bind (wpAny_specialOf hT slot_map_iter.lookup (wpAny_pure hQ))
theorem keeper_203 {S : Setting} : peek (K0 Pm) S (keeperOf (.ref 203)) = some .machine := by kernel_rfl
theorem attr_of_type {n : String} {o : Expr} {name : Str} {v : Value} {pos : Pos} {Q : Value → Shared → Prop} (hstub : Manifest.isStub n = false) (e : findCls ([] : Frag) (.type n) (.type "type") name = some (.val v)) (hv : handedIn v = true)
    (ht : typeOf (.type n) = pure (.type "type"))
    (hx : wpAny (model PW w) A (eval o env) (fun ov s₁ => ∃ h₁ k₁, ov = .type n ∧ s₁ = Sh s₀ h₁ k₁ ∧ Q v (Sh s₀ h₁ (k₁ + 1))) E (Sh s₀ h k))
    (hbase : attributeBase o name env (eval o env) = eval o env := by rfl) (hlt : ∀ a r, letTemporaryGo o a r = pure () := by intro _ _; rfl) :
    wpAny (model PW w) A (eval (.Attribute o name pos) env) Q E (Sh s₀ h k) := by
  rw [arm_eval_Attribute, hbase]
  refine wpAny_bind (wpAny_mono hx (fun ov s₁ q => ?_) fun _ _ e => e)
  obtain ⟨h₁, k₁, rfl, rfl, q⟩ := q
  refine wpAny_bind (wpAny_standAt (wpAny_bind (wpAny_holding (get_of_type hstub e hv ht ?_))))
  rw [hlt]
  exact wpAny_bind (wpAny_pure (wpAny_pure q))
theorem stub_str : Manifest.isStub "str" = false := by kernel_rfl
theorem stub_tuple : Manifest.isStub "tuple" = false := by kernel_rfl
theorem ty_str : typeOf (.type "str") = pure (.type "type") := by kernel_rfl
theorem ty_tuple : typeOf (.type "tuple") = pure (.type "type") := by kernel_rfl
theorem new_body {Q : Flow → Shared → Prop} {x y : Value} (S : St B env.locals m [] h) (X : (K0 Pm).In B) (T : Top0 B) (hA : AOk 3 A) (ok : EOk env)
    (hv1 : m "_cls" = some (.ref 203)) (hv2 : m "name" = some x) (hv3 : m "value" = some y) (l1 : env.kindOf "_cls" = some .local) (l2 : env.kindOf "name" = some .local) (l3 : env.kindOf "value" = some .local) (g1 : env.kindOf "tuple" = some .globalImplicit)
    (hQ : ∀ h' k', Kp B h' → Q (.ret (.ref (h'.objs.size + 1))) (Sh s₀ ((h'.push emptyDict).push (pairO h'.objs.size x y)) k')) :
    Runs w A (execs (dBody (inCls 5 4)) env) Q E (Sh s₀ h k) := by
  refine ⟨?_⟩
  have hk := ok.kind
  have hs : sizeLine = 16777216 := sizeLine_eq
  refine wpAny_execs_cons (wpAny_Expr_any (c_str ?_) (interactive_no ok) (by rfl))
  refine wpAny_execs_cons (wpAny_Return_some ?_)
  refine call_of_type (n := "tuple") (id := "tuple.__new__") stub_tuple fc_tnew (by rfl) ty_tuple (nbl (T.keeps S.keep) ok g1 (by decide) ⟨_, _, rfl, rfl, arg2 (nm S hk l1 hv1 ?_)⟩)
  refine wpAny_Tuple_spliced (arg2 (nm S hk l2 hv2 (nm S hk l3 hv3 ⟨by show 2 ≤ sizeLine; omega, ?_⟩)))
  refine tuple_new (X.keeps (S.keep.trans (Kp.push _ _))) (Heap.get?_push_size _ rfl) fun h' K' => ?_
  exact hQ h' _ ((S.keep.trans (Kp.push _ _)).trans K')
end
section
variable {P : Ctx → Prop} {w : World} {A : Around} {E : Value → Shared → Prop} {s₀ : Shared} {B Hb : Heap} {m : Str → Option Value} {U : List (Addr × Cell)} {h : Heap} {k : Nat} {env : Env} {outer : List Env} {Pm : Params}
theorem codefd {a : Addr} {fd : FuncData} {body : List Stmt} {args : List Value} {binds : List (Str × Value)} {Q : Value → Shared → Prop} (hf : h.get? a = some (fnObj fd)) (hcd : h.CodeRec fd.code fd.qualname)
    (hn : h.NoLimit) (hroom : A.depth < 1000) (hbody : fd.body = .stmts body) (hgl : fd.globals = mainGlobals) (hbl : fd.builtins = builtinsNs)
    (hbind : bindArgs fd ⟨args, []⟩ = pure binds) (hcell : ∀ x ∈ fd.scope.names, x.2 ≠ .cell) (hloc : ∀ x ∈ binds, fd.scope.names.lookup x.1 = some .local)
    (hco : fd.scope.isCoroutine = false) (hgen : fd.scope.isGenerator = false) (hk : fd.scope.kind = .function)
    (hb : ∀ env h₁, env = callEnv fd h.objs.size a → EOk env → St h env.locals (fun x => binds.reverse.lookup x) [] h₁ →
      wpAny (model PW w) (A.deeper env) (execs body env) (retQ Q) (outE w A env E) (Sh s₀ h₁ (k + binds.length))) :
    codeAny (model PW w) A (.call (.ref a) ⟨args, []⟩) (fun r s' => match r with | .ok (.ret v) => Q v s' | .ok _ => False | .error e => E e s') (Sh s₀ h k) := by
  refine codeAny_call_def (fd := fd) (body := body) (binds := binds) (s := Sh s₀ h k) hroom hf rfl hn hcd hbody (BindsTo.of_eq hbind) hcell hloc (fun h₀ hns hkp => ?_) hco hgen hk
  exact hb _ h₀ rfl ⟨hk, hgl, hbl⟩ ⟨hns, hkp, get_none_of_ge (Nat.le_refl _), fun p hp => (nomatch hp), List.nodup_nil⟩
theorem pair_made {x y : Value} {Q : Value → Shared → Prop} (X : (K0 Pm).In h) (T : Top0 h) (hA : AOk 5 A)
    (hQ : ∀ h' k' a d, Kp h h' → h.get? a = none → h.get? d = none → h'.get? a = some (pairO d x y) → h'.get? d = some emptyDict → Q (.ref a) (Sh s₀ h' k')) :
    wpAny (model PW w) A (call (.ref 203) [x, y] []) Q E (Sh s₀ h k) := by
  refine pair_call X ?_
  have A2 : AOk 4 (A.under (.builtin "type.__call__" ⟨[.ref 203, x, y], []⟩)) := hA.creates
  refine codeAny_mono (codefd (Q := fun v s' => ∃ a d x' y' h' k', [x, y] = [x', y'] ∧ v = .ref a ∧ s' = Sh s₀ h' k' ∧ (K0 Pm).In h' ∧ h'.get? a = some (pairO d x' y') ∧ Q v s') (E := E) (k := k + 1) (s₀ := s₀) (k_130 X) (c_130 X) T.nolimit (by have := A2.depth; omega) rfl rfl rfl (bind_two (.ref 203) x y) (show ∀ x ∈ (dScope (inCls 5 4)).names, x.2 ≠ .cell from by decide) (PyProof.Rows.locs (by rfl)) rfl rfl rfl
    fun env h₁ he ok S => ?_) fun r s' q => ?_
  · obtain ⟨key⟩ := new_body (Pm := Pm) (E := outE w (A.under (.builtin "type.__call__" ⟨[.ref 203, x, y], []⟩)) env E) (Q := retQ fun v s' => ∃ a d x' y' h' k', [x, y] = [x', y'] ∧ v = .ref a ∧ s' = Sh s₀ h' k' ∧ (K0 Pm).In h' ∧ h'.get? a = some (pairO d x' y') ∧ Q v s') (w := w) (k := k + 1 + 3) (s₀ := s₀)
      (A := (A.under (.builtin "type.__call__" ⟨[.ref 203, x, y], []⟩)).deeper env) S X T A2.deeper ok (by rfl) (by rfl) (by rfl) (by subst he; rfl) (by subst he; rfl) (by subst he; rfl) (by subst he; rfl) fun h' k' K' => by
        have kd : Kp h' ((h'.push emptyDict).push (pairO h'.objs.size x y)) := (Kp.push _ _).trans (Kp.push _ _)
        have g1 : ((h'.push emptyDict).push (pairO h'.objs.size x y)).get? (h'.objs.size + 1) = some (pairO h'.objs.size x y) := by
          have := Heap.get?_push_size (h'.push emptyDict) (o := pairO h'.objs.size x y) rfl
          rwa [Heap.size_push] at this
        have g2 : ((h'.push emptyDict).push (pairO h'.objs.size x y)).get? h'.objs.size = some emptyDict := Kp.push _ _ _ _ (Heap.get?_push_size _ rfl)
        exact ⟨h'.objs.size + 1, h'.objs.size, x, y, _, k', rfl, rfl, rfl, X.keeps (K'.trans kd), g1,
          hQ _ k' _ _ (K'.trans kd) (K'.none (get_none_of_ge (Nat.le_succ _))) (K'.none (get_none_of_ge (Nat.le_refl _))) g1 g2⟩
    assumption
  · rcases r with e | (v | _ | _ | _) <;> exact q
end
section
variable {P : Ctx → Prop} {w : World} {A : Around} {E : Value → Shared → Prop} {s₀ : Shared} {B Hb : Heap} {m : Str → Option Value} {U : List (Addr × Cell)} {h : Heap} {k : Nat} {env : Env} {outer : List Env} {Pm : Params}
theorem parse_body (D : Deep P) {Q : Flow → Shared → Prop} {x : Str} {t : Tok} (hP : cutEq x = none → ∀ Γ, P Γ → Ctx.called Γ) (S : St B env.locals m [] h) (X : (K0 Pm).In B) (T : Top0 B) (hA : AOk 7 A) (Fl : Fly Hb A outer B) (ok : EOk env) (hf : env.frame = some env.locals)
    (hv1 : m "cls" = some (.ref 203)) (hv2 : m "text" = some (.str x t)) (hsz : x.length ≤ 1000) (l1 : env.kindOf "cls" = some .local) (l2 : env.kindOf "text" = some .local) (g1 : env.kindOf "map" = some .globalImplicit) (g2 : env.kindOf "str" = some .globalImplicit)
    (hQ : ∀ p, cutEq x = some p → ∀ h' k' a d t u, Kp B h' → B.get? a = none → B.get? d = none → h'.get? a = some (pairO d (.str (Txt.strip p.1) t) (.str (Txt.strip p.2) u)) → h'.get? d = some emptyDict → Q (.ret (.ref a)) (Sh s₀ h' k'))
    (hE : cutEq x = none → ∀ e h' k', Flew Hb outer B "TypeError" e h' → E (.ref e) (Sh s₀ h' k')) :
    RunsG P w (A.deeper env) (execs (dBody (inCls 6 0)) env) Q (outE w A env E) (Sh s₀ h k) := by
  refine ⟨?_⟩
  have hk := ok.kind
  have hs : sizeLine = 16777216 := sizeLine_eq
  have A6 : AOk 6 (A.deeper env) := hA.deeper
  have hh : (A.deeper env).handled = none := hA.handled
  refine wpG_execs_cons (wpG_Return_some (wpG_Call_star ?_))
  refine nm S hk l1 hv1 ?_
  refine callT (id := "map") (T.keeps S.keep) ok g1 (by decide) (arg2 ?_)
  refine attr_of_type (v := .builtin "str.strip") stub_str fc_strip (by rfl) ty_str (nbl (T.keeps S.keep) ok g2 (by decide) ⟨_, _, rfl, rfl, ?_⟩)
  refine smeth F.slot_str_split F.type_str_split (nm S hk l2 hv2 ⟨⟨_, _, rfl⟩, arg2 (c_str (c_int fun t2 => ?_))⟩)
  refine splitEq_s (by omega) fun o k₂ ho hfr hk₂ => ?_
  have S₁ := S.alloc o (c := its o) rfl hfr
  generalize hl : h.objs.size = l at S₁ ⊢
  generalize h.push o = h₁ at S₁ ⊢
  obtain ⟨o', e₁, c₁⟩ := S₁.get (a := l) (c := its o) (by simp)
  cases c₁
  obtain ⟨l', n, hl', rfl⟩ := ho
  have hL : h₁.IsList l (strValues l').toArray := ⟨_, e₁, rfl, n, rfl⟩
  refine call_map hL ?_
  have K1 : Kp h₁ (mapH h₁ l (.builtin "str.strip")) := ((Kp.push _ _).trans (Kp.push _ _)).trans (Kp.push _ _)
  have gM : (mapH h₁ l (.builtin "str.strip")).get? ((h₁.push (listIt l)).push (tupO [.ref h₁.objs.size])).objs.size = some { cls := .type "map", data := .fields #[.ref (h₁.push (listIt l)).objs.size, .builtin "str.strip"] } := Heap.get?_push_size _ rfl
  have gT : (mapH h₁ l (.builtin "str.strip")).get? (h₁.push (listIt l)).objs.size = some (tupO [.ref h₁.objs.size]) := Kp.push _ _ _ _ (Heap.get?_push_size _ rfl)
  have gI : (mapH h₁ l (.builtin "str.strip")).get? h₁.objs.size = some (listIt l) := Kp.push _ _ _ _ (Kp.push _ _ _ _ (Heap.get?_push_size _ rfl))
  have z1 : (h₁.push (listIt l)).objs.size = h₁.objs.size + 1 := Heap.size_push ..
  have z2 : ((h₁.push (listIt l)).push (tupO [.ref h₁.objs.size])).objs.size = h₁.objs.size + 1 + 1 := by rw [Heap.size_push, z1]
  have lI : l ≠ h₁.objs.size := Nat.ne_of_lt (Heap.lt_size e₁)
  have S₂ := S₁.take K1 (get_none_of_ge (Nat.le_refl _)) gI (c := its (listIt l)) rfl
  have hMI : ((h₁.push (listIt l)).push (tupO [.ref h₁.objs.size])).objs.size ≠ h₁.objs.size := by rw [z2]; omega
  have hTI : (h₁.push (listIt l)).objs.size ≠ h₁.objs.size := by rw [z1]; omega
  generalize mapH h₁ l (.builtin "str.strip") = h₂ at K1 gM gT gI S₂ ⊢
  have st : MapSt ((h₁.push (listIt l)).push (tupO [.ref h₁.objs.size])).objs.size (h₁.push (listIt l)).objs.size h₁.objs.size l l' 0 h₂ := ⟨gM, gT, ⟨_, gI, rfl, rfl⟩, ⟨_, K1 _ _ e₁, rfl, n, rfl⟩⟩
  refine map_not_iter gM ⟨rfl, ?_⟩
  have hlen : (splitEq x).length ≤ 2 := by unfold splitEq; split <;> simp
  have hlen2 : l'.length ≤ 2 := by rw [← hl', List.length_map] at hlen; exact hlen
  have hpl : ∀ p ∈ splitEq x, p.length ≤ 1000 := by
    intro p hp
    unfold splitEq at hp
    split at hp
    · rename_i q hq
      unfold cutEq at hq
      split at hq
      · cases hq
        simp only [List.mem_cons, List.not_mem_nil, or_false] at hp
        rcases hp with rfl | rfl <;> exact Nat.le_trans (strSub_length_le ..) hsz
      · cases hq
    · simp only [List.mem_singleton] at hp; subst hp; exact hsz
  refine collect_map hh hMI hTI lI (fun p hp => ?_) (by omega) st fun l₃ h₃ k₃ hl₃ K₃ => ?_
  · have := hpl p.1 (by rw [← hl']; exact List.mem_map_of_mem hp); omega
  have S₃ : St B env.locals m [(l, its { cls := .type "list", data := .seq (strValues l').toArray n })] h₃ := St.other (U₁ := []) S₂ fun b o hb e => K₃ b o hb e
  refine (Looks.of_peek (X.keeps S₃.keep) keeper_203).at ?_
  rw [hl'] at hl₃
  cases hc : cutEq x with
  | none =>
    have e1 : l₃.map (·.1) = [Txt.strip x] := by rw [hl₃]; unfold splitEq; rw [hc]; rfl
    obtain ⟨q, r, rfl, e2, e3⟩ := List.map_eq_cons_iff.mp e1
    simp only [List.map_eq_nil_iff] at e3
    subst e3
    refine pair_refused D (hP hc) (X.keeps S₃.keep) (A6.le (by omega)) fun h₄ k₄ e hx => ?_
    exact flyOut Fl hk hf S₃.drop hx fun h₅ hfl => hE hc e h₅ k₄ hfl
  | some p =>
    have e1 : l₃.map (·.1) = [Txt.strip p.1, Txt.strip p.2] := by rw [hl₃]; unfold splitEq; rw [hc]; rfl
    obtain ⟨q, r, rfl, e2, e3⟩ := List.map_eq_cons_iff.mp e1
    obtain ⟨q', r', rfl, e4, e5⟩ := List.map_eq_cons_iff.mp e3
    simp only [List.map_eq_nil_iff] at e5
    subst e5
    refine wpAny.g (pair_made (X.keeps S₃.keep) (T.keeps S₃.keep) (A6.le (by omega)) fun h₄ k₄ a d K₄ na nd ga gd => ?_)
    dsimp only at ga
    rw [e2, e4] at ga
    exact hQ p hc h₄ k₄ a d _ _ (S₃.keep.trans K₄) (S₃.keep.none na) (S₃.keep.none nd) ga gd
theorem codefdG (D : Deep P) {a : Addr} {fd : FuncData} {body : List Stmt} {args : List Value} {binds : List (Str × Value)} {Q : Value → Shared → Prop} (hf : h.get? a = some (fnObj fd)) (hcd : h.CodeRec fd.code fd.qualname)
    (hn : h.NoLimit) (hroom : A.depth < 1000) (hbody : fd.body = .stmts body) (hgl : fd.globals = mainGlobals) (hbl : fd.builtins = builtinsNs)
    (hbind : bindArgs fd ⟨args, []⟩ = pure binds) (hcell : ∀ x ∈ fd.scope.names, x.2 ≠ .cell) (hloc : ∀ x ∈ binds, fd.scope.names.lookup x.1 = some .local)
    (hco : fd.scope.isCoroutine = false) (hgen : fd.scope.isGenerator = false) (hk : fd.scope.kind = .function)
    (hb : ∀ env h₁, env = callEnv fd h.objs.size a → EOk env → St h env.locals (fun x => binds.reverse.lookup x) [] h₁ →
      wpG P (model PW w) (A.deeper env) (execs body env) (retQ Q) (outE w A env E) (Sh s₀ h₁ (k + binds.length))) :
    codeG P (model PW w) A (.call (.ref a) ⟨args, []⟩) (fun r s' => match r with | .ok (.ret v) => Q v s' | .ok _ => False | .error e => E e s') (Sh s₀ h k) := by
  refine codeG_call_def D (fd := fd) (body := body) (binds := binds) (s := Sh s₀ h k) hroom hf rfl hn hcd hbody hbind hcell hloc (fun h₀ hns hkp => ?_) hco hgen hk
  exact hb _ h₀ rfl ⟨hk, hgl, hbl⟩ ⟨hns, hkp, get_none_of_ge (Nat.le_refl _), fun p hp => (nomatch hp), List.nodup_nil⟩
theorem parse_call (D : Deep P) {Q : Value → Shared → Prop} {x : Str} {t : Tok} {q : Addr} (hP : cutEq x = none → ∀ Γ, P Γ → Ctx.called Γ) (X : (K0 Pm).In h) (T : Top0 h) (hA : AOk 8 A) (Fl : Fly Hb A outer h) (hsz : x.length ≤ 1000) (hq : h.get? q = some (methodObj (.ref 197) (.ref 203)))
    (hQ : ∀ p, cutEq x = some p → ∀ h' k' a d t u, Kp h h' → h.get? a = none → h.get? d = none → h'.get? a = some (pairO d (.str (Txt.strip p.1) t) (.str (Txt.strip p.2) u)) → h'.get? d = some emptyDict → Q (.ref a) (Sh s₀ h' k'))
    (hE : cutEq x = none → ∀ e h' k', Flew Hb outer h "TypeError" e h' → E (.ref e) (Sh s₀ h' k')) :
    wpG P (model PW w) A (call (.ref q) [.str x t] []) Q E (Sh s₀ h k) := by
  refine wpG_call D (codeG_of_tree D (wpAny.g ?_))
  show wpAny _ _ (callAny (.ref q) _) _ _ _
  refine nd_load hq (wpAny_pure (a := Fin.again (.call (.ref 197) ⟨[.ref 203, .str x t], []⟩)) ⟨rfl, ?_⟩)
  refine codefdG D (fd := parseFd) (body := dBody (inCls 6 0)) (binds := [("cls", .ref 203), ("text", .str x t)]) (k_197 X) (c_197 X) T.nolimit (by have := hA.depth; omega) rfl rfl rfl (by with_unfolding_all rfl) (show ∀ x ∈ (dScope (inCls 6 0)).names, x.2 ≠ .cell from by decide) (PyProof.Rows.locs (by rfl)) rfl rfl rfl
      fun env h₁ he ok S => ?_
  obtain ⟨key⟩ := parse_body (Q := retQ Q) (E := E) (s₀ := s₀) (w := w) (k := k + 2) (A := A) D hP S X T (hA.le (by omega)) Fl ok (by subst he; rfl) (by rfl) (by rfl) hsz (by subst he; rfl) (by subst he; rfl) (by subst he; rfl) (by subst he; rfl) hQ hE
  assumption
end
section
variable {P : Ctx → Prop} {w : World} {A : Around} {E : Value → Shared → Prop} {s₀ : Shared} {B Hb : Heap} {m : Str → Option Value} {U : List (Addr × Cell)} {h : Heap} {k : Nat} {env : Env} {outer : List Env} {Pm : Params}
theorem keeper_method {q f self : Addr} {fd : FuncData} (hq : h.get? q = some (methodObj (.ref f) (.ref self))) (hf : h.get? f = some (fnObj fd)) : Looks (model PW w) h (keeperOf (.ref q)) .boundFrame :=
  (Looks.ld (part := none) hq).andThen ((Looks.ld (part := none) hf).andThen .now)
theorem wpG_Call_parse {o e : Expr} {apos pos : Pos} {Q : Value → Shared → Prop}
    (hx : wpAny (model PW w) A (eval o env) (fun ov s₁ => ∃ h₁ k₁, ov = .ref 203 ∧ s₁ = Sh s₀ h₁ k₁ ∧ (K0 Pm).In h₁ ∧
      wpAny (model PW w) A (spliced (backTo pos (starEach [e] env))) (fun vs s₂ => ∃ h₂ k₂, s₂ = Sh s₀ h₂ k₂ ∧ (K0 Pm).In h₂ ∧ h₂.get? h₁.objs.size = some (methodObj (.ref 197) (.ref 203)) ∧ wpG P (model PW w) A (call (.ref h₁.objs.size) vs []) Q E (Sh s₀ h₂ k₂)) E (Sh s₀ (h₁.push (methodObj (.ref 197) (.ref 203))) (k₁ + 1))) E (Sh s₀ h k))
    (hbase : attributeBase o "parse" env (eval o env) = eval o env := by rfl)
    (hfew : ((backTo pos (starEach [e] env)).all (fun x => !x.1) && (backToKw pos (keywordEach [] env)).all (fun x => x.1.isSome)
      && decide ([e].length + ([] : List Keyword).length + (if ([] : List Keyword).isEmpty then 0 else 1) < 30)) = true := by rfl)
    (hline : (apos.endLine == pos.line) = true := by rfl) (he : starEach [e] env = [(false, eval e env)] := by rfl) :
    wpG P (model PW w) A (eval (.Call (.Attribute o "parse" apos) [e] [] pos) env) Q E (Sh s₀ h k) := by
  rw [arm_eval_Call, hbase]
  refine wpG_bind (wpAny.g (wpAny_mono hx (fun ov s₁ q => ?_) fun _ _ e => e))
  obtain ⟨h₁, k₁, rfl, rfl, X, q⟩ := q
  refine wpG_standAt ?_
  have hform : methodCallForm ([e].length + ([] : List Keyword).length) (backTo pos (starEach [e] env)) (backToKw pos (keywordEach [] env)) = true := hfew
  have hpos : methodCallPos true o env apos pos = pure pos := by unfold methodCallPos; simp [hline]
  unfold methodCall
  rw [hform]
  refine wpG_bind (wpG_holding (wpAny.g (parse_method X ?_)))
  refine wpG_bind (wpAny.g (wpAny_of_eq hpos ?_))
  rw [he] at q ⊢
  unfold callWith
  refine wpG_bind (wpG_holding (wpAny.g (evalArgs_plain (wpAny_mono q (fun vs s₂ q => ?_) fun _ _ e => e))))
  obtain ⟨h₂, k₂, rfl, X₂, hq, q⟩ := q
  refine wpG_standAt ?_
  have tail : ∀ {t : Sem Value}, wpG P (model PW w) A t Q E (Sh s₀ h₂ k₂) → wpG P (model PW w) A (t >>= fun r => holding [r] point >>= fun _ => pure r) Q E (Sh s₀ h₂ k₂) :=
    fun ht => wpG_bind (wpG_mono ht (fun r s₂ hr => wpAny.g (wpAny_bind (wpAny_holding (wpAny_point (wpAny_pure hr))))) fun _ _ x => x)
  with_reducible refine wpG_looks (keeper_method hq (k_197 X₂)) ?_
  exact tail (by unfold callMarked; exact wpG_keep q)
end
structure Top1 (Pm : Params) (h : Heap) : Prop where
  top : Top0 h
  K : (K0 Pm).In h
  bm : ∃ mg, h.Ns mainGlobals mg ∧ h.BuiltinsAt mg 100 ∧ h.BuiltinsAt mg 235
theorem Top1.keeps {Pm : Params} {h h' : Heap} (T : Top1 Pm h) (k : Kp h h') : Top1 Pm h' where
  top := T.top.keeps k
  K := T.K.keeps k
  bm := by
    obtain ⟨mg, a, ⟨bm, o, b1, b2, b3, b4, b5, b6⟩, ⟨bm', o', c1, c2, c3, c4, c5, c6⟩⟩ := T.bm
    exact ⟨mg, a.keeps k, ⟨bm, o, b1, b2, b3, b4, k _ _ b5, b6⟩, ⟨bm', o', c1, c2, c3, c4, k _ _ c5, c6⟩⟩
noncomputable def tabC (pos : Pos) (x : Option Addr) : Cell := its (tabObj (match x with | none => #[] | some c => #[rawInt pos.line, rawInt pos.col, .ref c]))
noncomputable def TabR (B : Heap) (qual : Str) : Option Addr → Prop
  | none => True
  | some c => B.CodeRec (.ref c) qual
theorem TabR.keeps {B B' : Heap} {qual : Str} {x : Option Addr} (t : TabR B qual x) (k : Kp B B') : TabR B' qual x := by
  cases x with
  | none => trivial
  | some c => exact Heap.CodeRec.keeps t k
section
variable {B : Heap} {L : Addr} {m : Str → Option Value} {U U₁ U₂ : List (Addr × Cell)} {h h' : Heap}
theorem St.add (S : St B L m U h) {a : Addr} {c : Cell} {o : Obj} (ho : h.get? a = some o) (hc : c o) (n1 : a ≠ L) (n2 : B.get? a = none) (n3 : a ∉ U.map (·.1)) : St B L m ((a, c) :: U) h := by
  refine ⟨S.ns, S.keep, S.nl, fun p hp => ?_, List.nodup_cons.mpr ⟨n3, S.nd⟩⟩
  rcases List.mem_cons.mp hp with rfl | hp
  · exact ⟨⟨o, ho, hc⟩, n1, n2⟩
  · exact S.own p hp
end
section
variable {w : World} {A : Around} {E : Value → Shared → Prop} {s₀ : Shared} {B : Heap} {L : Addr} {m : Str → Option Value} {U U₁ U₂ : List (Addr × Cell)} {h : Heap} {k : Nat} {env : Env} {Pm : Params}
theorem makeDef {name qual : Str} {params : Arguments} {body : List Stmt} {scope : Scope} {pos : Pos} {line : Nat} {clos : List (Str × Addr)} {c P : Addr} {x : Option Addr} {mg : Str → Option Value} {Q : Value → Shared → Prop}
    (S : St B L m (U₁ ++ (P, tabC pos x) :: U₂) h) (hx : TabR B qual x) (hcl : closureFor scope env = pure clos) (hge : env.globals = mainGlobals) (hcode : env.code = .ref c) (hmg : B.Ns mainGlobals mg) (hb : B.BuiltinsAt mg P) (hC : CodeHd B c P)
    (hQ : ∀ B' h' k' f c' doc ctv, h.get? f = none → (x = some c' ∨ h.get? c' = none) → Kp B B' → TabR B' qual (some c') → B'.get? f = some (fnMade name qual params body scope clos doc ((mg "__name__").getD .none) c' ctv) → St B' L m (U₁ ++ (P, tabC pos (some c')) :: U₂) h' → Q (.ref f) (Sh s₀ h' k')) :
    wpAny (model PW w) A (makeFunction name qual params (.stmts body) scope env [] [] [] pos line) Q E (Sh s₀ h k) := by
  obtain ⟨oP, eP, cP⟩ := S.get (a := P) (c := tabC pos x) (by simp)
  have nP := (S.own (P, tabC pos x) (by simp)).2.2
  have hgP : mainGlobals ≠ P := fun q => by
    obtain ⟨o, es, ep, e, hd, _⟩ := hmg
    rw [q, nP] at e; cases e
  have hg : h.Ns mainGlobals mg := hmg.keeps S.keep
  have hb' : h.BuiltinsAt mg P := by
    obtain ⟨bm, o, b1, b2, b3, b4, b5, b6⟩ := hb
    exact ⟨bm, o, b1, b2, b3, b4, S.keep _ _ b5, b6⟩
  have hC' : CodeHd h c P := hC.keeps S.keep
  cases cP
  cases x with
  | none =>
    refine makeFunction_K (s := Sh s₀ h k) hcl hge hg hcode hC' eP trivial rfl hgP hb' fun c' ctv doc h₁ tk hxb hge1 hlt hrec htb => ?_
    have S₁ : St B L m (U₁ ++ (P, tabC pos (some c')) :: U₂) h₁ := S.upd hxb htb rfl
    obtain ⟨c₂, oc, vs, t, e2, hoc, hd, hv⟩ := hrec
    cases e2
    have hnc : h.get? c' = none := get_none_of_ge hge1
    obtain ⟨n1, n2, n3⟩ := S.notIn hnc
    have S₂ := S₁.add (c := its oc) hoc rfl n1 n2 (by rw [List.map_append, List.map_cons] at n3 ⊢; exact n3)
    obtain ⟨B₃, oc', kB, e3, rfl, S₃⟩ := S₂.give0
    have S₄ := S₃.alloc (fnMade name qual params body scope clos doc ((mg "__name__").getD .none) c' ctv) (c := its _) rfl
    obtain ⟨B₅, of, kB', e5, rfl, S₅⟩ := S₄.give0
    exact hQ B₅ _ tk h₁.objs.size c' doc ctv (get_none_of_ge (Nat.le_of_lt (Nat.lt_of_le_of_lt hge1 hlt))) (.inr hnc) (kB.trans kB') ⟨c', oc', vs, t, rfl, kB' _ _ e3, hd, hv⟩ e5 S₅
  | some c' =>
    refine makeFunction_hit (s := Sh s₀ h k) (cv := .ref c') hcl hge hg hcode hC' eP (by simp [rawInt, TriplesOk]) (by simp [rawInt, codeAmong]) hb' fun ctv doc h₁ tk hk hsz => ?_
    have S₁ := S.mono hk
    have S₄ := S₁.alloc (fnMade name qual params body scope clos doc ((mg "__name__").getD .none) c' ctv) (c := its _) rfl
    obtain ⟨B₅, of, kB', e5, rfl, S₅⟩ := S₄.give0
    exact hQ B₅ _ tk h₁.objs.size c' doc ctv (get_none_of_ge hsz) (.inl rfl) kB' (TabR.keeps (x := some c') hx kB') e5 S₅
end
end Mine
end
section
open PySem PySem.W PySem.Calls
open PyProof.Rows Builtin Builtin.ObjectAttr
namespace Mine
theorem refuse_108 (self : Value) : refuseLoop self "__setattr__" [.ref 108, .type "collections.defaultdict", .type "dict", .type "object"] = pure () := by
  rw [refuseLoop_ref]
  kernel_rfl
section
variable {w : World} {A : Around} {E : Value → Shared → Prop} {s₀ : Shared} {B : Heap} {L : Addr} {m : Str → Option Value} {U U₁ U₂ : List (Addr × Cell)} {h : Heap} {k : Nat} {env : Env} {Pm : Params}
theorem cls_108 : clsIn (K0 Pm) 108 = some { name := Str.ofString "FreezableDefaultDict", bases := [.type "collections.defaultdict"], mro := [.ref 108, .type "collections.defaultdict", .type "dict", .type "object"], ns := 107, qualname := Str.ofString "FreezableDefaultDict", hasDict := true, slotNames := [Str.ofString ""], subclasses := [], abstract := false, collection := none, hasDel := false } := by kernel_rfl
theorem taker_frozen : takerIn (K0 Pm) 108 "_frozen" = some none := by kernel_rfl
theorem find_setattr : findIn (K0 Pm) (.ref 108) "__setattr__" = some (some (.builtin "object.__setattr__")) := by kernel_rfl
theorem find_frozen : findIn (K0 Pm) (.ref 108) "_frozen" = some none := by kernel_rfl
theorem osa_108 {R : Result → Shared → Prop} {x dx : Addr} {ox : Obj} {es : List DictEntry} {n : Nat} {v : Value} {tk : Tok} (S : St B L m (U₁ ++ (dx, its (dictOf es n)) :: U₂) h) (X : (K0 Pm).In h) (hx : h.get? x = some ox) (hc : ox.cls = .ref 108) (hno : notCls ox = true) (hd : ox.dict = some dx)
    (hl : (getL "_frozen" es).isSome = true) (hz : es.length ≤ 10)
    (hQ : ∀ h', St B L m (U₁ ++ (dx, its (dictOf (putL "_frozen" (PyData.keyHash w.params "_frozen") (.str "_frozen" k) v es) (putN "_frozen" es n))) :: U₂) h' → Heap.ExtBut dx h h' → R (.ok (.ret .none)) (Sh s₀ h' (k + 1))) :
    codeAny (model PW w) A (.call (.builtin "object.__setattr__") ⟨[.ref x, .str "_frozen" tk, v], []⟩) R (Sh s₀ h k) := by
  have SF := PySem.F.store_object
  obtain ⟨oD, D, cD⟩ := S.get (a := dx) (c := its (dictOf es n)) (by simp)
  cases cD
  have I : InstAt h x ox 108 (some (dictOf es n)) := ⟨hx, hc, hno, by rw [hd]; exact D⟩
  have sub : Looks (model PW w) h (isInstance (.ref x) (.type "object")) true := I.type.andThen (looks_mroIn X (by unfold mroIn; rw [cls_108]; rfl))
  refine codeAny_call_builtin SF.slot.plain SF.entry (@check_slot (model PW w) _ _ (Sh s₀ h k) "object.__setattr__" "object" "__setattr__" (.ref x) [.str "_frozen" tk, v] [] _ SF.kind SF.split sub (SF.args (.ref x) (.str "_frozen" tk) v) ?_)
  have hm : Looks (model PW w) h (mroOf (.ref 108)) [.ref 108, .type "collections.defaultdict", .type "dict", .type "object"] := (looks_clsIn X cls_108).andThen .now
  rw [osa_eq, refuse_eq]
  refine wpAny_bind (wpAny_bind (I.type.at (wpAny_bind (hm.at ?_))))
  rw [refuse_108]
  refine wpAny_pure (wpAny_bind (I.type.at (wpAny_bind ((looks_findIn X find_frozen).at (wpAny_bind (Looks.at (t := storeTaker? none) (r := none) .now ?_))))))
  obtain ⟨oc, odi, oda, osl⟩ := ox
  dsimp only at hc hd
  subst hc hd
  refine wpAny_bind (wpAny_pure (wpAny_bind (wpAny_bind (wpAny_loadPart hx (wpAny_bind ((looks_clsIn X cls_108).at ?_))))))
  refine wpAny_pure (a := some dx) (wpAny_bind (wpAny_pure (wpAny_bind ?_)))
  unfold nsSet
  refine wpAny_bind (wpAny_bind (wpAny_askSetting (wpAny_pure (wpAny_bind (wpAny_mkText (wpAny_bind (wpAny_loadPart D ?_)))))))
  dsimp only
  have c : (!es.any (·.key.isStr "_frozen") && es.any (·.refKey)) = false := by
    unfold getL at hl
    split at hl
    · rename_i en he
      rw [List.any_eq_true.mpr ⟨en, List.mem_of_find?_eq_some he, List.find?_some he⟩]; rfl
    · split at hl
      · cases hl
      · rename_i z; rw [Bool.not_eq_true] at z; rw [z, Bool.and_false]
  have c' : (!es.toArray.any (·.key.isStr "_frozen") && es.toArray.any (·.refKey)) = false := by rw [← Array.any_toList, ← Array.any_toList]; exact c
  rw [aRefKeyMayBeTheName_at, c']
  refine wpAny_updatePart D ?_
  have e := putName_dict "_frozen" (PyData.keyHash w.params "_frozen") (.str "_frozen" k) v es n
  have lz : ∀ es : List DictEntry, (putL "_frozen" (PyData.keyHash w.params "_frozen") (.str "_frozen" k) v es).length ≤ es.length + 1 := by
    intro es
    induction es with
    | nil => exact Nat.le_refl _
    | cons a r ih => unfold putL; split <;> simp at ih ⊢; omega
  have lz := lz es
  have D' := Heap.get?_update_self (h := h) (a := dx) (o := dictOf es n) (Obj.putName "_frozen" (PyData.keyHash w.params "_frozen") (.str "_frozen" k) v) D (by rw [e]; rfl)
  rw [e] at D'
  refine wpAny_bind (wpAny_lookBehind D' (pastItsLine_dict (by rw [List.size_toArray, sizeLine_eq]; omega)) ?_)
  have xb : Heap.ExtBut dx h (h.update dx (Obj.putName "_frozen" (PyData.keyHash w.params "_frozen") (.str "_frozen" k) v)) := (Heap.SameBut.update ..).extBut
  exact wpAny_pure (hQ _ (S.upd xb D' rfl) xb)
theorem set_frozen {Q : Unit → Shared → Prop} {x dx : Addr} {ox : Obj} {es : List DictEntry} {n : Nat} {v : Value} (S : St B L m (U₁ ++ (dx, its (dictOf es n)) :: U₂) h) (X : (K0 Pm).In h) (hx : h.get? x = some ox) (hc : ox.cls = .ref 108) (hno : notCls ox = true) (hd : ox.dict = some dx)
    (hl : (getL "_frozen" es).isSome = true) (hz : es.length ≤ 10)
    (hQ : ∀ h' k', St B L m (U₁ ++ (dx, its (dictOf (putL "_frozen" (PyData.keyHash w.params "_frozen") (.str "_frozen" (k + 1)) v es) (putN "_frozen" es n))) :: U₂) h' → Heap.ExtBut dx h h' → Q () (Sh s₀ h' k')) :
    wpAny (model PW w) A (setAttr (.ref x) "_frozen" v) Q E (Sh s₀ h k) := by
  obtain ⟨oD, D, cD⟩ := S.get (a := dx) (c := its (dictOf es n)) (by simp)
  cases cD
  have I : InstAt h x ox 108 (some (dictOf es n)) := ⟨hx, hc, hno, by rw [hd]; exact D⟩
  exact set_plain (s := Sh s₀ h k) X I find_setattr (osa_108 (k := k + 1) S X hx hc hno hd hl hz fun h' S' xb => hQ h' _ S' xb)
end
end Mine
end
section
open PySem PySem.W PySem.Calls
open Sem (wp)
namespace Mine
noncomputable def lamOf : Stmt → Expr | .Assign _ v _ => v | _ => .Constant .none 0 default
noncomputable def lArgs : Expr → Arguments | .Lambda a _ _ _ => a | _ => ⟨[], [], none, [], [], none, []⟩
noncomputable def lBody : Expr → Expr | .Lambda _ b _ _ => b | e => e
noncomputable def lScope : Expr → Scope | .Lambda _ _ s _ => s | _ => default
noncomputable def lPos : Expr → Pos | .Lambda _ _ _ p => p | _ => default
noncomputable def lamE : Expr := lamOf (((dBody (inCls 4 2))[0]?).getD (.Pass default))
noncomputable def lamQ : Str := Str.ofString "FreezableDefaultDict.freeze.<locals>." ++ Str.ofString "<lambda>"
noncomputable def lamObj (cs : Addr) (pm : Value) (c' : Addr) (ctv : Value) : Obj := kla_obj "<lambda>" lamQ (lArgs lamE) (lBody lamE) (lScope lamE) [("self", cs)] pm c' ctv
noncomputable def frzL (P : Params) : Option (Tok × Addr) → List DictEntry
  | none => []
  | some (t, f) => [⟨PyData.keyHash P "_frozen", .str "_frozen" t, .ref f⟩]
noncomputable def frzC (P : Params) (x : Option (Tok × Addr)) : Cell := fun o => ∃ n, o = dictOf (frzL P x) n
theorem frz_put (P : Params) (x : Option (Tok × Addr)) (t : Tok) (f : Addr) : ∃ t', putL "_frozen" (PyData.keyHash P "_frozen") (.str "_frozen" t) (.ref f) (frzL P x) = frzL P (some (t', f)) := by
  cases x with
  | none => exact ⟨t, rfl⟩
  | some p => obtain ⟨t', g⟩ := p; exact ⟨t', by unfold frzL putL; rw [if_pos (by simp [Value.isStr])]⟩
theorem frz_get (P : Params) (x : Option (Tok × Addr)) : getL "_frozen" (frzL P x) = some (x.map fun p => .ref p.2) := by
  cases x with
  | none => rfl
  | some p => obtain ⟨t', g⟩ := p; simp [frzL, getL, Value.isStr]
theorem frz_len (P : Params) (x : Option (Tok × Addr)) : (frzL P x).length ≤ 1 := by cases x <;> simp [frzL]
section
variable {w : World} {A : Around} {E : Value → Shared → Prop} {s₀ : Shared} {B : Heap} {L : Addr} {m : Str → Option Value} {U U₁ U₂ : List (Addr × Cell)} {h : Heap} {k : Nat} {env : Env} {Pm : Params}
theorem St.recell {a : Addr} {c c' : Cell} {o : Obj} (S : St B L m (U₁ ++ (a, c) :: U₂) h) (e : h.get? a = some o) (hc : c' o) : St B L m (U₁ ++ (a, c') :: U₂) h := S.upd (h' := h) (fun _ _ _ e => e) e hc
theorem makeLam {qual : Str} {params : Arguments} {body : Expr} {scope : Scope} {pos : Pos} {line : Nat} {clos : List (Str × Addr)} {c P : Addr} {x : Option Addr} {mg : Str → Option Value} {Q : Value → Shared → Prop}
    (S : St B L m (U₁ ++ (P, tabC pos x) :: U₂) h) (hx : TabR B qual x) (hcl : closureFor scope env = pure clos) (hge : env.globals = mainGlobals) (hcode : env.code = .ref c) (hmg : B.Ns mainGlobals mg) (hb : B.BuiltinsAt mg P) (hC : CodeHd B c P)
    (hQ : ∀ B' h' k' f c' ctv, h.get? f = none → (x = some c' ∨ h.get? c' = none) → Kp B B' → TabR B' qual (some c') → B'.get? f = some (kla_obj "<lambda>" qual params body scope clos ((mg "__name__").getD .none) c' ctv) → St B' L m (U₁ ++ (P, tabC pos (some c')) :: U₂) h' → Q (.ref f) (Sh s₀ h' k')) :
    wpAny (model PW w) A (makeFunction "<lambda>" qual params (.expr body) scope env [] [] [] pos line) Q E (Sh s₀ h k) := by
  obtain ⟨oP, eP, cP⟩ := S.get (a := P) (c := tabC pos x) (by simp)
  have nP := (S.own (P, tabC pos x) (by simp)).2.2
  have hgP : mainGlobals ≠ P := fun q => by
    obtain ⟨o, es, ep, e, hd, _⟩ := hmg
    rw [q, nP] at e; cases e
  have hg : h.Ns mainGlobals mg := hmg.keeps S.keep
  have hb' : h.BuiltinsAt mg P := by
    obtain ⟨bm, o, b1, b2, b3, b4, b5, b6⟩ := hb
    exact ⟨bm, o, b1, b2, b3, b4, S.keep _ _ b5, b6⟩
  have hC' : CodeHd h c P := hC.keeps S.keep
  rw [makeFunction_eq]
  simp only [List.zip_nil_right, List.filterMap_nil, List.isEmpty_nil, if_true, pure_bind]
  cases cP
  cases x with
  | none =>
    refine kla_makeTail (s := Sh s₀ h k) hcl hge hg hcode hC' eP trivial rfl hgP hb' fun c' ctv h₁ tk hxb hge1 hlt hrec htb => ?_
    have S₁ : St B L m (U₁ ++ (P, tabC pos (some c')) :: U₂) h₁ := S.upd hxb htb rfl
    obtain ⟨c₂, oc, vs, t, e2, hoc, hd, hv⟩ := hrec
    cases e2
    have hnc : h.get? c' = none := get_none_of_ge hge1
    obtain ⟨n1, n2, n3⟩ := S.notIn hnc
    have S₂ := S₁.add (c := its oc) hoc rfl n1 n2 (by rw [List.map_append, List.map_cons] at n3 ⊢; exact n3)
    obtain ⟨B₃, oc', kB, e3, rfl, S₃⟩ := S₂.give0
    have S₄ := S₃.alloc (kla_obj "<lambda>" qual params body scope clos ((mg "__name__").getD .none) c' ctv) (c := its _) rfl
    obtain ⟨B₅, of, kB', e5, rfl, S₅⟩ := S₄.give0
    exact hQ B₅ _ tk h₁.objs.size c' ctv (get_none_of_ge (Nat.le_of_lt (Nat.lt_of_le_of_lt hge1 hlt))) (.inr hnc) (kB.trans kB') ⟨c', oc', vs, t, rfl, kB' _ _ e3, hd, hv⟩ e5 S₅
  | some c' =>
    refine kla_makeTailHit (s := Sh s₀ h k) (cv := .ref c') hcl hge hg hcode hC' eP (by simp [rawInt, TriplesOk]) (by simp [rawInt, codeAmong]) hb' fun ctv h₁ tk hk hsz => ?_
    have S₁ := S.mono hk
    have S₄ := S₁.alloc (kla_obj "<lambda>" qual params body scope clos ((mg "__name__").getD .none) c' ctv) (c := its _) rfl
    obtain ⟨B₅, of, kB', e5, rfl, S₅⟩ := S₄.give0
    exact hQ B₅ _ tk h₁.objs.size c' ctv (get_none_of_ge hsz) (.inl rfl) kB' (TabR.keeps (x := some c') hx kB') e5 S₅
theorem hd_104 : codeHdIn (K0 Pm) 104 100 = true := by kernel_rfl
theorem hd_237 : codeHdIn (K0 Pm) 237 235 = true := by kernel_rfl
theorem freeze_body {Q : Flow → Shared → Prop} {cs x dx : Addr} {ox : Obj} {t : Option Addr} {fr : Option (Tok × Addr)} (S : St B env.locals m ((cs, cellC (some (.ref x))) :: (100, tabC (lPos lamE) t) :: (dx, frzC w.params fr) :: (x, its ox) :: U) h) (T : Top1 Pm B) (ok : EOk env) (ht : TabR B lamQ t)
    (hcs : env.cells = [(("self" : Str), cs)]) (hqual : env.qual ++ "<lambda>" = lamQ) (hcode : env.code = .ref 104) (hc : ox.cls = .ref 108) (hno : notCls ox = true) (hd : ox.dict = some dx)
    (l1 : env.kindOf "self" = some .cell)
    (hcl : closureFor (lScope lamE) env = pure [(("self" : Str), cs)])
    (hQ : ∀ B' h' k' f c' pm ctv fr' m', h.get? f = none → (t = some c' ∨ h.get? c' = none) → Kp B B' → TabR B' lamQ (some c') → B'.get? f = some (lamObj cs pm c' ctv) → fr'.map (·.2) = some f → St B' env.locals m' ((cs, cellC (some (.ref x))) :: (100, tabC (lPos lamE) (some c')) :: (dx, frzC w.params fr') :: (x, its ox) :: U) h' → Q .next (Sh s₀ h' k')) :
    Runs w A (execs (dBody (inCls 4 2)) env) Q E (Sh s₀ h k) := by
  refine ⟨?_⟩
  have hk := ok.kind
  obtain ⟨mg, hmg, hb, _⟩ := T.bm
  refine wpAny_execs_cons (plainObj_wpAny_Assign_Attribute ?_)
  refine kla_eval (by rfl) ?_
  rw [hqual]
  refine makeLam (U₁ := [(cs, cellC (some (.ref x)))]) S ht hcl ok.globals hcode hmg hb (codeHd_of_K T.K hd_104) fun B₁ h₁ k₁ f c' ctv nf nc kB ht' hf S₁ => ?_
  have S₁' : St B₁ env.locals m ([(cs, cellC (some (.ref x))), (100, tabC (lPos lamE) (some c'))] ++ (dx, frzC w.params fr) :: ((x, its ox) :: U)) h₁ := S₁
  obtain ⟨oC, eC, cC⟩ := S₁'.get (a := cs) (c := cellC (some (.ref x))) (by simp)
  obtain ⟨oX, eX, rfl⟩ := S₁'.get (a := x) (c := its ox) (.tail _ (.tail _ (.tail _ (.head _))))
  obtain ⟨oD, eD, n, rfl⟩ := S₁'.get (a := dx) (c := frzC w.params fr) (.tail _ (.tail _ (.head _)))
  refine nmC (v := .ref x) (c := cs) ⟨oC, eC, cC⟩ hk l1 (by rw [hcs]; rfl) ?_
  refine set_frozen (Pm := Pm) (S₁'.recell eD (c' := its _) rfl) ((T.keeps kB).K.keeps S₁.keep) eX hc hno hd (by rw [frz_get]; rfl) (Nat.le_trans (frz_len _ _) (by decide)) fun h₂ k₂ S₂ xb => ?_
  obtain ⟨t', e'⟩ := frz_put w.params fr (k₁ + 1) f
  rw [e'] at S₂
  refine wpAny_execs_nil ?_
  obtain ⟨oD₂, eD₂, rfl⟩ := S₂.get (a := dx) (List.mem_append_right _ (.head _))
  exact hQ B₁ h₂ k₂ f c' _ ctv (some (t', f)) m nf nc kB ht' hf rfl (S₂.recell eD₂ (c' := frzC w.params (some (t', f))) ⟨_, rfl⟩)
end
section
variable {w : World} {A : Around} {E : Value → Shared → Prop} {s₀ : Shared} {B : Heap} {L : Addr} {m : Str → Option Value} {U V U₁ U₂ : List (Addr × Cell)} {h : Heap} {k : Nat} {env : Env} {Pm : Params}
theorem kp_hide {B h : Heap} {l : List Addr} (k : Kp B h) (hn : ∀ a ∈ l, B.get? a = none) : Kp B (hideAll h l) := fun b o e => hideAll_get _ (k b o e) fun q => by rw [hn b q] at e; cases e
theorem St.hidden (S : St B L m (V ++ U) h) : Kp B (hideAll h (U.map (·.1))) := kp_hide S.keep fun a ha => by
  obtain ⟨p, hp, rfl⟩ := List.mem_map.mp ha
  exact (S.own p (List.mem_append_right _ hp)).2.2
theorem St.lend1 {h₁ : Heap} {c : Addr} {C : Cell} (S : St h L m [(c, C)] h₁) (U : List (Addr × Cell)) (hU : ∀ p ∈ U, ∃ o, h.get? p.1 = some o ∧ p.2 o) (nd : (U.map (·.1)).Nodup) : St (hideAll h (U.map (·.1))) L m ((c, C) :: U) h₁ := by
  obtain ⟨⟨o, e, hc⟩, n1, n2⟩ := S.own (c, C) (.head _)
  refine (S.drop.lend U hU nd).add e hc n1 ?_ ?_
  · cases q : (hideAll h (U.map (·.1))).get? c with
    | none => rfl
    | some o => have := of_hideAll _ q; dsimp only at n2; rw [n2] at this; cases this
  · intro q
    obtain ⟨p, hp, e⟩ := List.mem_map.mp q
    obtain ⟨o, e', _⟩ := hU p hp
    dsimp only at n2
    rw [e, n2] at e'; cases e'
theorem freeze_call {Q : Value → Shared → Prop} {x dx : Addr} {ox : Obj} {t : Option Addr} {fr : Option (Tok × Addr)} (S : St B L m (V ++ [(100, tabC (lPos lamE) t), (dx, frzC w.params fr), (x, its ox)]) h) (T : Top1 Pm B) (hA : AOk 3 A) (ht : TabR B lamQ t)
    (hc : ox.cls = .ref 108) (hno : notCls ox = true) (hd : ox.dict = some dx)
    (hQ : ∀ B' h' k' f cs c' pm ctv fr' oc, Kp B B' → TabR B' lamQ (some c') → B'.get? f = some (lamObj cs pm c' ctv) → B'.get? cs = some oc → cellC (some (.ref x)) oc → fr'.map (·.2) = some f →
      St B' L m (V ++ [(100, tabC (lPos lamE) (some c')), (dx, frzC w.params fr'), (x, its ox)]) h' → Q .none (Sh s₀ h' k')) :
    wpAny (model PW w) A (call (.ref 105) [.ref x] []) Q E (Sh s₀ h k) := by
  have Th : Top1 Pm h := T.keeps S.keep
  refine wpAny_call (codeAny_call_cells (fd := freezeFd) (body := dBody (inCls 4 2)) (binds := [(("self" : Str), .ref x)]) (s := Sh s₀ h k) (by have := hA.depth; show A.depth < 1000; omega) (k_105 Th.K) rfl Th.top.nolimit (c_105 Th.K) rfl (by with_unfolding_all rfl) rfl
    (fun y hy => .inr ?_) (fun s₁ z => ?_) rfl rfl rfl)
  · simp only [List.mem_singleton] at hy; subst hy; exact ⟨by rfl, by rfl⟩
  obtain ⟨⟨⟨h₁, k₁, rfl⟩, hns, hkeep, hfr⟩, hcell, hap, hab⟩ := z
  have ec : (callEnvC freezeFd (Sh s₀ h k).heap.objs.size 105).cells = [(("self" : Str), h.objs.size + 1)] := by rfl
  rw [ec] at hcell
  obtain ⟨oc, e, hdc⟩ := hcell "self" (h.objs.size + 1) (by rfl)
  have S1 : St h (callEnvC freezeFd h.objs.size 105).locals (fun _ => none) [(h.objs.size + 1, cellC (some (.ref x)))] h₁ := by
    refine ⟨hns, hkeep, get_none_of_ge (Nat.le_refl _), fun p hp => ?_, by simp⟩
    simp only [List.mem_singleton] at hp; subst hp
    exact ⟨⟨oc, e, hdc⟩, Nat.succ_ne_self _, get_none_of_ge (Nat.le_succ _)⟩
  have nd := S.nd
  rw [List.map_append] at nd
  have S2 := S1.lend1 [(100, tabC (lPos lamE) t), (dx, frzC w.params fr), (x, its ox)] (fun p hp => (S.own p (List.mem_append_right _ hp)).1) (List.nodup_append.mp nd).2.1
  have kB := S.hidden
  obtain ⟨key⟩ := freeze_body (Pm := Pm) (Q := retQ Q) (E := outE w A (callEnvC freezeFd h.objs.size 105) E) (s₀ := s₀) (w := w) (k := k₁) (A := A.deeper (callEnvC freezeFd h.objs.size 105)) S2 (T.keeps kB) ⟨rfl, rfl, rfl⟩ (ht.keeps kB) rfl (by rfl) rfl hc hno hd (by rfl) (by rfl)
    fun B₂ h₂ k₂ f c' pm ctv fr' m' nf nc k2 ht' hf hfr S₃ => by
      obtain ⟨B₃, oc', k3, e3, c3, S₄⟩ := S₃.give0
      obtain ⟨B₅, k5, hnew, S₅⟩ := S.back S₄ (k2.trans k3)
      have hn : ∀ {a}, h₁.get? a = none → h.get? a = none := fun q => Kp.none (fun b o e => hkeep b o e) q
      have tr : TabR B₅ lamQ (some c') := by
        rcases nc with rfl | nc
        · exact ht.keeps k5
        · obtain ⟨c₂, o, vs, tt, e2, hoc, r⟩ := ht'
          cases e2
          exact ⟨c', o, vs, tt, rfl, hnew _ _ (k3 _ _ hoc) (hn nc), r⟩
      exact hQ B₅ h₂ k₂ f _ c' pm ctv fr' oc' k5 tr (hnew _ _ (k3 _ _ hf) (hn nf)) (hnew _ _ e3 (get_none_of_ge (Nat.le_succ _))) c3 hfr S₅
  assumption
end
noncomputable def facS : Stmt := ((dBody (stmtAt 14))[1]?).getD (.Pass default)
noncomputable def dPos : Stmt → Pos | .FunctionDef _ _ _ _ _ _ _ _ _ p => p | _ => default
noncomputable def facQ : Str := Str.ofString "_law_read.<locals>._law_factory"
noncomputable def facObj (cm : Addr) (doc pm : Value) (c' : Addr) (ctv : Value) : Obj := fnMade "_law_factory" facQ (dArgs facS) (dBody facS) (dScope facS) [("made", cm)] doc pm c' ctv
section
variable {w : World} {A : Around} {E : Value → Shared → Prop} {s₀ : Shared} {B : Heap} {L : Addr} {m : Str → Option Value} {U V U₁ U₂ : List (Addr × Cell)} {h : Heap} {k : Nat} {env : Env} {Pm : Params}
theorem fac_body {Q : Flow → Shared → Prop} {M cm : Addr} {vs : List Value} {oc : Obj} (S : St B env.locals m [(M, lst vs)] h) (ok : EOk env) (hcs : env.cells = [(("made" : Str), cm)]) (hcm : B.get? cm = some oc) (hcc : cellC (some (.ref M)) oc) (hn : vs.length ≤ 50000)
    (l1 : env.kindOf "made" = some .free)
    (hQ : ∀ h' k' a, St B env.locals m [(M, lst (vs ++ [.ref a])), (a, txts [])] h' → B.get? a = none → Q (.ret (.ref a)) (Sh s₀ h' k')) :
    Runs w A (execs (dBody facS) env) Q E (Sh s₀ h k) := by
  refine ⟨?_⟩
  have hk := ok.kind
  have k1 : env.cells.lookup ("made" : Str) = some cm := by rw [hcs]; rfl
  obtain ⟨nM, hM⟩ := lst_plain S (R := M) (vs := vs) (.head _)
  refine wpAny_execs_cons ?_
  refine wpAny_Expr_any ?_ (interactive_no ok) (by rfl)
  refine lmeth slot_list_append type_list_append (nmF (v := .ref M) ⟨oc, S.keep _ _ hcm, hcc⟩ hk l1 k1 ⟨⟨M, _, rfl, nM, hM⟩, arg1 (wpAny_List_spliced (arg0 ⟨Nat.zero_le _, ?_⟩))⟩)
  have S₁ := S.alloc { cls := .type "list", data := .seq ([] : List Value).toArray } (c := txts []) ⟨[], 0, rfl, rfl⟩
  have nB : B.get? h.objs.size = none := S.keep.none (get_none_of_ge (Nat.le_refl _))
  generalize h.objs.size = a at S₁ nB ⊢
  generalize h.push _ = h₁ at S₁ ⊢
  have S₁' : St B env.locals m ([(a, txts [])] ++ (M, lst vs) :: []) h₁ := S₁
  refine appendL S₁' (by omega) fun h₂ S₂ => ?_
  obtain ⟨nM₂, hM₂⟩ := lst_plain S₂ (R := M) (vs := vs ++ [.ref a]) (.tail _ (.head _))
  refine wpAny_execs_cons (wpAny_Return_some ?_)
  refine lastL (nmF (v := .ref M) ⟨oc, S₂.keep _ _ hcm, hcc⟩ hk l1 k1 ⟨M, vs, .ref a, _, h₂, _, rfl, rfl, hM₂, ⟨nM₂, rfl⟩, by omega, ?_⟩)
  exact hQ h₂ _ a (S₂.perm (List.Perm.swap ..)) nB
theorem fac_code {Q : Value → Shared → Prop} {fo M cm c' : Addr} {doc pm ctv : Value} {vs : List Value} {oc : Obj} (S : St B L m (V ++ [(M, lst vs)]) h) (T : Top1 Pm B) (hA : AOk 3 A) (hf : B.get? fo = some (facObj cm doc pm c' ctv)) (hcd : B.CodeRec (.ref c') facQ)
    (hcm : B.get? cm = some oc) (hcc : cellC (some (.ref M)) oc) (hn : vs.length ≤ 50000)
    (hQ : ∀ B' h' k' a, Kp B B' → B.get? a = none → St B' L m (V ++ [(M, lst (vs ++ [.ref a])), (a, txts [])]) h' → Q (.ref a) (Sh s₀ h' k')) :
    codeAny (model PW w) A (.call (.ref fo) ⟨[], []⟩) (fun r s' => match r with | .ok (.ret v) => Q v s' | .ok _ => False | .error e => E e s') (Sh s₀ h k) := by
  have Th : Top1 Pm h := T.keeps S.keep
  refine codefd (fd := fnX "_law_factory" facQ (dArgs facS) (dBody facS) (dScope facS) [("made", cm)] .none .none doc pm none (.ref c') ctv) (body := dBody facS) (binds := []) (S.keep _ _ hf) (Heap.CodeRec.keeps hcd S.keep) Th.top.nolimit (by have := hA.depth; omega) rfl rfl rfl (by with_unfolding_all rfl)
    (show ∀ x ∈ (dScope facS).names, x.2 ≠ .cell from by decide) (fun x hx => nomatch hx) (by rfl) (by rfl) (by rfl) fun env h₁ he ok S1 => ?_
  have nd := S.nd
  rw [List.map_append] at nd
  have S2 := S1.lend [(M, lst vs)] (fun p hp => (S.own p (List.mem_append_right _ hp)).1) (List.nodup_append.mp nd).2.1
  have kB := S.hidden
  obtain ⟨key⟩ := fac_body (Q := retQ Q) (E := outE w A env E) (s₀ := s₀) (w := w) (k := k + 0) (A := A.deeper env) S2 ok (by subst he; rfl) (kB _ _ hcm) hcc hn (by subst he; rfl)
    fun h₂ k₂ a S₃ na => by
      obtain ⟨B₅, k5, _, S₅⟩ := S.back S₃ (Kp.refl _)
      refine hQ B₅ h₂ k₂ a k5 (kB.none na) S₅
  assumption
theorem fac_call {Q : Value → Shared → Prop} {fo M cm c' : Addr} {doc pm ctv : Value} {vs : List Value} {oc : Obj} (S : St B L m (V ++ [(M, lst vs)]) h) (T : Top1 Pm B) (hA : AOk 3 A) (hf : B.get? fo = some (facObj cm doc pm c' ctv)) (hcd : B.CodeRec (.ref c') facQ)
    (hcm : B.get? cm = some oc) (hcc : cellC (some (.ref M)) oc) (hn : vs.length ≤ 50000)
    (hQ : ∀ B' h' k' a, Kp B B' → B.get? a = none → St B' L m (V ++ [(M, lst (vs ++ [.ref a])), (a, txts [])]) h' → Q (.ref a) (Sh s₀ h' k')) :
    wpAny (model PW w) A (call (.ref fo) [] []) Q E (Sh s₀ h k) := wpAny_call (fac_code S T hA hf hcd hcm hcc hn hQ)
end
noncomputable def bookO (dd : Addr) (es : Array DictEntry) (n : Nat) (f : Value) : Obj := { cls := .ref 108, dict := some dd, data := .dict es n, slots := #[some f] }
noncomputable def cd108 : ClassData := { name := Str.ofString "FreezableDefaultDict", bases := [.type "collections.defaultdict"], mro := [.ref 108, .type "collections.defaultdict", .type "dict", .type "object"], ns := 107, qualname := Str.ofString "FreezableDefaultDict", hasDict := true, slotNames := [Str.ofString ""], subclasses := [], abstract := false, collection := none, hasDel := false }
section
variable {w : World} {A : Around} {E : Value → Shared → Prop} {s₀ : Shared} {B : Heap} {L : Addr} {m : Str → Option Value} {U V U₁ U₂ : List (Addr × Cell)} {h : Heap} {k : Nat} {env : Env} {Pm : Params}
theorem k_108 (X : (K0 Pm).In h) : h.get? 108 = some ⟨.type "type", none, .cls cd108, #[some (.ref 83), none, some (.str (Str.ofString "FreezableDefaultDict") 345), some (.str (Str.ofString "FreezableDefaultDict") 353), some (.builtin "dict.__new__"), some (.bool true)]⟩ := X _ _ (by kernel_rfl)
theorem special_call8 : specialIn (K0 Pm) (.ref 108) "__call__" = some (some (.builtin "type.__call__")) := by kernel_rfl
theorem inst_type8 : instIn (K0 Pm) (.ref 108) (.type "type") = some true := by kernel_rfl
theorem madeBy_108 {S : Setting} : peek (K0 Pm) S (Bind.madeBy (.ref 108)) = some (some "dict.__new__") := by kernel_rfl
theorem find_init8 : findIn (K0 Pm) (.ref 108) "__init__" = some (some (.builtin "collections.defaultdict.__init__")) := by kernel_rfl
theorem sub_108 : subIn (K0 Pm) (.ref 108) (.ref 108) = some true := by kernel_rfl
theorem sub_108d : subIn (K0 Pm) (.ref 108) (.type "collections.defaultdict") = some true := by kernel_rfl
theorem sub_108dict : subIn (K0 Pm) (.ref 108) (.type "dict") = some true := by kernel_rfl
theorem sub_108o : subIn (K0 Pm) (.ref 108) (.type "collections.OrderedDict") = some false := by kernel_rfl
theorem dn_check (v : Value) {S : Setting} : peek (K0 Pm) S (checkBuiltinCall "dict.__new__" ⟨[.ref 108, v], []⟩) = some () := by kernel_rfl
theorem dn_entry : entryFor table "dict.__new__" = some Builtin.«dict.__new__» := entryFor_of_tree (by kernel_rfl)
theorem dn_type {S : Setting} : peek (K0 Pm) S (isType (.ref 108)) = some true := by kernel_rfl
theorem dn_mro {S : Setting} : peek (K0 Pm) S (mroOf (.ref 108)) = some cd108.mro := by kernel_rfl
theorem ddi_entry : entryFor table "collections.defaultdict.__init__" = some Builtin.«collections.defaultdict.__init__» := entryFor_of_tree (by kernel_rfl)
theorem ddi_kind : builtinKind "collections.defaultdict.__init__" = some .slot := by kernel_rfl
theorem ddi_split : splitId "collections.defaultdict.__init__" = some ("collections.defaultdict", "__init__") := by kernel_rfl
theorem ddi_args (a b : Value) : argsOk "collections.defaultdict.__init__" ⟨[a, b], []⟩ := by unfold argsOk; kernel_rfl
theorem di_entry : entryFor table "dict.__init__" = some Builtin.«dict.__init__» := entryFor_of_tree (by kernel_rfl)
theorem fn_call : typeLookup (.type "function") "__call__" = pure (some (.builtin "function.__call__")) := by rw [typeLookup_type, builtinLookup_eq_fast]; kernel_rfl
theorem dict_new8 {v : Value} {R : Result → Shared → Prop} (X : (K0 Pm).In h)
    (hQ : R (.ok (.ret (.ref (h.objs.size + 1)))) (Sh s₀ ((h.push emptyDict).push { cls := .ref 108, dict := some h.objs.size, data := .dict #[] }) k)) :
    codeAny (model PW w) A (.call (.builtin "dict.__new__") ⟨[.ref 108, v], []⟩) R (Sh s₀ h k) := by
  have L1 : Looks (model PW w) h (isType (.ref 108)) true := Looks.of_peek X dn_type
  have L2 := looks_subIn (M := model PW w) X sub_108dict
  have L3 : Looks (model PW w) h (mroOf (.ref 108)) cd108.mro := Looks.of_peek X dn_mro
  refine codeAny_call_builtin_at (Code.quiet_builtin _ (by decide +kernel)) dn_entry ((Looks.of_peek X (dn_check v)).at ?_)
  unfold Builtin.«dict.__new__»
  dsimp only
  refine wpAny_bind (L1.at ?_)
  simp -iota only [Bool.not_true, Bool.false_eq_true, if_false]
  refine wpAny_bind (L2.at ?_)
  simp -iota only [Bool.not_true, Bool.false_eq_true, if_false]
  refine wpAny_bind (L3.at ?_)
  have no1 : ∀ b : Bool, b = false → ¬ (b = true) := fun b e q => by rw [e] at q; cases q
  refine (if_neg (no1 _ (by kernel_rfl))).symm ▸ ?_
  refine wpAny_bind (wpAny_bind (wpAny_alloc ?_))
  refine wpAny_pure (wpAny_bind ?_)
  unfold newObj
  dsimp only
  rw [if_neg (by decide)]
  unfold newObjAsIs classHasDel
  have hC := Kp.push (h.push emptyDict) { cls := .ref 108, dict := some h.objs.size, data := .dict #[] } _ _ (Kp.push h emptyDict _ _ (k_108 X))
  refine wpAny_bind (wpAny_alloc (wpAny_bind (wpAny_bind (wpAny_load hC (wpAny_pure ?_)))))
  refine wpAny_pure (wpAny_pure ?_)
  show R (.ok (.ret (.ref (h.push emptyDict).objs.size))) _
  rw [Heap.size_push]
  exact hQ
theorem dd_init {R : Result → Shared → Prop} {x f dd : Addr} {of : Obj} (X : (K0 Pm).In h) (hx : h.get? x = some { cls := .ref 108, dict := some dd, data := .dict #[] }) (hf : h.get? f = some of) (hfc : of.cls = .type "function") (hX : ∀ h', Heap.ExtBut x h h' → (K0 Pm).In h')
    (hQ : ∀ h', h'.get? x = some (bookO dd #[] 0 (.ref f)) → Heap.ExtBut x h h' → R (.ok (.ret .none)) (Sh s₀ h' k)) :
    codeAny (model PW w) A (.call (.builtin "collections.defaultdict.__init__") ⟨[.ref x, .ref f], []⟩) R (Sh s₀ h k) := by
  have t1 : Looks (model PW w) h (typeOf (.ref x)) (.ref 108) := (Looks.ld hx).andThen .now
  have inst : Looks (model PW w) h (isInstance (.ref x) (.type "collections.defaultdict")) true := t1.andThen (looks_subIn X sub_108d)
  have t2 : Looks (model PW w) h (specialOf (.ref f) "__call__") (some (.builtin "function.__call__")) := by
    have : Looks (model PW w) h (typeOf (.ref f)) (.type "function") := hfc ▸ (Looks.ld hf).andThen .now
    exact this.andThen (Looks.of_pure fn_call)
  refine codeAny_call_builtin_at (Code.quiet_builtin _ (by decide +kernel)) ddi_entry (@check_slot (model PW w) _ _ (Sh s₀ h k) "collections.defaultdict.__init__" "collections.defaultdict" "__init__" (.ref x) [.ref f] [] _ ddi_kind ddi_split inst (ddi_args _ _) ?_)
  unfold Builtin.«collections.defaultdict.__init__»
  dsimp only [List.head?]
  rw [if_pos (by rfl)]
  refine wpAny_bind (t2.at ?_)
  simp -iota only [Option.isNone_some, Bool.false_eq_true, if_false]
  have sl : ∀ {Q' : Option Value → Shared → Prop} {E' : Value → Shared → Prop} {A' : Around}, Q' none (Sh s₀ h k) → wpAny (model PW w) A' (slotAt x 0) Q' E' (Sh s₀ h k) := fun q => by
    unfold slotAt
    exact wpAny_bind (wpAny_loadPart hx (wpAny_pure q))
  refine wpAny_bind (sl ?_)
  refine wpAny_bind ?_
  unfold Builtin.Collections_defaultdict.setFactory
  dsimp only
  refine wpAny_bind (sl ?_)
  rw [if_pos (by rfl)]
  refine wpAny_bind (wpAny_pure ?_)
  unfold setSlotAt
  rw [if_neg (by rw [sizeLine_eq]; decide)]
  refine wpAny_updatePart hx ?_
  have e1 := Heap.get?_update_self (h := h) (a := x) (fun o : Obj => { o with slots := (o.slots ++ Array.replicate (0 + 1 - o.slots.size) none).setIfInBounds 0 (some (.ref f)) }) hx rfl
  have e2 : Heap.ExtBut x h (h.update x (fun o : Obj => { o with slots := (o.slots ++ Array.replicate (0 + 1 - o.slots.size) none).setIfInBounds 0 (some (.ref f)) })) := (Heap.SameBut.update ..).extBut
  generalize h.update x _ = h' at e1 e2 ⊢
  have e1' : h'.get? x = some (bookO dd #[] 0 (.ref f)) := e1
  refine wpAny_bind (wpAny_holding (wpAny_runValue (codeAny_builtin di_entry ?_)))
  unfold Builtin.«dict.__init__» Builtin.Dict.selfAndRest Builtin.Dict.notOrdered
  dsimp only [List.headD]
  have t3 : Looks (model PW w) h' (typeOf (.ref x)) (.ref 108) := (Looks.ld e1').andThen .now
  have t4 : Looks (model PW w) h' (isInstance (.ref x) (.type "collections.OrderedDict")) false := t3.andThen (looks_subIn (hX h' e2) sub_108o)
  rw [if_pos (by rfl)]
  refine wpAny_bind (wpAny_bind (wpAny_bind (t3.at ?_)))
  rw [if_pos (by decide)]
  refine wpAny_bind (t4.at ?_)
  simp -iota only [Bool.false_eq_true, if_false]
  refine wpAny_pure ?_
  refine wpAny_bind (wpAny_pure (wpAny_pure ?_))
  refine wpAny_bind (wpAny_pure ?_)
  exact wpAny_pure (wpAny_pure (hQ h' e1' e2))
end
section
variable {w : World} {A : Around} {E : Value → Shared → Prop} {s₀ : Shared} {B : Heap} {L : Addr} {m : Str → Option Value} {U V U₁ U₂ : List (Addr × Cell)} {h : Heap} {k : Nat} {env : Env} {Pm : Params}
theorem ddi_bind (v : Value) : bindSpecial (.builtin "collections.defaultdict.__init__") v = pure (.builtin "collections.defaultdict.__init__", [v]) := by kernel_rfl
theorem book_call {f : Addr} {of : Obj} {Q : Value → Shared → Prop} (X : (K0 Pm).In h) (hf : h.get? f = some of) (hfc : of.cls = .type "function")
    (hQ : ∀ h' x dd, h.objs.size ≤ x → Kp h h' → h.get? x = none → h.get? dd = none → x ≠ dd → h'.get? x = some (bookO dd #[] 0 (.ref f)) → h'.get? dd = some emptyDict → Q (.ref x) (Sh s₀ h' k)) :
    wpAny (model PW w) A (call (.ref 108) [.ref f] []) Q E (Sh s₀ h k) := by
  have hC := k_108 X
  have call_ : Looks (model PW w) h (specialOf (.ref 108) "__call__") (some (.builtin "type.__call__")) := looks_specialIn X special_call8
  have typ := looks_instIn (M := model PW w) X inst_type8
  refine wpAny_call (codeAny_of_tree ?_)
  show wpAny _ _ (callAny (.ref 108) _) _ _ _
  refine nd_load hC ?_
  show wpAny _ _ (callAny.viaDunder (.ref 108) _) _ _ _
  unfold callAny.viaDunder
  refine wpAny_bind (call_.at ?_)
  dsimp only
  rw [tc_bind]
  refine wpAny_bind (wpAny_pure (wpAny_bind (wpAny_pure ?_)))
  refine wpAny_pure (a := Fin.again (.call (.builtin "type.__call__") ⟨[.ref 108, .ref f], []⟩)) (And.intro rfl ?_)
  have hq : (Code.builtin "type.__call__" ⟨[.ref 108, .ref f], []⟩).quiet = true := Code.quiet_builtin _ (by decide +kernel)
  have hchk : ∀ {A' : Around} {Q' : Unit → Shared → Prop} {E' : Value → Shared → Prop}, Q' () ⟨h, s₀.gens, s₀.drawn, k, s₀.os⟩ → wpAny (model PW w) A' (checkBuiltinCall "type.__call__" ⟨[.ref 108, .ref f], []⟩) Q' E' ⟨h, s₀.gens, s₀.drawn, k, s₀.os⟩ :=
    fun {A' Q' E'} q => @check_slot (model PW w) A' E' ⟨h, s₀.gens, s₀.drawn, k, s₀.os⟩ "type.__call__" "type" "__call__" (.ref 108) [.ref f] [] Q' tc_kind tc_split typ (tc_args _ _ _) q
  with_reducible refine codeAny_call_builtin_at hq entry_typeCall (hchk ?_)
  generalize A.under (.builtin "type.__call__" ⟨[.ref 108, .ref f], []⟩) = A'
  have hm : Looks (model PW w) h (mroOf (.ref 108)) cd108.mro := Looks.of_peek X dn_mro
  have made : Looks (model PW w) h (Bind.madeBy (.ref 108)) (some "dict.__new__") := Looks.of_peek X madeBy_108
  unfold Builtin.«type.__call__»
  have e0 : (Value.ref 108 == Value.type "type") = false := by decide
  simp only [e0, Bool.false_eq_true, if_false]
  with_reducible refine wpAny_bind (hm.at ?_)
  have em : cd108.mro.isEmpty = false := rfl
  simp only [em, Bool.false_eq_true, if_false]
  with_reducible refine wpAny_bind (made.at ?_)
  dsimp only
  with_reducible refine wpAny_bind (wpAny_pure ?_)
  with_reducible refine wpAny_bind (wpAny_holding (wpAny_call ?_))
  refine dict_new8 (k := k) X ?_
  have K1 : Kp h ((h.push emptyDict).push { cls := .ref 108, dict := some h.objs.size, data := .dict #[] }) := (Kp.push _ _).trans (Kp.push _ _)
  have gx : ((h.push emptyDict).push { cls := .ref 108, dict := some h.objs.size, data := .dict #[] }).get? (h.objs.size + 1) = some { cls := .ref 108, dict := some h.objs.size, data := .dict #[] } := by
    have := Heap.get?_push_size (h.push emptyDict) (o := { cls := .ref 108, dict := some h.objs.size, data := .dict #[] }) rfl
    rwa [Heap.size_push] at this
  have gd : ((h.push emptyDict).push { cls := .ref 108, dict := some h.objs.size, data := .dict #[] }).get? h.objs.size = some emptyDict := Kp.push _ _ _ _ (Heap.get?_push_size _ rfl)
  have nx : h.get? (h.objs.size + 1) = none := get_none_of_ge (Nat.le_succ _)
  have nd : h.get? h.objs.size = none := get_none_of_ge (Nat.le_refl _)
  generalize (h.push emptyDict).push { cls := .ref 108, dict := some h.objs.size, data := .dict #[] } = h₁ at K1 gx gd ⊢
  have hne : h.objs.size + 1 ≠ h.objs.size := Nat.succ_ne_self _
  have hge : h.objs.size ≤ h.objs.size + 1 := Nat.le_succ _
  generalize h.objs.size + 1 = x at gx nx hne hge ⊢
  have nd' := nd
  generalize hdd : h.objs.size = dd at gx gd nd hne ⊢
  have t1 : Looks (model PW w) h₁ (typeOf (.ref x)) (.ref 108) := (Looks.ld gx).andThen .now
  have s1 := looks_subIn (M := model PW w) (X.keeps K1) sub_108
  have i1 := looks_findIn (M := model PW w) (X.keeps K1) find_init8
  have ii : Looks (model PW w) h₁ (isInstance (.ref x) (.ref 108)) true := t1.andThen s1
  with_reducible refine wpAny_bind (ii.at ?_)
  simp only [Bool.not_true, Bool.false_eq_true, if_false]
  unfold callSpecial? specialOf
  with_reducible refine wpAny_bind (wpAny_holding (wpAny_bind (wpAny_bind (t1.at (i1.at ?_)))))
  dsimp only
  with_reducible refine wpAny_holding ?_
  rw [ddi_bind]
  with_reducible refine wpAny_bind (wpAny_pure ?_)
  with_reducible refine wpAny_bind (wpAny_call ?_)
  have hX : ∀ h' : Heap, Heap.ExtBut x h₁ h' → (K0 Pm).In h' := fun h' xb a o e => xb a o (fun q => by
    have := X _ _ e
    rw [q, nx] at this; cases this) (K1 _ _ (X _ _ e))
  refine dd_init (k := k) (X.keeps K1) gx (K1 _ _ hf) hfc hX fun h₂ e₂ xb => ?_
  have K2 : Kp h h₂ := fun b o e => xb b o (fun q => by rw [q, nx] at e; cases e) (K1 _ _ e)
  refine wpAny_pure ?_
  simp only [bne_self_eq_false, Bool.false_eq_true, if_false]
  exact wpAny_pure (hQ h₂ x dd hge K2 nx nd hne e₂ (xb _ _ (Ne.symm hne) gd))
end
end Mine
end
section
open PySem PySem.W PySem.Calls
open Sem (wp)
open PyProof.Rows
namespace Mine
section
variable {w : World} {A : Around} {E : Value → Shared → Prop} {s₀ : Shared} {B : Heap} {L : Addr} {m : Str → Option Value} {U V U₁ U₂ : List (Addr × Cell)} {h : Heap} {k : Nat} {env : Env} {Pm : Params}
theorem wpAny_no {α : Type} {c : Prop} [Decidable c] {t u : Sem α} {Q : α → Shared → Prop} {s : Shared} (hc : ¬ c) (h : wpAny (model PW w) A u Q E s) : wpAny (model PW w) A (if c then t else u) Q E s := by rw [if_neg hc]; exact h
theorem wpAny_yes {α : Type} {c : Prop} [Decidable c] {t u : Sem α} {Q : α → Shared → Prop} {s : Shared} (hc : c) (h : wpAny (model PW w) A t Q E s) : wpAny (model PW w) A (if c then t else u) Q E s := by rw [if_pos hc]; exact h
theorem nott {b : Bool} (e : b = false) : ¬ (b = true) := fun q => by rw [e] at q; cases q
theorem call_type_ref {a : Addr} {o : Obj} {C : Addr} {Q : Value → Shared → Prop} (ha : h.get? a = some o) (hc : o.cls = .ref C) (hq : Q (.ref C) (Sh s₀ h k)) : wpAny (model PW w) A (call (.type "type") [.ref a]) Q E (Sh s₀ h k) := by
  have t1 : Looks (model PW w) h (typeOf (.ref a)) (.ref C) := hc ▸ (Looks.ld ha).andThen .now
  refine wpAny_call (codeAny_of_tree ?_)
  show wpAny _ _ (callAny (.type "type") _) _ _ _
  refine wpAny_pure ⟨Code.quiet_builtin _ (by decide +kernel), codeAny_builtin F.entry_type_call ?_⟩
  rw [Around.under_plain (weight_type_call_type "type" [.ref a] []) (units_type_call_type "type" [.ref a] [])]
  unfold Builtin.«type.__call__»
  dsimp only
  refine wpAny_yes (by rfl) (wpAny_yes (by rfl) (wpAny_no (nott (by rfl)) (wpAny_no (nott (by rfl)) ?_)))
  unfold shownTypeOf
  refine wpAny_bind (wpAny_bind (t1.at (wpAny_no (nott (by rfl)) ?_)))
  exact wpAny_pure (wpAny_pure hq)
theorem peek_issub {S : Setting} : peek (K0 Pm) S (Builtin.«issubclass.nested» ⟨[.ref 203, .type "tuple", rawInt 0], []⟩) = some (.done (.ret (.bool true))) := by kernel_rfl
theorem kind_issub : builtinKind "issubclass" = none := by kernel_rfl
theorem plain_issub : plainId "issubclass" = true := by decide +kernel
theorem entry_issub : entryFor table "issubclass" = some Builtin.«issubclass» := entryFor_of_tree (by kernel_rfl)
theorem args_issub (a b : Value) : argsOk "issubclass" ⟨[a, b], []⟩ := by unfold argsOk; kernel_rfl
theorem issub_pair {Q : Value → Shared → Prop} (X : (K0 Pm).In h) (hq : Q (.bool true) (Sh s₀ h k)) : wpAny (model PW w) A (call (.builtin "issubclass") [.ref 203, .type "tuple"]) Q E (Sh s₀ h k) := by
  refine wpAny_call (codeAny_call_builtin plain_issub entry_issub ?_)
  have fin := issubclass_outer (prog := PW) (w := w) (A := A) (x := .ref 203) (c := .type "tuple") (s := Sh s₀ h k) (R := fun r s' => match r with | .ok (.ret v) => Q v s' | .ok _ => False | .error e => E e s') ((Looks.of_peek X peek_issub).at hq)
  simp only [checkBuiltinCall, kind_issub]
  have ok := args_issub (.ref 203) (.type "tuple")
  cases hsig : Manifest.signature? "issubclass" with
  | none => exact wpAny_pure fin
  | some sig =>
    simp only [argsOk, hsig] at ok
    have h2 : Bind.checkArgs "issubclass" sig ⟨[.ref 203, .type "tuple"], []⟩ = pure () := ok
    show wpAny _ A.in1 (Bind.checkArgs "issubclass" sig ⟨[.ref 203, .type "tuple"], []⟩) _ _ _
    rw [h2]; exact wpAny_pure fin
theorem sub_203t : subIn (K0 Pm) (.ref 203) (.type "tuple") = some true := by kernel_rfl
theorem tgi_kind : builtinKind "tuple.__getitem__" = some .slot := by kernel_rfl
theorem tgi_split : splitId "tuple.__getitem__" = some ("tuple", "__getitem__") := by kernel_rfl
theorem pair_item {a d : Addr} {x y v : Value} {i : Nat} {t : Tok} {Q : Value → Shared → Prop} (X : (K0 Pm).In h) (ha : h.get? a = some (pairO d x y)) (hi : #[x, y][i]? = some v) (hq : Q v (Sh s₀ h k)) :
    wpAny (model PW w) A (call (.builtin "tuple.__getitem__") [.ref a, .int (i : Nat) t]) Q E (Sh s₀ h k) := by
  have hlt : i < 2 := by
    have := (Array.getElem?_eq_some_iff.mp hi).1
    simpa using this
  have t1 : Looks (model PW w) h (typeOf (.ref a)) (.ref 203) := (Looks.ld ha).andThen .now
  have inst : Looks (model PW w) h (isInstance (.ref a) (.type "tuple")) true := t1.andThen (looks_subIn X sub_203t)
  refine wpAny_call (codeAny_call_builtin F.slot_tuple_getitem.plain F.entry_tuple_getitem (@check_slot (model PW w) _ _ (Sh s₀ h k) "tuple.__getitem__" "tuple" "__getitem__" (.ref a) [.int (i : Nat) t] [] _ tgi_kind tgi_split inst (F.args_tuple_getitem_2 _ _) ?_))
  show wpAny _ _ (Builtin.Tuple.tupleItemsOf (.ref a) >>= _) _ _ _
  unfold Builtin.Tuple.tupleItemsOf
  refine wpAny_bind (wpAny_bind (wpAny_seqItems ha rfl (wpAny_pure ?_)))
  refine wpAny_bind (wpAny_typeOf (typeIs_int _ _ t) ?_)
  refine wpAny_no (nott (by rfl)) ?_
  refine wpAny_bind (wpAny_specialOf (T := "int") (typeIs_int _ _ t) AutoSeq1.idx_int ?_)
  refine wpAny_no (nott (by rfl)) ?_
  refine wpAny_bind (wpAny_of_eq (a := (i : Int)) rfl ?_)
  have p63 : (2 : Int) ^ 63 = 9223372036854775808 := by decide
  refine wpAny_no (nott ?_) ?_
  · rw [p63]
    simp only [Bool.or_eq_false_iff, decide_eq_false_iff_not]
    omega
  have hs : seqIndex? (i : Int) (#[x, y] : Array Value).size = some i := by
    have h0 : ¬ ((i : Int) < 0) := by omega
    unfold seqIndex?
    simp only [h0, if_false]
    rw [if_pos (by show (decide (0 ≤ (i : Int)) && decide ((i : Int) < ((2 : Nat) : Int))) = true; simp only [Bool.and_eq_true, decide_eq_true_eq]; omega)]
    rfl
  show wpAny _ _ (match (seqIndex? (i : Int) (#[x, y] : Array Value).size).bind (#[x, y][·]?) with
    | some x => ret x
    | none => _) _ _ _
  rw [hs, Option.bind_some, hi]
  exact wpAny_pure hq
end
section
variable {w : World} {A : Around} {E : Value → Shared → Prop} {s₀ : Shared} {B : Heap} {L : Addr} {m : Str → Option Value} {U V U₁ U₂ : List (Addr × Cell)} {h : Heap} {k : Nat} {env : Env} {Pm : Params}
noncomputable def Getter (g : Addr) (i : Nat) : Prop := (g = 172 ∧ i = 0) ∨ (g = 175 ∧ i = 1)
theorem bind_get (g a : Addr) {S : Setting} : peek (K0 Pm) S (bindArgs getFd ⟨[.ref g, .ref a, .ref 203], []⟩) = some [(("self" : Str), .ref g), (("obj" : Str), .ref a), (("objtype" : Str), .ref 203)] := by kernel_rfl
theorem ga_78 : findIn (K0 Pm) (.ref 78) "__getattribute__" = some (some (.builtin "object.__getattribute__")) := by kernel_rfl
noncomputable def od172 (P : Params) : Obj := ⟨(.type "dict"), none, (.dict ([⟨PyData.keyHash P (Str.ofString "index"), (.str (Str.ofString "index") 484), (.int (0) 478)⟩, ⟨PyData.keyHash P (Str.ofString "__doc__"), (.str (Str.ofString "__doc__") 486), (.str (Str.ofString "Alias for field number 0") 479)⟩] : List DictEntry).toArray 2), #[]⟩
noncomputable def od175 (P : Params) : Obj := ⟨(.type "dict"), none, (.dict ([⟨PyData.keyHash P (Str.ofString "index"), (.str (Str.ofString "index") 494), (.int (1) 488)⟩, ⟨PyData.keyHash P (Str.ofString "__doc__"), (.str (Str.ofString "__doc__") 496), (.str (Str.ofString "Alias for field number 1") 489)⟩] : List DictEntry).toArray 2), #[]⟩
theorem fo_172 : findObj (K0 Pm) 78 (some (od172 Pm)) "index" = some (.value (.int 0 478)) := by kernel_rfl
theorem fo_175 : findObj (K0 Pm) 78 (some (od175 Pm)) "index" = some (.value (.int 1 488)) := by kernel_rfl
theorem get_index {g : Addr} {i : Nat} {expr : Bool} {Q : Value → Shared → Prop} (X : (K0 Pm).In h) (hg : Getter g i) (hQ : ∀ t, Q (.int (i : Nat) t) (Sh s₀ h (k + 1))) : wpAny (model PW w) A (getAttr (.ref g) "index" expr) Q E (Sh s₀ h k) := by
  rcases hg with ⟨rfl, rfl⟩ | ⟨rfl, rfl⟩
  · have I : InstAt h 172 ⟨.ref 78, some 171, .plain, #[]⟩ 78 (some (od172 Pm)) := InstAt.of_K X (by kernel_rfl) (by kernel_rfl)
    exact get_value (s := Sh s₀ h k) X I ga_78 fo_172 rfl (hQ 478)
  · have I : InstAt h 175 ⟨.ref 78, some 174, .plain, #[]⟩ 78 (some (od175 Pm)) := InstAt.of_K X (by kernel_rfl) (by kernel_rfl)
    exact get_value (s := Sh s₀ h k) X I ga_78 fo_175 rfl (hQ 488)
theorem get_body {Q : Flow → Shared → Prop} {g a d : Addr} {i : Nat} {x y v : Value} (S : St B env.locals m [] h) (X : (K0 Pm).In B) (T : Top0 B) (ok : EOk env) (hg : Getter g i) (ha : B.get? a = some (pairO d x y)) (hi : #[x, y][i]? = some v)
    (v1 : m "self" = some (.ref g)) (v2 : m "obj" = some (.ref a)) (l1 : env.kindOf "self" = some .local) (l2 : env.kindOf "obj" = some .local) (g1 : env.kindOf "issubclass" = some .globalImplicit) (g2 : env.kindOf "type" = some .globalImplicit) (g3 : env.kindOf "tuple" = some .globalImplicit)
    (hQ : ∀ k', Q (.ret v) (Sh s₀ h k')) :
    Runs w A (execs (dBody (inCls 3 1)) env) Q E (Sh s₀ h k) := by
  refine ⟨?_⟩
  have hk := ok.kind
  have Th := T.keeps S.keep
  have ha' : h.get? a = some (pairO d x y) := S.keep _ _ ha
  refine wpAny_execs_cons (wpAny_If ?_)
  refine wpAny_isTrue_Compare1 (nm S hk l2 v2 (wpAny_Constant_none (is_ref_none (wpAny_truthy_bool ?_))))
  refine wpAny_execs_nil ?_
  refine wpAny_execs_cons (wpAny_If ?_)
  refine isTrue_not (wpAny_isTrue_value ?_)
  refine callB (id := "issubclass") Th ok g1 (by decide) (arg2 (callT (id := "type") Th ok g2 (by decide) (arg1 (nm S hk l2 v2 ?_))))
  refine call_type_ref ha' (C := 203) rfl ?_
  refine nbl (v := .type "tuple") Th ok g3 (by decide) ?_
  refine issub_pair (X.keeps S.keep) (wpAny_truthy_bool ?_)
  refine wpAny_execs_nil ?_
  refine wpAny_execs_cons (wpAny_Return_some ?_)
  refine call_of_type (n := "tuple") (id := "tuple.__getitem__") stub_tuple fc_tget (by rfl) ty_tuple (nbl Th ok g3 (by decide) ⟨_, _, rfl, rfl, arg2 (nm S hk l2 v2 ?_)⟩)
  rw [arm_eval_Attribute]
  refine wpAny_bind (m := eval (.Name "self" _) env) (nm S hk l1 v1 ?_)
  refine wpAny_bind (wpAny_standAt (wpAny_bind (wpAny_holding (get_index (X.keeps S.keep) hg fun t => ?_))))
  refine wpAny_bind (wpAny_pure (wpAny_pure ?_))
  exact pair_item (X.keeps S.keep) ha' hi (hQ _)
end
end Mine
end
section
open PySem PySem.W PySem.Calls
open Sem (wp)
open PyProof.Rows Builtin Builtin.ObjectAttr
namespace Mine
structure GaFacts (id owner : String) : Prop where
  entry : entryFor table id = some Builtin.«object.__getattribute__»
  plain : plainId id = true
  kind : builtinKind id = some .slot
  split : splitId id = some (owner, "__getattribute__")
  args : ∀ a b : Value, argsOk id ⟨[a, b], []⟩
  bind : ∀ v : Value, bindSpecial (.builtin id) v = pure (.builtin id, [v])
  other : (Value.builtin id == Value.builtin "object.__getattribute__") = false
theorem ga_tuple : GaFacts "tuple.__getattribute__" "tuple" where
  entry := entryFor_alias (id' := "object.__getattribute__") (by kernel_rfl) (by first | rfl | decide +kernel | (unfold String.splitOn; simp +decide [String.splitOnAux])) (by decide +kernel) (by kernel_rfl)
  plain := by decide +kernel
  kind := by kernel_rfl
  split := by kernel_rfl
  args := fun a b => by unfold argsOk; kernel_rfl
  bind := fun v => by kernel_rfl
  other := by decide
theorem ga_dd : GaFacts "collections.defaultdict.__getattribute__" "collections.defaultdict" where
  entry := entryFor_alias (id' := "object.__getattribute__") (by kernel_rfl) (by first | rfl | decide +kernel | (unfold String.splitOn; simp +decide [String.splitOnAux])) (by decide +kernel) (by kernel_rfl)
  plain := by decide +kernel
  kind := by kernel_rfl
  split := by kernel_rfl
  args := fun a b => by unfold argsOk; kernel_rfl
  bind := fun v => by kernel_rfl
  other := by decide
section
variable {w : World} {A : Around} {E : Value → Shared → Prop} {s₀ : Shared} {h : Heap} {k : Nat} {env : Env} {K : Frag}
noncomputable def FoundThen (w : World) (A : Around) (E : Value → Shared → Prop) (x C : Addr) (Q : Value → Shared → Prop) (s : Shared) : Found → Prop
  | .value v => Q v s
  | .bind g a => wpAny (model PW w) A (call g [a, .ref x, .ref C]) Q E s
  | .missing => False
theorem getT {id owner : String} (G : GaFacts id owner) {x C : Addr} {ox : Obj} {od : Option Obj} {name : Str} {tk : Tok} {fill expr : Bool} {r : Found} {Q : Value → Shared → Prop} (X : K.In h) (I : InstAt h x ox C od)
    (hga : findIn K (.ref C) "__getattribute__" = some (some (.builtin id))) (hgk : findIn K (.ref C) "__getattr__" = some none) (hin : subIn K (.ref C) (.type owner) = some true) (hf : findObj K C od name = some r)
    (hQ : FoundThen w A.in1 (fun _ _ => False) x C (fun v s' => handedIn v = true ∧ Q v s') (Sh s₀ h k) r) :
    wpAny (model PW w) A (getAttrBy (.ref x) (.str name tk) fill expr) Q E (Sh s₀ h k) := by
  have t1 := I.type (M := model PW w)
  have inst : Looks (model PW w) h (isInstance (.ref x) (.type owner)) true := t1.andThen (looks_subIn X hin)
  have fnd := looks_find (M := model PW w) X I hf
  unfold getAttrBy
  refine wpAny_holding (wpAny_bind (t1.at (wpAny_bind ((looks_findIn X hga).at ?_))))
  dsimp only
  refine wpAny_no (nott ?_) ?_
  · show (true && (Value.builtin id == Value.builtin "object.__getattribute__")) = false
    rw [G.other]; rfl
  unfold getAttrByItsOwn
  refine wpAny_bind ?_
  show wpAny _ _ (typeLookup (.ref C) "__getattr__") _ _ _
  refine (looks_findIn X hgk).at ?_
  refine wpAny_bind (wpAny_attempt (wpAny_holding ?_))
  unfold callGetattribute
  refine wpAny_no (nott (by cases expr <;> rfl)) ?_
  unfold boundAndCalled
  rw [G.bind]
  refine wpAny_bind (wpAny_pure ?_)
  dsimp only [List.singleton_append]
  refine wpAny_call (codeAny_call_builtin G.plain G.entry (@check_slot (model PW w) _ _ (Sh s₀ h k) id owner "__getattribute__" (.ref x) [.str name tk] [] _ G.kind G.split inst (G.args _ _) ?_))
  refine wpAny_bind (m := slotArgs "__getattribute__" 1 ⟨[.ref x, .str name tk], []⟩) (wpAny_pure ?_)
  refine wpAny_bind (m := attrName (.str name tk)) (wpAny_pure ?_)
  refine wpAny_bind (t1.at (wpAny_bind (fnd.at ?_)))
  have fin : ∀ v s', handedIn v = true → Q v s' → wpAny (model PW w) A (handedOut v) Q E s' := fun v s' e q => by rw [handedOut_of e]; exact wpAny_pure q
  cases r with
  | value v =>
    obtain ⟨e, q⟩ := hQ
    exact wpAny_pure (fin v _ e q)
  | bind g a =>
    show wpAny _ _ (holding [a] (call g [a, .ref x, .ref C]) >>= ret) _ _ _
    refine wpAny_bind (wpAny_holding (wpAny_mono hQ (fun v s' q => wpAny_pure (fin v s' q.1 q.2)) fun _ _ e => e.elim))
  | missing => exact hQ.elim
theorem getT' {id owner : String} (G : GaFacts id owner) {x C : Addr} {ox : Obj} {od : Option Obj} {name : Str} {expr : Bool} {r : Found} {Q : Value → Shared → Prop} (X : K.In h) (I : InstAt h x ox C od)
    (hga : findIn K (.ref C) "__getattribute__" = some (some (.builtin id))) (hgk : findIn K (.ref C) "__getattr__" = some none) (hin : subIn K (.ref C) (.type owner) = some true) (hf : findObj K C od name = some r)
    (hQ : FoundThen w A.in1 (fun _ _ => False) x C (fun v s' => handedIn v = true ∧ Q v s') (Sh s₀ h (k + 1)) r) :
    wpAny (model PW w) A (getAttr (.ref x) name expr) Q E (Sh s₀ h k) := by
  unfold getAttr
  exact wpAny_bind (wpAny_mkText (getT (k := k + 1) G X I hga hgk hin hf hQ))
end
end Mine
end
section
open PySem PySem.W PySem.Calls
open Sem (wp)
open PyProof.Rows
namespace Mine
section
variable {w : World} {A : Around} {E : Value → Shared → Prop} {s₀ : Shared} {B : Heap} {L : Addr} {m : Str → Option Value} {U V U₁ U₂ : List (Addr × Cell)} {h : Heap} {k : Nat} {env : Env} {Pm : Params}
theorem callfdB {a : Addr} {fd : FuncData} {body : List Stmt} {args : List Value} {binds : List (Str × Value)} {Q : Value → Shared → Prop} (hf : h.get? a = some (fnObj fd)) (hcd : h.CodeRec fd.code fd.qualname)
    (hn : h.NoLimit) (hroom : A.depth < 1000) (hbody : fd.body = .stmts body) (hgl : fd.globals = mainGlobals) (hbl : fd.builtins = builtinsNs)
    (hbind : BindsTo (Sh s₀ h k) fd ⟨args, []⟩ binds) (hcell : ∀ x ∈ fd.scope.names, x.2 ≠ .cell) (hloc : ∀ x ∈ binds, fd.scope.names.lookup x.1 = some .local)
    (hco : fd.scope.isCoroutine = false) (hgen : fd.scope.isGenerator = false) (hk : fd.scope.kind = .function)
    (hb : ∀ env h₁, env = callEnv fd h.objs.size a → EOk env → St h env.locals (fun x => binds.reverse.lookup x) [] h₁ →
      wpAny (model PW w) (A.deeper env) (execs body env) (retQ Q) (outE w A env E) (Sh s₀ h₁ (k + binds.length))) :
    wpAny (model PW w) A (call (.ref a) args []) Q E (Sh s₀ h k) := by
  refine wpAny_call (codeAny_call_def (fd := fd) (body := body) (binds := binds) (s := Sh s₀ h k) hroom hf rfl hn hcd hbody hbind hcell hloc (fun h₀ hns hkp => ?_) hco hgen hk)
  exact hb _ h₀ rfl ⟨hk, hgl, hbl⟩ ⟨hns, hkp, get_none_of_ge (Nat.le_refl _), fun p hp => (nomatch hp), List.nodup_nil⟩
theorem get_call {Q : Value → Shared → Prop} {g a d : Addr} {i : Nat} {x y v : Value} (X : (K0 Pm).In h) (T : Top0 h) (hA : AOk 3 A) (hg : Getter g i) (ha : h.get? a = some (pairO d x y)) (hi : #[x, y][i]? = some v)
    (hQ : ∀ h' k', Kp h h' → Q v (Sh s₀ h' k')) :
    wpAny (model PW w) A (call (.ref 61) [.ref g, .ref a, .ref 203] []) Q E (Sh s₀ h k) := by
  refine callfdB (fd := getFd) (body := dBody (inCls 3 1)) (binds := [(("self" : Str), .ref g), (("obj" : Str), .ref a), (("objtype" : Str), .ref 203)]) (k_61 X) (c_61 X) T.nolimit (by have := hA.depth; omega) rfl rfl rfl (kp_binds (s := Sh s₀ h k) X fun S => bind_get g a) (show ∀ x ∈ (dScope (inCls 3 1)).names, x.2 ≠ .cell from by decide) (PyProof.Rows.locs (by rfl)) rfl rfl rfl
    fun env h₁ he ok S => ?_
  obtain ⟨key⟩ := get_body (Q := retQ Q) (E := outE w A env E) (s₀ := s₀) (w := w) (k := k + 3) (A := A.deeper env) S X T ok hg ha hi (by rfl) (by rfl) (by subst he; rfl) (by subst he; rfl) (by subst he; rfl) (by subst he; rfl) (by subst he; rfl) fun k' => hQ h₁ k' S.keep
  assumption
theorem cls_203s : (clsIn (K0 Pm) 203).isSome = true := by kernel_rfl
theorem find_name : findIn (K0 Pm) (.ref 203) "name" = some (some (.ref 172)) := by kernel_rfl
theorem find_value : findIn (K0 Pm) (.ref 203) "value" = some (some (.ref 175)) := by kernel_rfl
theorem sp_172 : specialIn (K0 Pm) (.ref 172) "__get__" = some (some (.ref 61)) := by kernel_rfl
theorem sp_175 : specialIn (K0 Pm) (.ref 175) "__get__" = some (some (.ref 61)) := by kernel_rfl
theorem tk_172 : takesIn (K0 Pm) (.ref 172) = some true := by kernel_rfl
theorem tk_175 : takesIn (K0 Pm) (.ref 175) = some true := by kernel_rfl
theorem ga_203i : findIn (K0 Pm) (.ref 203) "__getattribute__" = some (some (.builtin "tuple.__getattribute__")) := by kernel_rfl
theorem gk_203 : findIn (K0 Pm) (.ref 203) "__getattr__" = some none := by kernel_rfl
theorem pair_attr {Q : Value → Shared → Prop} {a d : Addr} {x y : Str} {t u : Tok} {o : Expr} {pos : Pos} {b : Bool} {name : Str} (hnm : name = (if b then ("value" : Str) else "name"))
    (hx : wpAny (model PW w) A (eval o env) (fun ov s₁ => ∃ h₁ k₁, ov = .ref a ∧ s₁ = Sh s₀ h₁ k₁ ∧ (K0 Pm).In h₁ ∧ Top0 h₁ ∧ h₁.get? a = some (pairO d (.str x t) (.str y u)) ∧ h₁.get? d = some emptyDict ∧ ∀ h' k', Kp h₁ h' → Q (if b then .str y u else .str x t) (Sh s₀ h' k')) E (Sh s₀ h k))
    (hA : AOk 4 A) (hbase : attributeBase o name env (eval o env) = eval o env) (hlt : ∀ a r, letTemporaryGo o a r = pure () := by intro _ _; rfl) :
    wpAny (model PW w) A (eval (.Attribute o name pos) env) Q E (Sh s₀ h k) := by
  rw [arm_eval_Attribute, hbase]
  refine wpAny_bind (wpAny_mono hx (fun ov s₁ q => ?_) fun _ _ e => e)
  obtain ⟨h₁, k₁, rfl, rfl, X, T, ha, hd, hQ⟩ := q
  have I : InstAt h₁ a (pairO d (.str x t) (.str y u)) 203 (some emptyDict) := ⟨ha, rfl, rfl, hd⟩
  refine wpAny_bind (wpAny_standAt (wpAny_bind (wpAny_holding ?_)))
  subst hnm
  have fin : ∀ v h' k', Q v (Sh s₀ h' k') → wpAny (model PW w) A (letTemporaryGo o (.ref a) v >>= fun _ => pure v) Q E (Sh s₀ h' k') := fun v h' k' q => by
    rw [hlt]; exact wpAny_bind (wpAny_pure (wpAny_pure q))
  have A1 : AOk 3 A.in1 := hA.in1
  cases b with
  | false =>
    refine getT' ga_tuple X I ga_203i gk_203 sub_203t (findObj_data cls_203s find_name sp_172 tk_172) ?_
    exact get_call (k := k₁ + 1) (i := 0) (v := .str x t) X T A1 (.inl ⟨rfl, rfl⟩) ha rfl fun h' k' K' => ⟨rfl, fin _ _ _ (hQ h' k' K')⟩
  | true =>
    refine getT' ga_tuple X I ga_203i gk_203 sub_203t (findObj_data cls_203s find_value sp_175 tk_175) ?_
    exact get_call (k := k₁ + 1) (i := 1) (v := .str y u) X T A1 (.inr ⟨rfl, rfl⟩) ha rfl fun h' k' K' => ⟨rfl, fin _ _ _ (hQ h' k' K')⟩
end
noncomputable def rowsV (rows : List (Str × Addr)) : List (Str × Value) := rows.map fun p => (p.1, .ref p.2)
structure BookD (w : World) (dd F : Addr) (rows : List (Str × Addr)) (es : Array DictEntry) : Prop where
  keys : KeysOf (strKind PW w) es
  pairs : Pairs (strKind PW w) es.toList (rowsV rows)
  nd : ((rowsV rows).map (·.1)).Nodup
noncomputable def bookC (w : World) (dd F : Addr) (rows : List (Str × Addr)) : Cell := fun o => ∃ es n, o = bookO dd es n (.ref F) ∧ BookD w dd F rows es
theorem book_empty (w : World) (dd F : Addr) (n : Nat) : bookC w dd F [] (bookO dd #[] n (.ref F)) := ⟨#[], n, rfl, ⟨fun e he => by simp at he, .nil, List.nodup_nil⟩⟩
theorem valueAt_rows (rows : List (Str × Addr)) (x : Str) : valueAt (rowsV rows) x = (findR rows x).map .ref := by
  unfold valueAt findR rowsV
  rw [List.find?_map, Option.map_map, Option.map_map]
  have : ((fun kv : Str × Value => decide (kv.1 = x)) ∘ fun p : Str × Addr => (p.1, Value.ref p.2)) = fun p : Str × Addr => p.1 == x := by
    funext p; simp only [Function.comp]; rw [Bool.eq_iff_iff]; simp
  rw [this]; rfl
theorem rowsV_snoc (rows : List (Str × Addr)) (x : Str) (a : Addr) : rowsV (rows ++ [(x, a)]) = rowsV rows ++ [(x, .ref a)] := by simp [rowsV]
section
variable {w : World} {A : Around} {E : Value → Shared → Prop} {s₀ : Shared} {B : Heap} {L : Addr} {m : Str → Option Value} {U V U₁ U₂ : List (Addr × Cell)} {h : Heap} {k : Nat} {env : Env} {Pm : Params}
theorem book_get {x dd F : Addr} {rows : List (Str × Addr)} {o : Obj} {y : Str} {t : Tok} {Q : Option Value → Shared → Prop} (hx : h.get? x = some o) (hb : bookC w dd F rows o)
    (hQ : Q ((findR rows y).map .ref) (Sh s₀ h (k + 1))) : wpAny (model PW w) A (dictGet x (.str y t)) Q E (Sh s₀ h k) := by
  obtain ⟨es, n, rfl, D⟩ := hb
  have hkey := strKind_is PW w y t
  unfold dictGet
  try with_reducible refine wpAny_holding ?_
  refine wpAny_bind ((strKind PW w).pyHash hkey (wpAny_bind (wpAny_dictFind_of (s := { Sh s₀ h k with toks := k + 1 }) hkey hx rfl D.keys ?_)))
  have e1 : (es.findIdx? fun e => (strKind PW w).is y e.key) = es.toList.findIdx? fun e => (strKind PW w).is y e.key := by rw [← List.findIdx?_toArray]
  rw [← valueAt_rows] at hQ
  cases hi : es.findIdx? fun e => (strKind PW w).is y e.key with
  | none =>
    have : valueAt (rowsV rows) y = none := by
      rw [← D.pairs.find y]
      rw [e1] at hi
      have := List.findIdx?_eq_none_iff.mp hi
      simpa using this
    rw [this] at hQ
    exact wpAny_pure hQ
  | some i =>
    rw [e1] at hi
    obtain ⟨e, he, _, hv⟩ := D.pairs.at hi
    refine wpAny_bind (wpAny_dictEntries (s := { Sh s₀ h k with toks := k + 1 }) hx rfl (wpAny_pure ?_))
    rw [hv] at hQ
    have : es[i]? = some e := by rw [← Array.getElem?_toList]; exact he
    rw [this]
    exact hQ
theorem book_default {x dd F : Addr} {rows : List (Str × Addr)} {y : Str} {t : Tok} {a : Addr} {Q : Value → Shared → Prop} (S : St B L m (U₁ ++ (x, bookC w dd F rows) :: U₂) h) (hn : findR rows y = none) (hlen : rows.length ≤ 100000)
    (hQ : ∀ h', St B L m (U₁ ++ (x, bookC w dd F (rows ++ [(y, a)])) :: U₂) h' → Q (.ref a) (Sh s₀ h' (k + 1))) : wpAny (model PW w) A (dictSetDefault x (.str y t) (.ref a)) Q E (Sh s₀ h k) := by
  obtain ⟨o, hx, es, n, rfl, D⟩ := S.get (a := x) (c := bookC w dd F rows) (by simp)
  have hkey := strKind_is PW w y t
  have hs := sizeLine_eq
  unfold dictSetDefault
  try with_reducible refine wpAny_holding ?_
  refine wpAny_bind ((strKind PW w).pyHash hkey (wpAny_bind (wpAny_dictFind_of (s := { Sh s₀ h k with toks := k + 1 }) hkey hx rfl D.keys ?_)))
  have e1 : (es.findIdx? fun e => (strKind PW w).is y e.key) = es.toList.findIdx? fun e => (strKind PW w).is y e.key := by rw [← List.findIdx?_toArray]
  have hv : valueAt (rowsV rows) y = none := by rw [valueAt_rows, hn]; rfl
  have hi : es.findIdx? (fun e => (strKind PW w).is y e.key) = none := by
    rw [e1]
    rw [← D.pairs.find y] at hv
    rw [List.findIdx?_eq_none_iff]
    simpa using hv
  rw [hi]
  have hsz : es.size = rows.length := by
    have := D.pairs.length
    simpa [rowsV] using this
  have hz : es.size ≤ sizeLine := by omega
  have hd2 : (bookO dd es n (.ref F)).data = .dict es n := rfl
  refine wpAny_bind (wpAny_rule (wpAny_bind (wpAny_updateDictKeys (hz := by omega) (s := { Sh s₀ h k with toks := k + 1 }) hx hd2 (wpAny_pure ?_))))
  have g1 := Heap.get?_update_self (h := h) (a := x) (Obj.mapDictKeys (·.push ⟨(strKind PW w).hash y, .str y t, .ref a⟩)) hx (Obj.isFreed_of_dict (Obj.data_mapDictKeys hd2 _))
  refine hQ _ (S.upd (Heap.SameBut.update ..).extBut g1 ?_)
  refine ⟨es.push ⟨(strKind PW w).hash y, .str y t, .ref a⟩, n + 1, rfl, ⟨D.keys.push hkey _, ?_, ?_⟩⟩
  · rw [rowsV_snoc, Array.toList_push]
    exact D.pairs.append hkey _ _
  · rw [rowsV_snoc, List.map_append]
    refine List.nodup_append.mpr ⟨D.nd, by simp, fun p hp q hq e => ?_⟩
    simp only [List.map_cons, List.map_nil, List.mem_singleton] at hq
    subst hq; subst e
    obtain ⟨r, hr, e⟩ := List.mem_map.mp hp
    unfold valueAt at hv
    rw [Option.map_eq_none_iff, List.find?_eq_none] at hv
    exact hv r hr (by simpa using e)
end
noncomputable abbrev ddM : Value := .builtin "collections.defaultdict.__missing__"
noncomputable def boundO (x : Addr) : Obj := { cls := .type "builtin_function_or_method", data := .fields #[ddM, .ref x] }
section
variable {w : World} {A : Around} {E : Value → Shared → Prop} {s₀ : Shared} {B : Heap} {L : Addr} {m : Str → Option Value} {U V U₁ U₂ : List (Addr × Cell)} {h : Heap} {k : Nat} {env : Env} {Pm : Params}
theorem ddm_type : typeOf ddM = pure (.type "method_descriptor") := by kernel_rfl
theorem ddm_get : typeLookup (.type "method_descriptor") "__get__" = pure (some (.builtin "method_descriptor.__get__")) := by rw [typeLookup_type, builtinLookup_eq_fast]; kernel_rfl
theorem slot_md : Slot "method_descriptor" "__get__" "method_descriptor.__get__" :=
  .of (owner := "method_descriptor") (n := "__get__") (by rw [typeLookup_type, builtinLookup_eq_fast]; kernel_rfl) (by decide +kernel) (by decide +kernel) (by decide +kernel)
    (by first | exact .inl (by decide +kernel) | exact .inr (by decide +kernel)) (by rw [isSubtype_type]; kernel_rfl)
theorem entry_md : entryFor table "method_descriptor.__get__" = some Builtin.«method_descriptor.__get__» := entryFor_of_tree (by kernel_rfl)
theorem args_md (a b c : Value) : argsOk "method_descriptor.__get__" ⟨[a, b, c], []⟩ := by unfold argsOk; kernel_rfl
theorem ddm_along : alongIn ([] : Frag) "__missing__" [.type "collections.defaultdict", .type "dict", .type "object"] = some (some ddM) := by kernel_rfl
theorem md_get {x C : Addr} {o : Obj} {R : Value → Shared → Prop} (X : (K0 Pm).In h) (hx : h.get? x = some o) (hc : o.cls = .ref 108) (hQ : R (.ref h.objs.size) (Sh s₀ (h.push (boundO x)) k)) :
    wpAny (model PW w) A (call (.builtin "method_descriptor.__get__") [ddM, .ref x, .ref C]) R E (Sh s₀ h k) := by
  have t1 : Looks (model PW w) h (typeOf (.ref x)) (.ref 108) := hc ▸ (Looks.ld hx).andThen .now
  have inst : Looks (model PW w) h (isInstance (.ref x) (.type "collections.defaultdict")) true := t1.andThen (looks_subIn X sub_108d)
  have ee : (".".intercalate ("collections.defaultdict.__missing__".cutAt '.').dropLast) = "collections.defaultdict" := by decide +kernel
  have inst' : Looks (model PW w) h (isInstance (.ref x) (.type (".".intercalate ("collections.defaultdict.__missing__".cutAt '.').dropLast))) true := by rw [ee]; exact inst
  refine wpAny_call_entry slot_md (T := "method_descriptor") ?_ entry_md ?_ (args_md _ _ _)
  · exact ddm_type
  unfold Builtin.«method_descriptor.__get__»
  repeat lk
  exact ⟨_, rfl, hQ⟩
theorem no_opaque : nsIn (K0 Pm) cStatics "thirdparty.any" = some none := by kernel_rfl
theorem opaque_108 (X : (K0 Pm).In h) : Looks (model PW w) h (opaqueClassAbove (.ref 108)) none := looks_opaque X no_opaque
theorem mro_108 (X : (K0 Pm).In h) : Looks (model PW w) h (mroOf (.ref 108)) cd108.mro := Looks.of_peek X dn_mro
theorem ddm_own : ownIn ([] : Frag) "__missing__" (.type "collections.defaultdict") = some (some ddM) := by kernel_rfl
theorem after_108 : (cd108.mro.dropWhile (· != .ref 108)).drop 1 = [.type "collections.defaultdict", .type "dict", .type "object"] := by kernel_rfl
theorem super_ga {so x : Addr} {o : Obj} {tk : Tok} {Q : PySem.Fin → Shared → Prop} (X : (K0 Pm).In h) (hso : h.get? so = some (ks_superObj 108 x 108)) (hx : h.get? x = some o) (hc : o.cls = .ref 108) (hne : x ≠ 108)
    (hq : Q (.done (.ret (.ref h.objs.size))) (Sh s₀ (h.push (boundO x)) k)) :
    wpAny (model PW w) A (Builtin.«super.__getattribute__» ⟨[.ref so, .str "__missing__" tk], []⟩) Q E (Sh s₀ h k) := by
  have hn2 : (Value.ref x == Value.ref 108) = false := by simp [hne]
  have hdt : (ks_superObj 108 x 108).data = .fields #[.ref 108, .ref x, .ref 108] := rfl
  have f0 : (#[.ref 108, .ref x, .ref 108] : Array Value)[0]? = some (.ref 108) := rfl
  have f1 : (#[.ref 108, .ref x, .ref 108] : Array Value)[1]? = some (.ref x) := rfl
  have f2 : (#[.ref 108, .ref x, .ref 108] : Array Value)[2]? = some (.ref 108) := rfl
  have hno := opaque_108 (w := w) X
  have hC := mro_108 (w := w) X
  have hl := after_108
  have hT : Looks (model PW w) h (typeOf ddM) (.type "method_descriptor") := Looks.of_pure ddm_type
  have hG : Looks (model PW w) h (typeLookup (.type "method_descriptor") "__get__") (some (.builtin "method_descriptor.__get__")) := Looks.of_pure ddm_get
  unfold Builtin.«super.__getattribute__»
  dsimp only
  have as : asStr? (.str "__missing__" tk) = pure (some ("__missing__" : Str)) := rfl
  with_reducible refine wpAny_bind (wpAny_of_eq as ?_)
  with_reducible refine wpAny_no (nott rfl) ?_
  with_reducible refine wpAny_bind (wpAny_of_eq as ?_)
  dsimp only
  with_reducible refine wpAny_bind (wpAny_field hso hdt f0 ?_)
  with_reducible refine wpAny_bind (wpAny_field hso hdt f1 ?_)
  with_reducible refine wpAny_bind (wpAny_field hso hdt f2 ?_)
  with_reducible refine wpAny_no (nott (by decide)) ?_
  with_reducible refine wpAny_bind (ks_wpAny_notOpaque hno ?_)
  with_reducible refine wpAny_no (nott (by decide)) ?_
  with_reducible refine wpAny_bind (hC.at ?_)
  rw [hl, List.forIn_cons]
  have ho : Looks (model PW w) h (classOwn (.type "collections.defaultdict") "__missing__") (some ddM) := looks_ownIn (nil_in h) ddm_own
  with_reducible refine wpAny_bind (wpAny_bind (wpAny_bind (ho.at ?_)))
  dsimp only
  with_reducible refine wpAny_bind (hT.at ?_)
  with_reducible refine wpAny_bind (hG.at ?_)
  dsimp only
  rw [hn2]
  with_reducible refine wpAny_bind (wpAny_holding (md_get X hx hc ?_))
  with_reducible refine wpAny_bind (wpAny_pure ?_)
  with_reducible refine wpAny_pure ?_
  dsimp only
  with_reducible refine wpAny_pure ?_
  exact wpAny_pure hq
end
section
variable {w : World} {A : Around} {E : Value → Shared → Prop} {s₀ : Shared} {B : Heap} {L : Addr} {m : Str → Option Value} {U V U₁ U₂ : List (Addr × Cell)} {h : Heap} {k : Nat} {env : Env} {Pm : Params}
theorem super_attr {so x : Addr} {o : Obj} {Q : Value → Shared → Prop} (X : (K0 Pm).In h) (hso : h.get? so = some (ks_superObj 108 x 108)) (hx : h.get? x = some o) (hc : o.cls = .ref 108) (hne : x ≠ 108)
    (hq : Q (.ref h.objs.size) (Sh s₀ (h.push (boundO x)) (k + 1))) :
    wpAny (model PW w) A (getAttr (.ref so) "__missing__" true) Q E (Sh s₀ h k) := by
  have hlk := F.ks_slot_super_ga.lookup
  have hT : ∀ t', (Sh s₀ h t').TypeIs (.ref so) "super" := fun _ => ⟨_, hso, rfl⟩
  unfold getAttr getAttrBy
  refine wpAny_bind (wpAny_mkText (wpAny_holding (wpAny_bind (wpAny_typeOf (hT (k + 1)) (wpAny_bind (wpAny_of_eq hlk ?_))))))
  show wpAny _ _ (getAttrByItsOwn (.ref so) (.str "__missing__" k) (.type "super") (.builtin "super.__getattribute__") true true) _ _ _
  unfold getAttrByItsOwn hookBefore callGetattribute boundAndCalled
  refine wpAny_bind (wpAny_of_eq (show (if onTheHeap (.type "super") then typeLookup (.type "super") "__getattr__" else pure none) = pure none from rfl) ?_)
  refine wpAny_bind (wpAny_attempt (wpAny_holding ?_))
  show wpAny _ _ (bindSpecial (.builtin "super.__getattribute__") (.ref so) >>= _) _ _ _
  refine wpAny_bind (wpAny_of_eq (F.ks_slot_super_ga.bind _) ?_)
  refine wpAny_mono (Q := fun v s' => v = .ref h.objs.size ∧ s' = Sh s₀ (h.push (boundO x)) (k + 1)) (E := fun _ _ => False)
    (wpAny_call_entry F.ks_slot_super_ga (hT (k + 1)) F.ks_entry_super_ga (super_ga (k := k + 1) X hso hx hc hne ⟨_, rfl, rfl, rfl⟩) (F.ks_gaArgs_super _ _)) (fun v s' hv => ?_) fun _ _ z => z.elim
  obtain ⟨rfl, rfl⟩ := hv
  exact wpAny_pure hq
theorem ddm_entry : entryFor table "collections.defaultdict.__missing__" = some Builtin.«collections.defaultdict.__missing__» := entryFor_of_tree (by kernel_rfl)
theorem sd_entry : entryFor table "dict.setdefault" = some Builtin.«dict.setdefault» := entryFor_of_tree (by kernel_rfl)
theorem wpAny_callBorrowed {f : Value} {pos : List Value} {Q : Value → Shared → Prop} {s : Shared}
    (hc : codeAny (model PW w) A (.call f ⟨pos, []⟩) (fun r s' => match r with | .ok (.ret v) => Q v s' | .ok _ => False | .error e => E e s') s) : wpAny (model PW w) A (callBorrowed f pos) Q E s := by
  intro Γ p hΓ
  unfold callBorrowed
  rw [Sem.wp_call]
  refine wpCode_mono (fun r s' q => ?_) (hc _ p rfl (hΓ.enter (.call f ⟨pos, []⟩) none p (by intro x; cases x)))
  rcases r with e | (v | _ | _ | _) <;> exact q
end
section
variable {w : World} {A : Around} {E : Value → Shared → Prop} {R : Result → Shared → Prop} {s₀ : Shared} {B : Heap} {L : Addr} {m : Str → Option Value} {U V U₁ U₂ : List (Addr × Cell)} {h : Heap} {k : Nat} {env : Env} {Pm : Params}
theorem sub_108m : subIn (K0 Pm) (.ref 108) (.type "module") = some false := by kernel_rfl
theorem ddm_kind : builtinKind "collections.defaultdict.__missing__" = some .method := by kernel_rfl
theorem ddm_sig : Manifest.signature? "collections.defaultdict.__missing__" = some ⟨.oneArg, "defaultdict.__missing__", "__missing__", .self, [⟨"object", .posOnly, true⟩]⟩ := by kernel_rfl
theorem ddm_varargs : Manifest.varargsMethods.contains "collections.defaultdict.__missing__" = false := by kernel_rfl
theorem ddm_last : Bind.lastOf "collections.defaultdict.__missing__" = "__missing__" := by decide +kernel
theorem type_108 (X : (K0 Pm).In h) : Looks (model PW w) h (typeOf (.ref 108)) (.type "type") := (Looks.ld (k_108 X)).andThen .now
theorem ddm_bound {b x : Addr} {dd : Addr} {es : Array DictEntry} {n : Nat} {f : Value} {y : Value} (X : (K0 Pm).In h) (hb : h.get? b = some (boundO x)) (hx : h.get? x = some (bookO dd es n f))
    (hR : codeAny (model PW w) A (.builtin "collections.defaultdict.__missing__" ⟨[.ref x, y], []⟩) R (Sh s₀ h k)) :
    codeAny (model PW w) A (.call (.ref b) ⟨[y], []⟩) R (Sh s₀ h k) := by
  have t1 : Looks (model PW w) h (typeOf (.ref x)) (.ref 108) := (Looks.ld hx).andThen .now
  have i1 : Looks (model PW w) h (isInstance (.ref x) (.type "module")) false := t1.andThen (looks_subIn X sub_108m)
  refine codeAny_of_tree ?_
  show wpAny _ _ (callAny (.ref b) _) _ _ _
  refine nd_load hb ?_
  show wpAny _ _ (checkBoundCall "collections.defaultdict.__missing__" ⟨[.ref x, y], []⟩ >>= fun _ => again (.builtin "collections.defaultdict.__missing__" ⟨[.ref x, y], []⟩)) _ _ _
  refine wpAny_bind ?_
  unfold checkBoundCall
  rw [ddm_sig, ddm_kind, ddm_varargs]
  dsimp only
  with_reducible refine wpAny_no (nott rfl) ?_
  with_reducible refine wpAny_bind (i1.at ?_)
  with_reducible refine wpAny_no (nott rfl) ?_
  have it : ∀ {Q' : Bool → Shared → Prop} {E' : Value → Shared → Prop} {A' : Around}, Q' false ⟨h, s₀.gens, s₀.drawn, k, s₀.os⟩ → wpAny (model PW w) A' (isType (.ref x)) Q' E' ⟨h, s₀.gens, s₀.drawn, k, s₀.os⟩ := fun q => ks_wpAny_isType_inst hx (fun c hc => by cases hc) q
  with_reducible refine wpAny_bind (it ?_)
  with_reducible refine wpAny_no (nott rfl) ?_
  with_reducible refine wpAny_bind (t1.at ?_)
  dsimp only
  with_reducible refine wpAny_bind ((looks_clsIn X cls_108).at ?_)
  with_reducible refine wpAny_bind ((type_108 X).at ?_)
  with_reducible refine wpAny_yes (by decide) ?_
  with_reducible refine wpAny_of_eq (a := ()) ?e ?_
  case e => kernel_rfl
  exact wpAny_pure ⟨Code.quiet_builtin _ (by decide +kernel), hR⟩
end
section
variable {w : World} {A : Around} {E : Value → Shared → Prop} {R : Result → Shared → Prop} {s₀ : Shared} {B : Heap} {L : Addr} {m : Str → Option Value} {U V U₁ U₂ : List (Addr × Cell)} {h : Heap} {k : Nat} {env : Env} {Pm : Params}
theorem sd_code {x dd F : Addr} {rows : List (Str × Addr)} {y : Str} {t : Tok} {a : Addr} (S : St B L m (U₁ ++ (x, bookC w dd F rows) :: U₂) h) (X : (K0 Pm).In h) (hlo : (x == sysModules) = false) (hn : findR rows y = none) (hlen : rows.length ≤ 100000)
    (hQ : ∀ h', St B L m (U₁ ++ (x, bookC w dd F (rows ++ [(y, a)])) :: U₂) h' → R (.ok (.ret (.ref a))) (Sh s₀ h' (k + 1))) :
    codeAny (model PW w) A (.builtin "dict.setdefault" ⟨[.ref x, .str y t, .ref a], []⟩) R (Sh s₀ h k) := by
  obtain ⟨o, hx, es, n, rfl, D⟩ := S.get (a := x) (c := bookC w dd F rows) (List.mem_append_right _ (.head _))
  have t3 : Looks (model PW w) h (typeOf (.ref x)) (.ref 108) := (Looks.ld hx).andThen .now
  have t4 : Looks (model PW w) h (isInstance (.ref x) (.type "collections.OrderedDict")) false := t3.andThen (looks_subIn X sub_108o)
  refine codeAny_builtin sd_entry ?_
  unfold Builtin.«dict.setdefault» Builtin.Dict.keyAndDefault Builtin.Dict.notOrdered
  dsimp only [List.headD]
  refine wpAny_bind (wpAny_bind (wpAny_yes (by rfl) (wpAny_bind (t3.at (wpAny_yes (by rfl) (wpAny_bind (t4.at (wpAny_no (nott rfl) (wpAny_pure ?_)))))))))
  refine wpAny_bind (m := Builtin.Dict.nameIsSure "setdefault" _ _) (wpAny_pure ?_)
  refine wpAny_bind (m := selfAndSome "dict.setdefault" "setdefault" 1 2 _) (wpAny_pure ?_)
  refine wpAny_bind (wpAny_pure (wpAny_pure ?_))
  refine wpAny_no (nott hlo) ?_
  refine wpAny_bind ?_
  exact book_default (k := k) S hn hlen fun h' S' => wpAny_pure (hQ h' S')
theorem ddm_code {x dd F M cm c' : Addr} {doc pm ctv : Value} {vs : List Value} {oc : Obj} {rows : List (Str × Addr)} {y : Str} {t : Tok} (S : St B L m (V ++ [(x, bookC w dd F rows), (M, lst vs)]) h) (T : Top1 Pm B) (hA : AOk 4 A) (hlo : (x == sysModules) = false)
    (hf : B.get? F = some (facObj cm doc pm c' ctv)) (hcd : B.CodeRec (.ref c') facQ) (hcm : B.get? cm = some oc) (hcc : cellC (some (.ref M)) oc) (hn : vs.length ≤ 50000) (hr : findR rows y = none) (hlen : rows.length ≤ 100000)
    (hQ : ∀ B' h' k' a, Kp B B' → B.get? a = none → St B' L m (V ++ [(x, bookC w dd F (rows ++ [(y, a)])), (M, lst (vs ++ [.ref a])), (a, txts [])]) h' → R (.ok (.ret (.ref a))) (Sh s₀ h' k')) :
    codeAny (model PW w) A (.builtin "collections.defaultdict.__missing__" ⟨[.ref x, .str y t], []⟩) R (Sh s₀ h k) := by
  obtain ⟨o, hx, es, n, rfl, D⟩ := S.get (a := x) (c := bookC w dd F rows) (List.mem_append_right _ (.head _))
  have hF := S.keep _ _ hf
  refine codeAny_builtin ddm_entry ?_
  have A1 : AOk 3 (A.under (.builtin "collections.defaultdict.__missing__" ⟨[.ref x, .str y t], []⟩)) := by
    rw [Around.under_plainId (by decide +kernel)]
    exact hA.in1
  generalize A.under (.builtin "collections.defaultdict.__missing__" ⟨[.ref x, .str y t], []⟩) = A' at A1
  unfold Builtin.«collections.defaultdict.__missing__»
  refine wpAny_bind (m := selfAndOne "defaultdict.__missing__" _) (wpAny_pure ?_)
  dsimp only
  refine wpAny_bind ?_
  unfold Builtin.Collections_defaultdict.factory?
  dsimp only
  unfold slotAt
  refine wpAny_bind (wpAny_bind (wpAny_loadPart hx (wpAny_pure (wpAny_pure ?_))))
  show wpAny _ _ (callOutOfASlot (.ref F) >>= _) _ _ _
  refine wpAny_bind ?_
  unfold callOutOfASlot borrowsExactly
  refine wpAny_bind (wpAny_bind (wpAny_load hF (wpAny_pure ?_)))
  refine wpAny_yes rfl (wpAny_callBorrowed ?_)
  have S' : St B L m ((V ++ [(x, bookC w dd F rows)]) ++ [(M, lst vs)]) h := by simpa using S
  refine fac_code (k := k) S' T A1 hf hcd hcm hcc hn fun B₁ h₁ k₁ a kB na S₁ => ?_
  refine wpAny_pure ⟨Code.quiet_builtin _ (by decide +kernel), ?_⟩
  have S₁' : St B₁ L m (V ++ (x, bookC w dd F rows) :: [(M, lst (vs ++ [.ref a])), (a, txts [])]) h₁ := by simpa using S₁
  exact sd_code S₁' ((T.keeps kB).K.keeps S₁.keep) hlo hr hlen fun h₂ S₂ => hQ B₁ h₂ _ a kB na S₂
end
end Mine
end
section
open PySem PySem.W PySem.Calls
open Sem (wp)
open PyProof.Rows Builtin Builtin.Getset_descriptor
namespace Mine
noncomputable abbrev dfB : Value := .builtin "collections.defaultdict.default_factory"
section
variable {w : World} {A : Around} {E : Value → Shared → Prop} {R : Result → Shared → Prop} {s₀ : Shared} {B : Heap} {L : Addr} {m : Str → Option Value} {U V U₁ U₂ : List (Addr × Cell)} {h : Heap} {k : Nat} {env : Env} {Pm : Params}
theorem df_find : findIn (K0 Pm) (.ref 108) "default_factory" = some (some dfB) := by kernel_rfl
theorem df_type : typeOf dfB = pure (.type "member_descriptor") := by kernel_rfl
theorem df_spec : specialIn (K0 Pm) dfB "__get__" = some (some (.builtin "member_descriptor.__get__")) := by kernel_rfl
theorem df_takes : takesIn (K0 Pm) dfB = some true := by kernel_rfl
theorem df_owner : descrOwnerAndName "collections.defaultdict.default_factory" = ("collections.defaultdict", "default_factory") := by decide +kernel
theorem df_entry : entryFor table "collections.defaultdict.default_factory" = some Builtin.«collections.defaultdict.default_factory» := entryFor_of_tree (by kernel_rfl)
theorem df_get {x dd F : Addr} {es : Array DictEntry} {n : Nat} (X : (K0 Pm).In h) (hx : h.get? x = some (bookO dd es n (.ref F))) (hR : R (.ok (.ret (.ref F))) (Sh s₀ h k)) :
    codeAny (model PW w) A (.call (.builtin "member_descriptor.__get__") ⟨[dfB, .ref x, .ref 108], []⟩) R (Sh s₀ h k) := by
  have L0 : Looks (model PW w) h (typeOf (.ref x)) (.ref 108) := (Looks.ld hx).andThen .now
  have L1 := looks_subIn (M := model PW w) X sub_108d
  refine codeAny_call_builtin KF.slot_mem.plain KF.entry_mem (KF.slot_mem.check _ _ _ _ _ _ _ _ df_type (KF.args_mem _ _ _) ?_)
  unfold Builtin.«member_descriptor.__get__» descrGet
  rw [dga_obj]
  refine wpAny_bind (wpAny_pure ?_)
  unfold descrGetter descrCheckInstance descrNameAndClass isInstance
  simp only [df_owner]
  repeat lk
  refine ⟨Code.quiet_builtin _ (by decide +kernel), codeAny_builtin df_entry ?_⟩
  unfold Builtin.«collections.defaultdict.default_factory»
  dsimp only
  unfold Builtin.Collections_defaultdict.factory?
  dsimp only
  unfold slotAt
  exact wpAny_bind (wpAny_bind (wpAny_bind (wpAny_loadPart hx (wpAny_pure (wpAny_pure (wpAny_pure hR))))))
end
end Mine
end
section
open PySem PySem.W PySem.Calls
open Sem (wp)
open PyProof.Rows
namespace Mine
section
variable {w : World} {A : Around} {E : Value → Shared → Prop} {R : Result → Shared → Prop} {s₀ : Shared} {B : Heap} {L : Addr} {m : Str → Option Value} {U V U₁ U₂ : List (Addr × Cell)} {h : Heap} {k : Nat} {env : Env} {Pm : Params}
theorem ga_108i : findIn (K0 Pm) (.ref 108) "__getattribute__" = some (some (.builtin "collections.defaultdict.__getattribute__")) := by kernel_rfl
theorem gk_108 : findIn (K0 Pm) (.ref 108) "__getattr__" = some none := by kernel_rfl
theorem cls_108s : (clsIn (K0 Pm) 108).isSome = true := by kernel_rfl
theorem canon_dd : (Manifest.canonical "collections.defaultdict.__getattribute__" != "object.__getattribute__") = false := by decide +kernel
theorem method_df {x dd F : Addr} {es : Array DictEntry} {n : Nat} {od : Obj} {pl : Sem Bool} {Q : Value × List Value → Shared → Prop} (X : (K0 Pm).In h) (hx : h.get? x = some (bookO dd es n (.ref F))) (hd : h.get? dd = some od)
    (hQ : Q (.ref F, []) (Sh s₀ h (k + 1))) : wpAny (model PW w) A (getMethod (.ref x) "default_factory" pl) Q E (Sh s₀ h k) := by
  have I : InstAt h x (bookO dd es n (.ref F)) 108 (some od) := ⟨hx, rfl, rfl, hd⟩
  have t1 := I.type (M := model PW w)
  have usual : wpAny (model PW w) A (do return (← getAttr (.ref x) "default_factory", ([] : List Value))) Q E (Sh s₀ h k) := by
    refine wpAny_bind (getT' ga_dd X I ga_108i gk_108 sub_108d (findObj_data cls_108s df_find df_spec df_takes) ?_)
    exact wpAny_call (df_get (k := k + 1) X hx ⟨rfl, wpAny_pure hQ⟩)
  unfold getMethod specialOf
  refine wpAny_bind (wpAny_bind (t1.at ((looks_findIn X ga_108i).at ?_)))
  dsimp only
  refine wpAny_no (nott canon_dd) ?_
  refine wpAny_bind (wpAny_bind (t1.at ((looks_findIn X gk_108).at ?_)))
  refine wpAny_no (nott rfl) ?_
  refine wpAny_bind (wpAny_bind (t1.at ((looks_findIn X df_find).at ?_)))
  dsimp only
  refine wpAny_bind ((Looks.of_pure (M := model PW w) (h := h) df_type).at ?_)
  refine wpAny_yes (by decide) ?_
  exact usual
theorem call_df {o : Expr} {apos pos : Pos} {Q : Value → Shared → Prop}
    (hx : wpAny (model PW w) A (eval o env) (fun ov s₁ => ∃ h₁ k₁ x dd F es n od fd, ov = .ref x ∧ s₁ = Sh s₀ h₁ k₁ ∧ (K0 Pm).In h₁ ∧ h₁.get? x = some (bookO dd es n (.ref F)) ∧ h₁.get? dd = some od ∧ h₁.get? F = some (fnObj fd) ∧
      wpAny (model PW w) A (call (.ref F) [] []) Q E (Sh s₀ h₁ (k₁ + 1))) E (Sh s₀ h k))
    (hbase : attributeBase o "default_factory" env (eval o env) = eval o env := by rfl)
    (hline : (apos.endLine == pos.line) = true := by rfl) :
    wpAny (model PW w) A (eval (.Call (.Attribute o "default_factory" apos) [] [] pos) env) Q E (Sh s₀ h k) := by
  rw [arm_eval_Call, hbase]
  refine wpAny_bind (wpAny_mono hx (fun ov s₁ q => ?_) fun _ _ e => e)
  obtain ⟨h₁, k₁, x, dd, F, es, n, od, fd, rfl, rfl, X, hx, hd, hF, q⟩ := q
  refine wpAny_bind (wpAny_standAt ?_)
  have hform : methodCallForm (([] : List Expr).length + ([] : List Keyword).length) (backTo pos (starEach [] env)) (backToKw pos (keywordEach [] env)) = true := rfl
  have hpos : methodCallPos true o env apos pos = pure pos := by unfold methodCallPos; simp [hline]
  unfold methodCall
  rw [hform]
  refine wpAny_bind (wpAny_holding (method_df X hx hd ?_))
  refine wpAny_bind (wpAny_of_eq hpos ?_)
  exact callWith_function (o := fnObj fd) (fd := fd) (evalArgs_nil3 ⟨⟨hF, rfl⟩, q⟩)
end
section
variable {w : World} {A : Around} {E : Value → Shared → Prop} {R : Result → Shared → Prop} {s₀ : Shared} {B : Heap} {L : Addr} {m : Str → Option Value} {U V U₁ U₂ : List (Addr × Cell)} {h : Heap} {k : Nat} {env : Env} {Pm : Params}
theorem lam_body {Q : Value → Shared → Prop} {x dd F M cs cm c' : Addr} {doc pm ctv : Value} {vs : List Value} {oc ocs od : Obj} {rows : List (Str × Addr)} (S : St B env.locals m [(x, bookC w dd F rows), (M, lst vs)] h) (T : Top1 Pm B) (hA : AOk 4 A) (ok : EOk env)
    (hcells : env.cells = [(("self" : Str), cs)]) (hcs : B.get? cs = some ocs) (hcsx : cellC (some (.ref x)) ocs) (l1 : env.kindOf "self" = some .free) (hd : B.get? dd = some od)
    (hf : B.get? F = some (facObj cm doc pm c' ctv)) (hcd : B.CodeRec (.ref c') facQ) (hcm : B.get? cm = some oc) (hcc : cellC (some (.ref M)) oc) (hn : vs.length ≤ 50000)
    (hQ : ∀ B' h' k' a, Kp B B' → B.get? a = none → St B' env.locals m [(x, bookC w dd F rows), (M, lst (vs ++ [.ref a])), (a, txts [])] h' → Q (.ref a) (Sh s₀ h' k')) :
    Runs w A (eval (lBody lamE) env) Q E (Sh s₀ h k) := by
  refine ⟨?_⟩
  have hk := ok.kind
  obtain ⟨o, hx, es, n, rfl, D⟩ := S.get (a := x) (c := bookC w dd F rows) (.head _)
  refine call_df (nmF (v := .ref x) ⟨ocs, S.keep _ _ hcs, hcsx⟩ hk l1 (by rw [hcells]; rfl) ⟨_, _, x, dd, F, es, n, od, _, rfl, rfl, T.K.keeps S.keep, hx, S.keep _ _ hd, S.keep _ _ hf, ?_⟩)
  exact fac_call (V := [(x, bookC w dd F rows)]) S T (hA.le (by omega)) hf hcd hcm hcc hn fun B' h' k' a kB na S' => hQ B' h' k' a kB na S'
theorem lam_code {Q : Value → Shared → Prop} {f x dd F M cs cm c' cl : Addr} {doc pm ctv pml ctl key : Value} {vs : List Value} {oc ocs od : Obj} {rows : List (Str × Addr)} (S : St B L m (V ++ [(x, bookC w dd F rows), (M, lst vs)]) h) (T : Top1 Pm B) (hA : AOk 6 A)
    (hfl : B.get? f = some (lamObj cs pml cl ctl)) (hcdl : B.CodeRec (.ref cl) lamQ) (hcs : B.get? cs = some ocs) (hcsx : cellC (some (.ref x)) ocs) (hd : h.get? dd = some od) (hdx : dd ≠ x) (hdM : dd ≠ M)
    (hf : B.get? F = some (facObj cm doc pm c' ctv)) (hcd : B.CodeRec (.ref c') facQ) (hcm : B.get? cm = some oc) (hcc : cellC (some (.ref M)) oc) (hn : vs.length ≤ 50000)
    (hQ : ∀ B' h' k' a, Kp B B' → B.get? a = none → St B' L m (V ++ [(x, bookC w dd F rows), (M, lst (vs ++ [.ref a])), (a, txts [])]) h' → Q (.ref a) (Sh s₀ h' k')) :
    codeAny (model PW w) A (.call (.ref f) ⟨[key], []⟩) (fun r s' => match r with | .ok (.ret v) => Q v s' | .ok _ => False | .error e => E e s') (Sh s₀ h k) := by
  have Th : Top1 Pm h := T.keeps S.keep
  refine kla_callFunE (s := Sh s₀ h k) (by have := hA.depth; show A.depth < 1000; omega) (S.keep _ _ hfl) rfl (by rfl) (by rfl) rfl (Heap.CodeRec.keeps hcdl S.keep) ?_
  have hb : bindArgs (kla_fn "<lambda>" lamQ (lArgs lamE) (lBody lamE) (lScope lamE) [(("self" : Str), cs)] pml (.ref cl) ctl) ⟨[key], []⟩ = pure [(("key" : Str), key)] := by with_unfolding_all rfl
  rw [hb]
  refine wpAny_pure (wpAny_newFunctionEnv (show ∀ x ∈ (lScope lamE).names, x.2 ≠ .cell from by decide) (PyProof.Rows.locs (by rfl)) (fun h₁ hns hsb => ⟨Th.top.nolimit.fresh _ hsb, ?_⟩) (by rfl))
  have hk₁ : Kp h h₁ := fun b o e => hsb.extBut b o (Nat.ne_of_lt (Heap.lt_size e)) (Heap.get?_push_of_some _ e)
  generalize he : callEnv (kla_fn "<lambda>" lamQ (lArgs lamE) (lBody lamE) (lScope lamE) [(("self" : Str), cs)] pml (.ref cl) ctl) h.objs.size f = env
  have hl : env.locals = h.objs.size := by subst he; rfl
  have ok : EOk env := by subst he; exact ⟨rfl, rfl, rfl⟩
  have S1 : St h env.locals (fun y => [(("key" : Str), key)].reverse.lookup y) [] h₁ := by
    rw [hl]
    exact ⟨hns, hk₁, get_none_of_ge (Nat.le_refl _), fun p hp => (nomatch hp), List.nodup_nil⟩
  have nd := S.nd
  rw [List.map_append] at nd
  have S2 := S1.lend [(x, bookC w dd F rows), (M, lst vs)] (fun p hp => (S.own p (List.mem_append_right _ hp)).1) (List.nodup_append.mp nd).2.1
  have kB := S.hidden
  have hd' : (hideAll h ([(x, bookC w dd F rows), (M, lst vs)].map (·.1))).get? dd = some od := hideAll_get _ hd (by simp [hdx, hdM])
  have A5 : AOk 5 (A.deeper env) := hA.deeper
  obtain ⟨key⟩ := lam_body (Pm := Pm) (Q := Q) (E := fun e s' => wpAny (model PW w) (A.deeper env) (leaving env e) (fun _ s'' => E e s'') (fun e' s'' => E e' s'') s') (s₀ := s₀) (w := w) (k := k + 1) (A := A.deeper env) S2 (T.keeps kB) (A5.le (by omega)) ok (by subst he; rfl) (kB _ _ hcs) hcsx (by subst he; rfl) hd' (kB _ _ hf) (Heap.CodeRec.keeps hcd kB) (kB _ _ hcm) hcc hn
    fun B₂ h₂ k₂ a k2 na S₃ => by
      obtain ⟨B₅, k5, _, S₅⟩ := S.back S₃ k2
      exact hQ B₅ h₂ k₂ a k5 (kB.none na) S₅
  subst he
  exact kla_codeExpr key
end
end Mine
end
section
open PySem PySem.W PySem.Calls
open Sem (wp)
open PyProof.Rows Builtin Builtin.ObjectAttr
namespace Mine
section
variable {w : World} {A : Around} {E : Value → Shared → Prop} {R : Result → Shared → Prop} {s₀ : Shared} {B : Heap} {L : Addr} {m : Str → Option Value} {U V U₁ U₂ : List (Addr × Cell)} {h : Heap} {k : Nat} {env : Env} {Pm : Params}
theorem noSuch_108 {α : Type} {x dd F : Addr} {es : Array DictEntry} {n : Nat} {name : Str} {Q : α → Shared → Prop} (X : (K0 Pm).In h) (hx : h.get? x = some (bookO dd es n (.ref F))) (hh : A.handled = none) (hn : name.length ≤ 1000)
    (hE : ∀ h' k' e, Heap.NewAttrErr h h' e (.ref x) name → E (.ref e) (Sh s₀ h' k')) : wpAny (model PW w) A (noSuchAttribute (.ref x) name : Sem α) Q E (Sh s₀ h k) := by
  have t1 : Looks (model PW w) h (typeOf (.ref x)) (.ref 108) := (Looks.ld hx).andThen .now
  unfold noSuchAttribute typeNameOfCut shownTypeOf typeNameCut
  refine wpAny_bind (wpAny_bind (wpAny_bind (t1.at (wpAny_no (nott (by decide)) (wpAny_pure ?_)))))
  dsimp only
  refine wpAny_bind ((looks_clsIn X cls_108).at ?_)
  refine wpAny_yes (by decide +kernel) (wpAny_pure ?_)
  refine wpAny_raiseAttrError (s := Sh s₀ h k) hh (fun h' tk e hx => hE h' tk e hx) ?_
  refine attrMsg_fits (Nat.le_of_ble_eq_true (by kernel_rfl)) ?_
  rw [sizeLine_eq]; omega
theorem get_missing {x dd F : Addr} {es : Array DictEntry} {n : Nat} {od : Obj} {name : Str} {tk : Tok} {Q : Value → Shared → Prop} (X : (K0 Pm).In h) (hx : h.get? x = some (bookO dd es n (.ref F))) (hd : h.get? dd = some od) (hh : A.handled = none) (hn : name.length ≤ 1000)
    (hf : findObj (K0 Pm) 108 (some od) name = some .missing)
    (hE : ∀ h' k' e, Heap.NewExcOf h h' e "AttributeError" → E (.ref e) (Sh s₀ h' k')) :
    wpAny (model PW w) A (getAttrBy (.ref x) (.str name tk) false) Q E (Sh s₀ h k) := by
  have I : InstAt h x (bookO dd es n (.ref F)) 108 (some od) := ⟨hx, rfl, rfl, hd⟩
  have G := ga_dd
  have t1 := I.type (M := model PW w)
  have inst : Looks (model PW w) h (isInstance (.ref x) (.type "collections.defaultdict")) true := t1.andThen (looks_subIn X sub_108d)
  have fnd := looks_find (M := model PW w) X I hf
  unfold getAttrBy
  refine wpAny_holding (wpAny_bind (t1.at (wpAny_bind ((looks_findIn X ga_108i).at ?_))))
  dsimp only
  refine wpAny_no (nott (by rfl)) ?_
  unfold getAttrByItsOwn
  refine wpAny_bind ?_
  show wpAny _ _ (typeLookup (.ref 108) "__getattr__") _ _ _
  refine (looks_findIn X gk_108).at ?_
  refine wpAny_bind (wpAny_attempt (wpAny_holding ?_))
  unfold callGetattribute
  refine wpAny_no (nott (by rfl)) ?_
  unfold boundAndCalled
  rw [G.bind]
  refine wpAny_bind (wpAny_pure ?_)
  dsimp only [List.singleton_append]
  refine wpAny_call (codeAny_call_builtin G.plain G.entry (@check_slot (model PW w) _ _ (Sh s₀ h k) "collections.defaultdict.__getattribute__" "collections.defaultdict" "__getattribute__" (.ref x) [.str name tk] [] _ G.kind G.split inst (G.args _ _) ?_))
  refine wpAny_bind (m := slotArgs "__getattribute__" 1 ⟨[.ref x, .str name tk], []⟩) (wpAny_pure ?_)
  refine wpAny_bind (m := attrName (.str name tk)) (wpAny_pure ?_)
  refine wpAny_bind (t1.at (wpAny_bind (fnd.at ?_)))
  dsimp only
  refine wpAny_no (nott (by decide)) (wpAny_no (nott (by decide)) ?_)
  refine noSuch_108 (k := k) X hx hh hn fun h' k' e he => ?_
  have he' := he.of
  obtain ⟨o', vs', hg, hc, _⟩ := he'.there
  show wpAny _ _ (getattributeRaised _ _ _ _ _ _ _) _ _ _
  unfold getattributeRaised
  refine wpAny_bind (wpAny_isInstance (T := "AttributeError") (b := true) ⟨o', hg, hc⟩ sub_AttributeError (wpAny_yes rfl ?_))
  refine wpAny_bind (m := hookBehind (.ref 108) none) (wpAny_pure ?_)
  unfold hookOrError
  dsimp only
  unfold attributeErrorLeaves
  refine wpAny_yes rfl ?_
  first
    | exact wpAny_throw (hE h' k' e he')
    | exact wpAny_bind (wpAny_throw (hE h' k' e he'))
end
section
variable {w : World} {A : Around} {E : Value → Shared → Prop} {R : Result → Shared → Prop} {s₀ : Shared} {B : Heap} {L : Addr} {m : Str → Option Value} {U V U₁ U₂ : List (Addr × Cell)} {h : Heap} {k : Nat} {env : Env} {Pm : Params}
theorem hasDict_108 : hasDictIn (K0 Pm) 108 = true := by kernel_rfl
theorem noGet_frozen : noGet (K0 Pm) none = true := by kernel_rfl
theorem frz_look (P : Params) (x : Option (Tok × Addr)) (n : Nat) : lookIn "_frozen" (dictOf (frzL P x) n) = some (x.map fun p => .ref p.2) := by rw [lookIn_dict]; exact frz_get P x
theorem find_frz (P : Params) (x : Option (Tok × Addr)) (n : Nat) : findObj (K0 Pm) 108 (some (dictOf (frzL P x) n)) "_frozen" = some (match x with | some p => .value (.ref p.2) | none => .missing) := by
  unfold findObj
  rw [cls_108, Option.bind_some, find_frozen, Option.bind_some]
  have ho : PySem.W.ownOf { name := Str.ofString "FreezableDefaultDict", bases := [.type "collections.defaultdict"], mro := [.ref 108, .type "collections.defaultdict", .type "dict", .type "object"], ns := 107, qualname := Str.ofString "FreezableDefaultDict", hasDict := true, slotNames := [Str.ofString ""], subclasses := [], abstract := false, collection := none, hasDel := false } (some (dictOf (frzL P x) n)) "_frozen" = some (x.map fun p => .ref p.2) := by
    unfold PySem.W.ownOf; rw [if_pos rfl]; exact frz_look P x n
  cases x with
  | some p => simp only [Option.bind_some, ho, Option.map_some]
  | none =>
    simp only [Option.bind_some, ho, Option.map_none]
    rw [if_neg (by decide +kernel)]
theorem ask_frozen {x dd F : Addr} {es : Array DictEntry} {n nd : Nat} {fr : Option (Tok × Addr)} {tk : Tok} {Q : Option Value → Shared → Prop} (X : (K0 Pm).In h) (hx : h.get? x = some (bookO dd es n (.ref F))) (hd : h.get? dd = some (dictOf (frzL w.params fr) nd)) (hh : A.handled = none)
    (hQ : ∀ h' k', Kp h h' → Q (fr.map fun p => .ref p.2) (Sh s₀ h' k')) :
    wpAny (model PW w) A (getAttrBy? (.ref x) (.str "_frozen" tk)) Q E (Sh s₀ h k) := by
  have I : InstAt h x (bookO dd es n (.ref F)) 108 (some (dictOf (frzL w.params fr) nd)) := ⟨hx, rfl, rfl, hd⟩
  have hf := find_frz (Pm := Pm) w.params fr nd
  unfold getAttrBy?
  refine wpAny_bind (wpAny_attempt ?_)
  cases fr with
  | some p =>
    refine getT ga_dd X I ga_108i gk_108 sub_108d hf ?_
    exact ⟨rfl, wpAny_pure (hQ h k (Kp.refl _))⟩
  | none =>
    refine get_missing X hx hd hh (by decide) hf fun h' k' e he => ?_
    obtain ⟨o', vs', hg, hc, _⟩ := he.there
    refine wpAny_bind (wpAny_isInstance (T := "AttributeError") (b := true) ⟨o', hg, hc⟩ sub_AttributeError (wpAny_yes rfl (wpAny_pure ?_)))
    exact hQ h' k' he.keeps
theorem kind_getattr : builtinKind "getattr" = none := by kernel_rfl
theorem plain_getattr : plainId "getattr" = true := by decide +kernel
theorem entry_getattr : entryFor table "getattr" = some Builtin.«getattr» := entryFor_of_tree (by kernel_rfl)
theorem args_getattr (a b c : Value) : argsOk "getattr" ⟨[a, b, c], []⟩ := by unfold argsOk; kernel_rfl
theorem getattr_frozen {x dd F : Addr} {es : Array DictEntry} {n nd : Nat} {fr : Option (Tok × Addr)} {tk : Tok} {dflt : Value} {Q : Value → Shared → Prop} (X : (K0 Pm).In h) (hx : h.get? x = some (bookO dd es n (.ref F))) (hd : h.get? dd = some (dictOf (frzL w.params fr) nd)) (hh : A.handled = none)
    (hQ : ∀ h' k', Kp h h' → Q (match fr with | some p => .ref p.2 | none => dflt) (Sh s₀ h' k')) :
    wpAny (model PW w) A (call (.builtin "getattr") [.ref x, .str "_frozen" tk, dflt]) Q E (Sh s₀ h k) := by
  have t1 : Looks (model PW w) h (typeOf (.ref x)) (.ref 108) := (Looks.ld hx).andThen .now
  have i1 : Looks (model PW w) h (isInstance (.ref x) (.type "module")) false := t1.andThen (looks_subIn X sub_108m)
  refine Calls.call_function_entry kind_getattr plain_getattr entry_getattr (args_getattr _ _ _) ?_
  unfold Builtin.«getattr»
  refine wpAny_bind (m := someArgs "getattr" 2 3 _) (wpAny_pure ?_)
  dsimp only
  repeat (first | (with_reducible refine ask_frozen X hx hd hh fun h' k' K' => ?_) | lk)
  cases fr with
  | some p => exact wpAny_pure ⟨_, rfl, hQ h' k' K'⟩
  | none => exact wpAny_no (nott rfl) (wpAny_pure ⟨_, rfl, hQ h' k' K'⟩)
end
end Mine
end
section
open PySem PySem.W PySem.Calls
open Sem (wp)
open PyProof.Rows
namespace Mine
section
variable {P : Ctx → Prop} {w : World} {A : Around} {E : Value → Shared → Prop} {s : Shared} {env : Env}
theorem spliced_consG {x : Sem Value} {rest : List (Bool × Sem Value)} {Q : List Value → Shared → Prop}
    (h : wpG P (model PW w) A x (fun v s₁ => wpG P (model PW w) A (spliced rest) (fun vs s₂ => Q (v :: vs) s₂) E s₁) E s) : wpG P (model PW w) A (spliced ((false, x) :: rest)) Q E s := by
  rw [spliced]
  refine wpG_bind (wpG_mono h (fun v s₁ h₁ => ?_) fun _ _ x => x)
  simp -iota only [Bool.false_eq_true, if_false]
  exact wpG_bind (wpG_pure (wpG_bind (wpG_holding (wpG_mono h₁ (fun vs s₂ h₂ => wpG_pure h₂) fun _ _ x => x))))
theorem evalArgs_plainG {f : Value} {x : Sem Value} {rest : List (Bool × Sem Value)} {Q : Args → Shared → Prop}
    (h : wpG P (model PW w) A (spliced ((false, x) :: rest)) (fun vs s' => Q ⟨vs, []⟩ s') E s) : wpG P (model PW w) A (evalArgs f true ((false, x) :: rest) []) Q E s := by
  unfold evalArgs
  show wpG P (model PW w) A (spliced ((false, x) :: rest) >>= _) Q E s
  refine wpG_bind (wpG_mono h (fun vs s' h' => ?_) fun _ _ x => x)
  refine wpG_holding ?_
  exact wpG_bind (wpG_pure (wpG_bind (wpG_pure (wpG_pure h'))))
theorem callWith_builtinG {pos : Pos} {id : String} {first : List Value} {args : List (Bool × Sem Value)} {Q : Value → Shared → Prop} (hplain : args.any (·.1) = false)
    (h : wpG P (model PW w) A (evalArgs (.builtin id) true args []) (fun a s₁ => wpAny (model PW w) A (call (.builtin id) (first ++ a.pos) a.kw) Q E s₁) E s) :
    wpG P (model PW w) A (callWith pos (.builtin id) first args []) Q E s := by
  unfold callWith
  refine wpG_bind (wpG_holding (wpG_mono h (fun a s₁ h₁ => wpG_standAt ?_) fun _ _ x => x))
  simp -iota only [hplain, List.any_nil, Bool.or_false]
  refine wpG_bind (wpG_pure ?_)
  exact wpG_bind (wpAny.g (wpAny_mono h₁ (fun r s₂ hr => wpAny.g (wpAny_bind (wpAny_holding (wpAny_point (wpAny_pure hr))))) fun _ _ x => x))
noncomputable abbrev AtC (c : Code) : Ctx → Prop := fun Γ => Γ.code = c
theorem wpAt.g {α : Type} {c : Code} {t : Sem α} {Q : α → Shared → Prop} (h : _root_.PySem.wpAt (model PW w) A c t Q E s) : wpG (AtC c) (model PW w) A t Q E s := fun Γ p hΓ hc => h Γ p hc hΓ
theorem wpG.at {α : Type} {c : Code} {t : Sem α} {Q : α → Shared → Prop} (h : wpG (AtC c) (model PW w) A t Q E s) : _root_.PySem.wpAt (model PW w) A c t Q E s := fun Γ p hc hΓ => h Γ p hΓ hc
theorem wpG_Call_Call {f : Expr} {fa : List Expr} {p0 pos : Pos} {args : List Expr} {Q : Value → Shared → Prop}
    (h : wpG P (model PW w) A (eval (.Call f fa [] p0) env) (fun v s₁ => wpG P (model PW w) A (callWith pos v [] (backTo pos (starEach args env)) []) Q E s₁) E s) :
    wpG P (model PW w) A (eval (.Call (.Call f fa [] p0) args [] pos) env) Q E s := by
  show wpG P _ _ (eval (.Call f fa [] p0) env >>= fun v => callWith pos v [] (backTo pos (starEach args env)) (backToKw pos (keywordEach [] env))) _ _ _
  exact wpG_bind h
theorem callB3G {f : Str} {id : String} {np pos : Pos} {e1 e2 e3 : Expr} {Q : Value → Shared → Prop} {s₀ : Shared} {h : Heap} {k : Nat} (T : Top0 h) (ok : EOk env) (hl : env.kindOf f = some .globalImplicit) (hx : (f, .builtin id) ∈ btab)
    (hv : wpAny (model PW w) A (eval e1 env) (fun v s₁ => wpAny (model PW w) A (eval e2 env) (fun u s₂ => wpG P (model PW w) A (eval e3 env) (fun z s₃ => wpAny (model PW w) A (call (.builtin id) [v, u, z] []) Q E s₃) E s₂) E s₁) E (Sh s₀ h k))
    (hs : starEach [e1, e2, e3] env = [(false, eval e1 env), (false, eval e2 env), (false, eval e3 env)] := by rfl) (hd : (f == ("__debug__" : Str)) = false := by decide) :
    wpG P (model PW w) A (eval (.Call (.Name f np) [e1, e2, e3] [] pos) env) Q E (Sh s₀ h k) := by
  rw [arm_eval_Call_Name', hs]
  refine wpG_bind (wpAny.g (nbl T ok hl hx ?_ hd))
  refine callWith_builtinG rfl (evalArgs_plainG ?_)
  refine spliced_consG (wpAny.g (wpAny_mono hv (fun v s₁ q => ?_) fun _ _ e => e))
  refine spliced_consG (wpAny.g (wpAny_mono q (fun u s₂ q => ?_) fun _ _ e => e))
  refine spliced_consG (wpG_mono q (fun z s₃ q => ?_) fun _ _ e => e)
  exact wpAny.g (spliced_nil q)
end
noncomputable def FacR (B : Heap) (F M : Addr) : Prop := ∃ cm c' doc pm ctv oc, B.get? F = some (facObj cm doc pm c' ctv) ∧ B.CodeRec (.ref c') facQ ∧ B.get? cm = some oc ∧ cellC (some (.ref M)) oc
noncomputable def FrzR (B : Heap) (x : Addr) : Option (Tok × Addr) → Prop
  | none => True
  | some p => ∃ cs c' pm ctv oc, B.get? p.2 = some (lamObj cs pm c' ctv) ∧ B.CodeRec (.ref c') lamQ ∧ B.get? cs = some oc ∧ cellC (some (.ref x)) oc
theorem FacR.keeps {B B' : Heap} {F M : Addr} (x : FacR B F M) (k : Kp B B') : FacR B' F M := let ⟨cm, c', doc, pm, ctv, oc, a, b, c, d⟩ := x; ⟨cm, c', doc, pm, ctv, oc, k _ _ a, Heap.CodeRec.keeps b k, k _ _ c, d⟩
theorem FrzR.keeps {B B' : Heap} {x : Addr} {fr : Option (Tok × Addr)} (r : FrzR B x fr) (k : Kp B B') : FrzR B' x fr := by
  cases fr with
  | none => trivial
  | some p => obtain ⟨cs, c', pm, ctv, oc, a, b, c, d⟩ := r; exact ⟨cs, c', pm, ctv, oc, k _ _ a, Heap.CodeRec.keeps b k, k _ _ c, d⟩
section
variable {w : World} {A : Around} {E : Value → Shared → Prop} {R : Result → Shared → Prop} {s₀ : Shared} {B : Heap} {L : Addr} {m : Str → Option Value} {U V U₁ U₂ : List (Addr × Cell)} {h : Heap} {k : Nat} {env : Env} {Pm : Params}
theorem k_86 (X : (K0 Pm).In h) : h.get? 86 = some ⟨.type "cell", none, .cell (some (.ref 108)), #[]⟩ := X _ _ (by kernel_rfl)
noncomputable def f97 : Array Value := #[(.str (Str.ofString "__missing__") 360), (.str (Str.ofString "FreezableDefaultDict.__missing__") 361), (.str (Str.ofString "/claim/cut.py") 362), (.int (39) 0), (.int (2) 0), (.int (0) 0), (.int (0) 0), (.int (3) 0), (.ref 92), (.bool true), (.int (273) 0), (.ref 93), .none, (.ref 94), (.ref 95), (.ref 96), (.int (366) 0), (.int (39) 0), (.str (Str.ofString "/claim/cut.py") 367)]
theorem k_97 (X : (K0 Pm).In h) : h.get? 97 = some ⟨.type "code", none, .fields f97, #[]⟩ := X _ _ (by kernel_rfl)
theorem main_file : ((PW.main.file : Str) == Str.ofString "/claim/cut.py") = true := by decide +kernel
theorem no_super : (PW.main.scope.names.lookup ("super" : Str)).isSome = false := by decide +kernel
noncomputable def missKey (fr : Option (Tok × Addr)) (rows : List (Str × Addr)) (y : Str) (a : Addr) : List (Str × Addr) := match fr with | none => rows ++ [(y, a)] | some _ => rows
theorem miss_body {c : Code} {Q : Flow → Shared → Prop} {x dd F M : Addr} {nd : Nat} {vs : List Value} {rows : List (Str × Addr)} {fr : Option (Tok × Addr)} {y : Str} {t : Tok} {body : List Stmt}
    (hc : c = .func body env) (S : St B env.locals m [(x, bookC w dd F rows), (M, lst vs)] h) (T : Top1 Pm B) (hA : AOk 8 A) (ok : EOk env) (hfu : env.func = some 98) (hco : env.code = .ref 97)
    (hcells : env.cells = [(("__class__" : Str), 86)]) (hd : B.get? dd = some (dictOf (frzL w.params fr) nd)) (hfac : FacR B F M) (hfrz : FrzR B x fr) (hn : vs.length ≤ 50000) (hr : findR rows y = none) (hlen : rows.length ≤ 100000) (hlo : (x == sysModules) = false) (hdx : dd ≠ x) (hdM : dd ≠ M) (hx8 : x ≠ 108)
    (v1 : m "self" = some (.ref x)) (v2 : m "key" = some (.str y t)) (l1 : env.kindOf "self" = some .local) (l2 : env.kindOf "key" = some .local) (l3 : env.kindOf "__class__" = some .free) (g1 : env.kindOf "getattr" = some .globalImplicit) (g2 : env.kindOf "super" = some .globalImplicit)
    (hQ : ∀ B' h' k' a, Kp B B' → B.get? a = none → St B' env.locals m [(x, bookC w dd F (missKey fr rows y a)), (M, lst (vs ++ [.ref a])), (a, txts [])] h' → Q (.ret (.ref a)) (Sh s₀ h' k')) :
    RunsG (AtC c) w A (execs (dBody (inCls 4 1)) env) Q E (Sh s₀ h k) := by
  refine ⟨?_⟩
  have hk := ok.kind
  have hh := hA.handled
  obtain ⟨o, hx, es, n, rfl, D⟩ := S.get (a := x) (c := bookC w dd F rows) (.head _)
  have Xh := T.K.keeps S.keep
  refine wpG_execs_cons (wpG_Return_some (wpG_Call_Call ?_))
  refine callB3G (id := "getattr") (T.top.keeps S.keep) ok g1 (by decide) (nm S hk l1 v1 (c_str ?_))
  rw [arm_eval_Attribute]
  subst hc
  refine wpG_bind (wpAt.g (ks_wpAt_super_base (oc := ⟨.type "code", none, .fields f97, #[]⟩) (fd := missFd) g2 l3 (by decide) hfu (k_98 Xh) rfl (ar := _) (by rfl) hco (k_97 Xh) rfl (by rfl) main_file no_super ?_))
  obtain ⟨mg, mb, a1, a2, a3, a4⟩ := (T.top.keeps S.keep).names
  obtain ⟨q1, q2⟩ := a4 (("super" : Str), .type "super") (by decide)
  refine ks_loadName_global hk g2 (loadGlobal_builtin (env := env) (by rw [ok.globals]; exact a1) q1 (by rw [ok.builtins]; exact a2) q2 ⟨rfl, ?_⟩)
  refine wpAny_loadName_free hk l3 (by rw [hcells]; rfl) ⟨_, k_86 Xh, rfl⟩ ?_
  refine wpAny_loadName_local hk l1 S.ns v1 ?_
  refine ks_wpAny_isType_cls (k_108 Xh) rfl ⟨rfl, ?_⟩
  have hsub : Looks (model PW w) h (isSubtype (.ref 108) (.ref 108)) true := looks_subIn Xh sub_108
  refine ks_wpAny_call_super (k_108 Xh) rfl hx rfl (fun c e => by cases e) hsub fun h₁ hso K₁ => ?_
  refine wpG_standAt ?_
  have hx₁ := K₁ _ _ hx
  have X₁ := Xh.keeps K₁
  refine wpG_bind (wpG_holding (wpAny.g (super_attr (k := k + 1) X₁ hso hx₁ rfl hx8 ?_)))
  refine wpG_bind (wpAny.g (wpAny_letTemporaryGo (wpG_pure ?_)))
  have K₂ : Kp h (h₁.push (boundO x)) := Kp.trans K₁ (Kp.push _ _)
  have hb : (h₁.push (boundO x)).get? h₁.objs.size = some (boundO x) := Heap.get?_push_size _ rfl
  generalize h₁.push (boundO x) = h₂ at K₂ hb ⊢
  generalize h₁.objs.size = b at hb ⊢
  have S₂ := S.mono K₂
  refine getattr_frozen (Xh.keeps K₂) (K₂ _ _ hx) (S₂.keep _ _ hd) hh fun h₃ k₃ K₃ => ?_
  have S₃ := S₂.mono K₃
  refine wpAny.g ?_
  have he : starEach [Expr.Name "key" ⟨40, 61, 40, 64⟩] env = [(false, eval (Expr.Name "key" ⟨40, 61, 40, 64⟩) env)] := by rfl
  have S₃' : St B env.locals m ([] ++ [(x, bookC w dd F rows), (M, lst vs)]) h₃ := S₃
  obtain ⟨cm, c', doc, pm, ctv, oc, f1, f2, f3, f4⟩ := hfac
  cases fr with
  | none =>
    refine callWith_of (P := fun h => h.get? b = some (boundO x)) rfl (fun h' hb' => ⟨.machine, .inr (.inl rfl), (Looks.ld (part := none) hb').andThen .now⟩) (evalArgs_plain (arg1 (nm S₃ hk l2 v2 ⟨K₃ _ _ hb, ?_⟩)))
    refine wpAny_call (ddm_bound ((Xh.keeps K₂).keeps K₃) (K₃ _ _ hb) (K₃ _ _ (K₂ _ _ hx)) ?_)
    exact ddm_code S₃' T (hA.le (by omega)) hlo f1 f2 f3 f4 hn hr hlen fun B' h' k' a kB na S' => hQ B' h' k' a kB na S'
  | some p =>
    obtain ⟨cs, cl, pml, ctl, ocs, g1, g2, g3, g4⟩ := hfrz
    have hfo := S₃.keep _ _ g1
    refine callWith_of (P := fun h => h.get? p.2 = some (lamObj cs pml cl ctl)) rfl (fun h' hb' => ⟨.frame, .inl rfl, (Looks.ld (part := none) hb').andThen .now⟩) (evalArgs_plain (arg1 (nm S₃ hk l2 v2 ⟨hfo, ?_⟩)))
    refine wpAny_call (lam_code S₃' T (hA.le (by omega)) g1 g2 g3 g4 (S₃.keep _ _ hd) hdx hdM f1 f2 f3 f4 hn fun B' h' k' a kB na S' => ?_)
    exact hQ B' h' k' a kB na S'
end
section
variable {w : World} {A : Around} {E : Value → Shared → Prop} {R : Result → Shared → Prop} {s₀ : Shared} {B : Heap} {L : Addr} {m : Str → Option Value} {U V U₁ U₂ : List (Addr × Cell)} {h : Heap} {k : Nat} {env : Env} {Pm : Params}
theorem miss_call {Q : Value → Shared → Prop} {x dd F M : Addr} {vs : List Value} {rows : List (Str × Addr)} {fr : Option (Tok × Addr)} {y : Str} {t : Tok}
    (S : St B L m (V ++ [(x, bookC w dd F rows), (M, lst vs)]) h) (hV : (dd, frzC w.params fr) ∈ V) (T : Top1 Pm B) (hA : AOk 9 A) (hfac : FacR B F M) (hfrz : FrzR B x fr) (hn : vs.length ≤ 50000) (hr : findR rows y = none) (hlen : rows.length ≤ 100000) (hlo : (x == sysModules) = false)
    (hQ : ∀ B' h' k' a, Kp B B' → B.get? a = none → St B' L m (V ++ [(x, bookC w dd F (missKey fr rows y a)), (M, lst (vs ++ [.ref a])), (a, txts [])]) h' → Q (.ref a) (Sh s₀ h' k')) :
    wpAny (model PW w) A (call (.ref 98) [.ref x, .str y t] []) Q E (Sh s₀ h k) := by
  have Th := T.keeps S.keep
  obtain ⟨oD, hD, nd, rfl⟩ := S.get (List.mem_append_left _ hV)
  have ndp := S.nd
  rw [List.map_append] at ndp
  have nd' := List.nodup_append.mp ndp
  have hdx : dd ≠ x := nd'.2.2 dd (List.mem_map_of_mem hV) x (.head _)
  have hdM : dd ≠ M := nd'.2.2 dd (List.mem_map_of_mem hV) M (.tail _ (.head _))
  have nx := (S.own (x, bookC w dd F rows) (List.mem_append_right _ (.head _))).2.2
  have hx8 : x ≠ 108 := fun q => by
    have := k_108 T.K
    dsimp only at nx
    rw [q, this] at nx; cases nx
  refine wpAny_call (ks_codeAny_call_defAt (fd := missFd) (body := dBody (inCls 4 1)) (binds := [(("self" : Str), .ref x), (("key" : Str), .str y t)]) (s := Sh s₀ h k) (by have := hA.depth; show A.depth < 1000; omega) (k_98 Th.K) rfl Th.top.nolimit (c_98 Th.K) rfl (BindsTo.of_eq (by with_unfolding_all rfl)) (show ∀ x ∈ (dScope (inCls 4 1)).names, x.2 ≠ .cell from by decide) (PyProof.Rows.locs (by rfl)) (fun h₁ hns hk₁ => ?_) rfl rfl rfl)
  generalize he : callEnv missFd (Sh s₀ h k).heap.objs.size 98 = env
  have hl : env.locals = h.objs.size := by subst he; rfl
  have ok : EOk env := by subst he; exact ⟨rfl, rfl, rfl⟩
  have S1 : St h env.locals (fun z => [(("self" : Str), Value.ref x), (("key" : Str), .str y t)].reverse.lookup z) [] h₁ := by
    rw [hl]
    exact ⟨hns, hk₁, get_none_of_ge (Nat.le_refl _), fun p hp => (nomatch hp), List.nodup_nil⟩
  have S2 := S1.lend [(x, bookC w dd F rows), (M, lst vs)] (fun p hp => (S.own p (List.mem_append_right _ hp)).1) nd'.2.1
  have kB := S.hidden
  have hd' : (hideAll h ([(x, bookC w dd F rows), (M, lst vs)].map (·.1))).get? dd = some (dictOf (frzL w.params fr) nd) := hideAll_get _ hD (by simp [hdx, hdM])
  have A8 : AOk 8 (A.deeper env) := hA.deeper
  obtain ⟨key⟩ := miss_body (Pm := Pm) (c := .func (dBody (inCls 4 1)) env) (body := dBody (inCls 4 1)) (Q := retQ Q) (E := outE w A env E) (s₀ := s₀) (w := w) (k := k + 2) (A := A.deeper env) rfl S2 (T.keeps kB) A8 ok (by subst he; rfl) (by subst he; rfl) (by subst he; rfl) hd' (hfac.keeps kB) (hfrz.keeps kB) hn hr hlen hlo hdx hdM hx8
    (by rfl) (by rfl) (by subst he; rfl) (by subst he; rfl) (by subst he; rfl) (by subst he; rfl) (by subst he; rfl)
    fun B₂ h₂ k₂ a k2 na S₃ => by
      obtain ⟨B₅, k5, _, S₅⟩ := S.back S₃ k2
      exact hQ B₅ h₂ k₂ a k5 (kB.none na) S₅
  exact key.at
end
section
variable {w : World} {A : Around} {E : Value → Shared → Prop} {R : Result → Shared → Prop} {s₀ : Shared} {B : Heap} {L : Addr} {m : Str → Option Value} {U V U₁ U₂ : List (Addr × Cell)} {h : Heap} {k : Nat} {env : Env} {Pm : Params}
theorem gi_find : findIn (K0 Pm) (.ref 108) "__getitem__" = some (some (.builtin "dict.__getitem__")) := by kernel_rfl
theorem gi_seq {S : Setting} : peek (K0 Pm) S (seqItemTypes.anyM fun n => isSubtype (.ref 108) (.type n)) = some false := by kernel_rfl
theorem gi_bind (v : Value) : bindSpecial (.builtin "dict.__getitem__") v = pure (.builtin "dict.__getitem__", [v]) := F.slot_dict_getitem.bind v
theorem gi_kind : builtinKind "dict.__getitem__" = some .method := by kernel_rfl
theorem ms_find : findIn (K0 Pm) (.ref 108) "__missing__" = some (some (.ref 98)) := by kernel_rfl
theorem fn_98 : typeIn (K0 Pm) (.ref 98) = some (.type "function") := by kernel_rfl
theorem gi_split : splitId "dict.__getitem__" = some ("dict", "__getitem__") := by kernel_rfl
theorem gi_entry : entryFor table "dict.__getitem__" = some Builtin.«dict.__getitem__» := entryFor_of_tree (by kernel_rfl)
theorem gi_plain : plainId "dict.__getitem__" = true := by decide +kernel
theorem gi_args (a b : Value) : argsOk "dict.__getitem__" ⟨[a, b], []⟩ := by unfold argsOk; kernel_rfl
theorem check_method {M : Model} {s : Shared} {i owner n : String} {self : Value} {rest : List Value} {kw : List (Str × Value)} {Q : Unit → Shared → Prop}
    (hk : builtinKind i = some .method) (hs : splitId i = some (owner, n)) (hi : Looks M s.heap (isInstance self (.type owner)) true) (ha : argsOk i ⟨self :: rest, kw⟩) (q : Q () s) :
    wpAny M A (checkBuiltinCall i ⟨self :: rest, kw⟩) Q E s := by
  simp only [checkBuiltinCall, hk, hs]
  refine wpAny_bind (hi.here ?_)
  simp only [Bool.not_true, Bool.false_eq_true, if_false]
  cases hsig : Manifest.signature? i with
  | none => exact wpAny_pure q
  | some sig =>
    simp only [argsOk, hsig] at ha
    have h2 : Bind.checkArgs i sig ⟨self :: rest, kw⟩ = pure () := ha
    show wpAny M A (Bind.checkArgs i sig ⟨self :: rest, kw⟩) Q E s
    rw [h2]; exact wpAny_pure q
theorem book_item {Q : Value → Shared → Prop} {x dd F M : Addr} {vs : List Value} {rows : List (Str × Addr)} {fr : Option (Tok × Addr)} {y : Str} {t : Tok}
    (S : St B L m (V ++ [(x, bookC w dd F rows), (M, lst vs)]) h) (hV : (dd, frzC w.params fr) ∈ V) (T : Top1 Pm B) (hA : AOk 11 A) (hfac : FacR B F M) (hfrz : FrzR B x fr) (hn : vs.length ≤ 50000) (hlen : rows.length ≤ 100000) (hlo : (x == sysModules) = false)
    (hQ1 : ∀ k' a, findR rows y = some a → Q (.ref a) (Sh s₀ h k'))
    (hQ2 : ∀ B' h' k' a, findR rows y = none → Kp B B' → B.get? a = none → St B' L m (V ++ [(x, bookC w dd F (missKey fr rows y a)), (M, lst (vs ++ [.ref a])), (a, txts [])]) h' → Q (.ref a) (Sh s₀ h' k')) :
    wpAny (model PW w) A (getItem (.ref x) (.str y t)) Q E (Sh s₀ h k) := by
  have X := T.K.keeps S.keep
  obtain ⟨o, hx, hbk⟩ := S.get (a := x) (c := bookC w dd F rows) (List.mem_append_right _ (.head _))
  obtain ⟨es, n, rfl, D⟩ := id hbk
  have t1 : Looks (model PW w) h (typeOf (.ref x)) (.ref 108) := (Looks.ld hx).andThen .now
  have inst : Looks (model PW w) h (isInstance (.ref x) (.type "dict")) true := t1.andThen (looks_subIn X sub_108dict)
  unfold getItem
  try with_reducible refine wpAny_holding ?_
  refine wpAny_bind ?_
  unfold sequenceKey
  refine wpAny_bind (t1.at ?_)
  dsimp only
  refine wpAny_bind ((Looks.of_peek X gi_seq).at ?_)
  refine wpAny_yes rfl (wpAny_pure ?_)
  refine wpAny_bind ?_
  unfold callSpecial? specialOf
  refine wpAny_bind (wpAny_bind (t1.at ((looks_findIn X gi_find).at ?_)))
  dsimp only
  refine wpAny_holding ?_
  rw [gi_bind]
  refine wpAny_bind (wpAny_pure (wpAny_bind ?_))
  dsimp only [List.singleton_append]
  refine wpAny_call (codeAny_call_builtin gi_plain gi_entry (@check_method _ _ (model PW w) (Sh s₀ h k) "dict.__getitem__" "dict" "__getitem__" (.ref x) [.str y t] [] _ gi_kind gi_split inst (gi_args _ _) ?_))
  unfold Builtin.«dict.__getitem__» Builtin.Dict.keyArg
  refine wpAny_bind (wpAny_bind (m := Builtin.Dict.nameIsSure _ _ _) (wpAny_pure ?_))
  refine wpAny_bind (m := selfAndOne _ _) (wpAny_pure ?_)
  refine wpAny_bind (wpAny_pure (wpAny_pure ?_))
  dsimp only
  refine wpAny_bind (book_get hx hbk ?_)
  cases hr : findR rows y with
  | some a =>
    refine wpAny_pure ?_
    exact wpAny_pure (wpAny_pure (hQ1 _ a hr))
  | none =>
    simp -iota only [Option.map_none]
    refine wpAny_bind ?_
    unfold Builtin.Dict.missed
    refine wpAny_no (nott hlo) (wpAny_pure ?_)
    dsimp only
    refine wpAny_bind (t1.at (wpAny_yes (by decide) ?_))
    unfold callSpecial? specialOf
    refine wpAny_bind (wpAny_bind (wpAny_bind (t1.at ((looks_findIn X ms_find).at ?_))))
    dsimp only
    refine wpAny_holding (wpAny_bind ((bind_fn X (.ref x) fn_98).at (wpAny_bind ?_)))
    dsimp only [List.singleton_append]
    have A9 : AOk 9 A.in1 := (hA.le (by omega)).in1
    refine miss_call S hV T A9 hfac hfrz hn hr hlen hlo fun B' h' k' a kB na S' => ?_
    refine wpAny_pure (wpAny_bind (wpAny_rule (wpAny_pure ?_)))
    exact wpAny_pure (wpAny_pure (hQ2 B' h' k' a hr kB na S'))
end
noncomputable def itO (o0 : Value) (f : Bool) (d : Addr) (i n ep : Nat) (ok ov : Value) : Obj := { cls := .type "dict_itemiterator", dict := none, data := .fields #[o0, .bool f, .ref d, .int i 0, .int n 0, .int ep 0, ok, ov], slots := #[] }
noncomputable def ItSt (h : Heap) (it d S : Addr) (i n ep : Nat) : Prop :=
  ∃ o0 f ok ov, h.get? it = some (itO o0 f d i n ep ok ov) ∧ (o0 = .none ∨ ∃ (a : Addr) (oa : Obj), o0 = rawInt a ∧ h.get? a = some oa ∧ a ≠ it ∧ a ≠ S)
theorem ItSt.keep {h h' : Heap} {it d S : Addr} {i n ep : Nat} (x : ItSt h it d S i n ep) (hk : ∀ b o, b ≠ S → h.get? b = some o → h'.get? b = some o) (hI : it ≠ S) : ItSt h' it d S i n ep := by
  obtain ⟨o0, f, ok, ov, e, x⟩ := x
  refine ⟨o0, f, ok, ov, hk _ _ hI e, x.imp id fun ⟨a, oa, e1, e2, e3, e4⟩ => ⟨a, oa, e1, hk _ _ e4 e2, e3, e4⟩⟩
theorem owns_it : Builtin.Dict_items.ownsTuple "dict_itemiterator" = true := by decide
section
variable {w : World} {A : Around} {E : Value → Shared → Prop} {R : Result → Shared → Prop} {s₀ : Shared} {B : Heap} {L : Addr} {m : Str → Option Value} {U V U₁ U₂ : List (Addr × Cell)} {h : Heap} {k : Nat} {env : Env} {Pm : Params}
theorem it_item {it d S : Addr} {o : Obj} {es : Array DictEntry} {i ep : Nat} {e : DictEntry} {Q : Option Value → Shared → Prop} (hst : ItSt h it d S i es.size ep) (hod : h.get? d = some o) (hdd : o.data = .dict es ep) (he : es[i]? = some e) (hS : S < h.objs.size)
    (hQ : ∀ h', ItSt h' it d S (i + 1) es.size ep → h'.get? h.objs.size = some (tupO [e.key, e.val]) → (∀ b o, b ≠ it → h.get? b = some o → h'.get? b = some o) → Q (some (.ref h.objs.size)) (Sh s₀ h' k)) :
    wpAny (model PW w) A (pyNext (.ref it)) Q E (Sh s₀ h k) := by
  obtain ⟨o0, f, ok, ov, hit, hout⟩ := hst
  have hT : (Sh s₀ h k).TypeIs (.ref it) "dict_itemiterator" := ⟨_, hit, rfl⟩
  have hlt : i < es.size := (Array.getElem?_eq_some_iff.mp he).1
  have hil : it < h.objs.size := Heap.lt_size hit
  unfold pyNext
  refine wpAny_bind (wpAny_attempt (wpAny_callSpecial?_slot (name := Str.ofString "__next__") hT F.slot_dict_itemiterator_next
    (wpAny_call_entry F.slot_dict_itemiterator_next hT F.entry_dict_itemiterator_next ?_ (F.args_dict_itemiterator_next_1 _))))
  refine wpAny_bind (wpAny_pure ?_)
  refine wpAny_bind (wpAny_bind ?_)
  first | refine wpAny_bind (wpAny_typeNameOfWhole_itemiter hT (wpAny_pure ?_)) | refine wpAny_bind (wpAny_typeNameOf_itemiter hT (wpAny_pure ?_))
  refine wpAny_bind (wpAny_fieldsOf (s := Sh s₀ h k) hit rfl ?_)
  simp -iota only [owns_it, if_true]
  show wpAny _ _ (if (Value.ref d == Value.none) = true then _ else _) _ _ _
  refine wpAny_no (nott rfl) (wpAny_bind (wpAny_pure ?_))
  refine wpAny_bind (wpAny_dictEntries (s := Sh s₀ h k) hod hdd ?_)
  refine wpAny_no (by simp) (wpAny_bind (wpAny_pure ?_))
  refine wpAny_bind (wpAny_dictEpoch (s := Sh s₀ h k) hod hdd ?_)
  refine wpAny_no (by simp) (wpAny_pure ?_)
  simp only [show ¬ ((i : Int) < 0) from by omega, if_false, Int.toNat_natCast, he]
  refine wpAny_bind ?_
  first | refine wpAny_bind (wpAny_typeNameOfWhole_itemiter hT (wpAny_pure ?_)) | refine wpAny_bind (wpAny_typeNameOf_itemiter hT (wpAny_pure ?_))
  refine wpAny_bind (wpAny_isOneOf_itemiter hT ?_)
  show wpAny _ _ (setField (.ref it) 3 (rawInt ((i : Int) + 1)) >>= _) _ _ _
  refine wpAny_bind (wpAny_setField_rec (s := Sh s₀ h k) hit (by simp) fun h₁ he₁ hs₁ => ?_)
  replace hs₁ : Heap.SameBut it h h₁ := hs₁
  replace he₁ : h₁.get? it = some (itO o0 f d (i + 1) es.size ep ok ov) := by
    have e : ((i + 1 : Nat) : Int) = (i : Int) + 1 := by omega
    unfold itO; rw [e]; simpa [rawInt] using he₁
  have hT₁ : (Sh s₀ h₁ k).TypeIs (.ref it) "dict_itemiterator" := ⟨_, he₁, rfl⟩
  refine wpAny_bind (wpAny_holding ?_)
  refine wpAny_bind (wpAny_isOneOf_itemiter hT₁ ?_)
  refine wpAny_bind (wpAny_isOneOf_itemiter hT₁ ?_)
  show wpAny _ _ (Builtin.Dict_items.pairFromOwner (.ref it) 6 e.key e.val) _ _ (Sh s₀ h₁ k)
  unfold Builtin.Dict_items.pairFromOwner
  refine wpAny_bind (wpAny_newTuple ?_)
  have he₂ : (h₁.push (tupO [e.key, e.val])).get? it = some (itO o0 f d (i + 1) es.size ep ok ov) := Heap.get?_push_of_some _ he₁
  have hz₁ : h₁.objs.size = h.objs.size := hs₁.1
  have ht₂ : (h₁.push (tupO [e.key, e.val])).get? h.objs.size = some (tupO [e.key, e.val]) := by rw [← hz₁]; exact Heap.get?_push_size _ rfl
  have hk₂ : ∀ b o, b ≠ it → h.get? b = some o → (h₁.push (tupO [e.key, e.val])).get? b = some o := fun b o hb e => Heap.get?_push_of_some _ (hs₁.extBut b o hb e)
  show wpAny _ _ (Builtin.Dict_items.ownedTupleIsFree (.ref it) >>= _) _ _ (Sh s₀ (h₁.push (tupO [e.key, e.val])) k)
  generalize h₁.push (tupO [e.key, e.val]) = h₂ at he₂ ht₂ hk₂
  rw [hz₁]
  clear he₁ hs₁ hT₁ hz₁
  refine wpAny_bind ?_
  unfold Builtin.Dict_items.ownedTupleIsFree
  refine wpAny_bind (wpAny_field (s := Sh s₀ h₂ k) he₂ rfl (x := o0) rfl ?_)
  rcases hout with rfl | ⟨a, oa, rfl, ha, hai, haS⟩
  · refine wpAny_pure ?_
    simp -iota only [if_true]
    refine wpAny_bind (wpAny_field (s := Sh s₀ h₂ k) he₂ rfl (x := ok) rfl ?_)
    refine wpAny_bind (wpAny_field (s := Sh s₀ h₂ k) he₂ rfl (x := ov) rfl ?_)
    refine wpAny_bind (wpAny_setField_rec (s := Sh s₀ h₂ k) he₂ (by simp) fun h₃ he₃ hs₃ => ?_)
    replace hs₃ : Heap.SameBut it h₂ h₃ := hs₃
    replace he₃ : h₃.get? it = some (itO .none f d (i + 1) es.size ep e.key ov) := he₃
    refine wpAny_bind (wpAny_setField_rec (s := Sh s₀ h₃ k) he₃ (by simp) fun h₄ he₄ hs₄ => ?_)
    replace hs₄ : Heap.SameBut it h₃ h₄ := hs₄
    replace he₄ : h₄.get? it = some (itO .none f d (i + 1) es.size ep e.key e.val) := he₄
    refine wpAny_bind (wpAny_setField_rec (s := Sh s₀ h₄ k) he₄ (by simp) fun h₅ he₅ hs₅ => ?_)
    replace hs₅ : Heap.SameBut it h₄ h₅ := hs₅
    replace he₅ : h₅.get? it = some (itO (rawInt h.objs.size) f d (i + 1) es.size ep e.key e.val) := he₅
    refine wpAny_bind (wpAny_setField_rec (s := Sh s₀ h₅ k) he₅ (by simp) fun h₆ he₆ hs₆ => ?_)
    replace hs₆ : Heap.SameBut it h₅ h₆ := hs₆
    replace he₆ : h₆.get? it = some (itO (rawInt h.objs.size) false d (i + 1) es.size ep e.key e.val) := he₆
    have up : ∀ b o, b ≠ it → h₂.get? b = some o → h₆.get? b = some o := fun b o hb e => hs₆.extBut b o hb (hs₅.extBut b o hb (hs₄.extBut b o hb (hs₃.extBut b o hb e)))
    have ht := up _ _ (Nat.ne_of_gt hil) ht₂
    exact wpAny_bind (wpAny_letGo (wpAny_pure (wpAny_pure ⟨_, rfl, wpAny_pure (hQ h₆ ⟨_, _, _, _, he₆, .inr ⟨_, _, rfl, ht, Nat.ne_of_gt hil, Nat.ne_of_gt hS⟩⟩ ht fun b o hb e => up b o hb (hk₂ b o hb e))⟩)))
  · have ha₂ : h₂.get? a = some oa := hk₂ a oa hai ha
    show wpAny _ _ (loadIfAlive ((a : Int).toNat) >>= _) _ _ _
    rw [Int.toNat_natCast]
    refine wpAny_bind (kdx_alive (s := Sh s₀ h₂ k) ha₂ ?_)
    simp -iota only [Option.isNone_some, Bool.false_eq_true, if_false]
    refine wpAny_bind (wpAny_field (s := Sh s₀ h₂ k) he₂ rfl (x := .bool f) rfl ?_)
    have fin : ∀ h₃ : Heap, h₃.get? it = some (itO (rawInt a) true d (i + 1) es.size ep ok ov) → (∀ b o, b ≠ it → h₂.get? b = some o → h₃.get? b = some o) → Q (some (.ref h.objs.size)) (Sh s₀ h₃ k) := fun h₃ he₃ up =>
      hQ h₃ ⟨_, _, _, _, he₃, .inr ⟨_, _, rfl, up _ _ hai ha₂, hai, haS⟩⟩ (up _ _ (Nat.ne_of_gt hil) ht₂) fun b o hb e => up b o hb (hk₂ b o hb e)
    cases f with
    | true =>
      refine wpAny_no (nott rfl) (wpAny_pure ?_)
      simp -iota only [Bool.false_eq_true, if_false]
      exact wpAny_pure (wpAny_pure ⟨_, rfl, wpAny_pure (fin h₂ he₂ fun _ _ _ e => e)⟩)
    | false =>
      refine wpAny_yes rfl ?_
      refine wpAny_bind (wpAny_setField_rec (s := Sh s₀ h₂ k) he₂ (by simp) fun h₃ he₃ hs₃ => ?_)
      replace hs₃ : Heap.SameBut it h₂ h₃ := hs₃
      replace he₃ : h₃.get? it = some (itO (rawInt a) true d (i + 1) es.size ep ok ov) := he₃
      refine wpAny_pure ?_
      simp -iota only [Bool.false_eq_true, if_false]
      exact wpAny_pure (wpAny_pure ⟨_, rfl, wpAny_pure (fin h₃ he₃ hs₃.extBut)⟩)
theorem it_end {it d S : Addr} {o : Obj} {es : Array DictEntry} {ep : Nat} {Q : Option Value → Shared → Prop} (hh : A.handled = none) (hst : ItSt h it d S es.size es.size ep) (hod : h.get? d = some o) (hdd : o.data = .dict es ep)
    (hQ : ∀ h', Heap.ExtBut it h h' → Q none (Sh s₀ h' k)) : wpAny (model PW w) A (pyNext (.ref it)) Q E (Sh s₀ h k) := by
  obtain ⟨o0, f, ok, ov, hit, -⟩ := hst
  have hT : (Sh s₀ h k).TypeIs (.ref it) "dict_itemiterator" := ⟨_, hit, rfl⟩
  unfold pyNext
  refine wpAny_bind (wpAny_attempt (wpAny_callSpecial?_slot (name := Str.ofString "__next__") hT F.slot_dict_itemiterator_next
    (wpAny_call_entry F.slot_dict_itemiterator_next hT F.entry_dict_itemiterator_next ?_ (F.args_dict_itemiterator_next_1 _))))
  refine wpAny_bind (wpAny_pure ?_)
  refine wpAny_bind (wpAny_bind ?_)
  first | refine wpAny_bind (wpAny_typeNameOfWhole_itemiter hT (wpAny_pure ?_)) | refine wpAny_bind (wpAny_typeNameOf_itemiter hT (wpAny_pure ?_))
  refine wpAny_bind (wpAny_fieldsOf (s := Sh s₀ h k) hit rfl ?_)
  simp -iota only [owns_it, if_true]
  show wpAny _ _ (if (Value.ref d == Value.none) = true then _ else _) _ _ _
  refine wpAny_no (nott rfl) (wpAny_bind (wpAny_pure ?_))
  refine wpAny_bind (wpAny_dictEntries (s := Sh s₀ h k) hod hdd ?_)
  refine wpAny_no (by simp) (wpAny_bind (wpAny_pure ?_))
  refine wpAny_bind (wpAny_dictEpoch (s := Sh s₀ h k) hod hdd ?_)
  refine wpAny_no (by simp) (wpAny_pure ?_)
  simp only [show ¬ (((es.size : Nat) : Int) < 0) from by omega, if_false, Int.toNat_natCast, Array.getElem?_size]
  refine wpAny_bind ?_
  first | refine wpAny_bind (wpAny_typeNameOfWhole_itemiter hT (wpAny_pure ?_)) | refine wpAny_bind (wpAny_typeNameOf_itemiter hT (wpAny_pure ?_))
  show wpAny _ _ (setField (.ref it) 2 .none >>= _) _ _ _
  refine wpAny_bind (wpAny_setField (s := Sh s₀ h k) hit rfl (by simp) ?_)
  show wpAny _ _ (newExc (.type "StopIteration") [] >>= _) _ _ _
  refine wpAny_bind ?_
  simp -iota only [newExc, newTuple]
  refine wpAny_bind (wpAny_newObj_type ?_ (by size_fits))
  refine wpAny_bind (m := firstArgMember _ _) (wpAny_of_eq (a := Value.none) (by first | rfl | (simp -iota only [firstArgMember]; rfl)) ?_)
  refine wpAny_newObj_type ?_ (by size_fits)
  simp -iota only [raiseNew]
  refine wpAny_bind (wpAny_handled ?_)
  rw [show A.in1.handled = none from hh]
  refine wpAny_bind (wpAny_pure (wpAny_throw ?_))
  refine wpAny_bind (wpAny_isInstance (T := "StopIteration") (b := true) ⟨_, Heap.get?_push_size _ rfl, rfl⟩ isSubtype_stop ?_)
  exact wpAny_pure (hQ _ (((Heap.SameBut.update ..).extBut.push _).push _))
end
structure ItG (es : Array DictEntry) (lo : Addr) (h : Heap) (as : List Addr) : Prop where
  above : ∀ a ∈ as, lo < a
  pairs : ∀ (j : Nat) (a : Addr), as[j]? = some a → ∃ e, es[j]? = some e ∧ h.get? a = some (tupO [e.key, e.val])
theorem ItG.keep {es : Array DictEntry} {lo : Addr} {h h' : Heap} {as : List Addr} (x : ItG es lo h as) (k : ∀ b o, lo < b → h.get? b = some o → h'.get? b = some o) : ItG es lo h' as :=
  ⟨x.above, fun j a e => let ⟨e', e1, e2⟩ := x.pairs j a e; ⟨e', e1, k a _ (x.above a (List.mem_of_getElem? e)) e2⟩⟩
section
variable {w : World} {A : Around} {E : Value → Shared → Prop} {R : Result → Shared → Prop} {s₀ : Shared} {B : Heap} {L : Addr} {m : Str → Option Value} {U V U₁ U₂ : List (Addr × Cell)} {h : Heap} {k : Nat} {env : Env} {Pm : Params}
theorem it_loop {S I d : Addr} {o : Obj} {es : Array DictEntry} {ep : Nat} (hh : A.handled = none) (hSI : S < I) (hSd : d ≠ S) (hId : d ≠ I) (hn : es.size ≤ sizeLine) (hdd : o.data = .dict es ep) {h₁ : Heap}
    (hR : ∀ h' k' acc c as, (∀ b o, b ≠ S → b ≠ I → h₁.get? b = some o → h'.get? b = some o) → h'.get? S = some { cls := .type "list", dict := none, data := .seq acc c, slots := #[] } → as.length = es.size → ItG es I h' as →
      acc.toList = as.map Value.ref → R (.ok (.ret .none)) (Sh s₀ h' k')) :
    ∀ (n i : Nat) (h : Heap) (k c : Nat) (acc : Array Value) (as : List Addr), i + n = es.size → ItSt h I d S i es.size ep → h.get? d = some o → (∀ b o, b ≠ S → b ≠ I → h₁.get? b = some o → h.get? b = some o) →
      h.get? S = some { cls := .type "list", dict := none, data := .seq acc c, slots := #[] } → acc.toList = as.map Value.ref → as.length = i → ItG es I h as → I < h.objs.size →
      codeAny (model PW w) A (.builtin "list.extend.loop" ⟨[.ref S, .ref I, .none], []⟩) R (Sh s₀ h k) := by
  have hne : S ≠ I := Nat.ne_of_lt hSI
  intro n
  induction n with
  | zero =>
    intro i h k c acc as hi hst hD hkeep hS hacc hal hG hIs
    obtain rfl : i = es.size := by omega
    refine codeAny_builtin F.entry_extend_loop ?_
    rw [Around.under_plainId F.plain_extend_loop _]
    show wpAny _ A.in1 (pyNext (.ref I) >>= _) _ _ _
    refine wpAny_bind (it_end (A := A.in1) hh hst hD hdd fun h' he => ?_)
    exact wpAny_pure (hR h' k acc c as (fun b o h1 h2 e => he b o h2 (hkeep b o h1 h2 e)) (he S _ hne hS) (by omega) (hG.keep fun b o hb e => he b o (Nat.ne_of_gt hb) e) hacc)
  | succ n ih =>
    intro i h k c acc as hi hst hD hkeep hS hacc hal hG hIs
    obtain ⟨e, hx⟩ : ∃ e, es[i]? = some e := ⟨es[i], Array.getElem?_eq_getElem (by omega)⟩
    have hsz : acc.size = i := by rw [← Array.length_toList, hacc, List.length_map, hal]
    have hSl : S < h.objs.size := Heap.lt_size hS
    refine codeAny_builtin F.entry_extend_loop ?_
    rw [Around.under_plainId F.plain_extend_loop _]
    show wpAny _ A.in1 (pyNext (.ref I) >>= _) _ _ _
    refine wpAny_bind (it_item (A := A.in1) (S := S) hst hD hdd hx hSl fun h' hst' ht hkp => ?_)
    dsimp only
    have hS' := hkp S _ hne hS
    have up : ∀ b o, b ≠ S → h'.get? b = some o → (h'.update S (Obj.mapSeq (·.push (Value.ref h.objs.size)))).get? b = some o := fun b o hb e => (Heap.get?_update_other _ _ (Ne.symm hb)).trans e
    have hnew := up _ _ (Nat.ne_of_gt hSl) ht
    show wpAny _ A.in1 (updateSeq S (·.push (Value.ref h.objs.size)) >>= _) _ _ _
    refine wpAny_bind ?_
    refine wpAny_updateSeq (s := Sh s₀ h' k) hS' rfl (wpAny_pure ⟨plainId_quiet F.plain_extend_loop _, ih (i + 1) _ k _ (acc.push (Value.ref h.objs.size)) (as ++ [h.objs.size]) (by omega) (hst'.keep up (Ne.symm hne)) (up _ _ hSd (hkp _ _ hId hD))
      (fun b o h1 h2 e => up b o h1 (hkp b o h2 (hkeep b o h1 h2 e))) (Heap.get?_update_self _ hS' rfl) (by rw [Array.toList_push, hacc, List.map_append]; rfl) (by rw [List.length_append, hal]; rfl) ⟨?_, ?_⟩ (Nat.lt_trans hIs (Heap.lt_size hnew))⟩) (by rw [hsz]; omega) (by show (acc.push (Value.ref h.objs.size)).size ≤ sizeLine + 1; rw [Array.size_push, hsz]; omega)
    · intro a ha
      rcases List.mem_append.mp ha with ha | ha
      · exact hG.above a ha
      · rw [List.mem_singleton.mp ha]; exact hIs
    · intro j b hj
      rcases Nat.lt_trichotomy j as.length with h1 | h1 | h1
      · rw [List.getElem?_append_left h1] at hj
        obtain ⟨e', e1, e2⟩ := hG.pairs j b hj
        have hb := hG.above b (List.mem_of_getElem? hj)
        exact ⟨e', e1, up b _ (Nat.ne_of_gt (Nat.lt_trans hSI hb)) (hkp b _ (Nat.ne_of_gt hb) e2)⟩
      · subst h1
        have hb : h.objs.size = b := by simpa using hj
        subst hb
        exact ⟨e, by rw [hal]; exact hx, hnew⟩
      · have hnone : (as ++ [h.objs.size])[j]? = none := List.getElem?_eq_none (by rw [List.length_append, List.length_singleton]; omega)
        rw [hnone] at hj; cases hj
theorem it_iter {v d : Addr} {o : Obj} {es : Array DictEntry} {ep : Nat} {Q : Value → Shared → Prop} (hv : h.IsItemsView v d) (hd : h.get? d = some o) (hdd : o.data = .dict es ep)
    (hQ : Q (.ref h.objs.size) (Sh s₀ (h.push (itO .none false d 0 es.size ep .none .none)) k)) : wpAny (model PW w) A (pyIter (.ref v)) Q E (Sh s₀ h k) := by
  obtain ⟨ov, hov, hcv, hdv⟩ := id hv
  have hT : (Sh s₀ h k).TypeIs (.ref v) "dict_items" := ⟨_, hov, hcv⟩
  refine wpAny_pyIter_slot hT F.slot_dict_items_iter (wpAny_call_entry F.slot_dict_items_iter hT F.entry_dict_items_iter ?_ (F.args_dict_items_iter_1 _))
  unfold Builtin.«dict_items.__iter__»
  refine wpAny_bind (wpAny_pure ?_)
  refine wpAny_bind ?_
  unfold Builtin.Dict_items.dictOf
  refine wpAny_bind (wpAny_field (s := Sh s₀ h k) hov hdv (x := .ref d) rfl (wpAny_pure ?_))
  refine wpAny_bind ?_
  unfold Builtin.Dict_items.newIterator
  refine wpAny_bind (wpAny_dictEntries (s := Sh s₀ h k) hd hdd ?_)
  refine wpAny_bind (wpAny_dictEpoch (s := Sh s₀ h k) hd hdd ?_)
  simp -iota only [owns_it, if_true]
  refine wpAny_newObj_type (wpAny_pure ⟨_, rfl, "dict_itemiterator", _, ⟨_, Heap.get?_push_size _ rfl, rfl⟩, F.slot_dict_itemiterator_next.lookup, ?_⟩)
    (by simp only [sizeOk, Builtin.Dict_items.ownedTupleFields, List.size_toArray, List.length_append, List.length_cons, List.length_nil, sizeLine_eq]; omega)
  exact hQ
theorem it_list {r d : Addr} {o : Obj} {es : Array DictEntry} {ep : Nat} {Q : Value → Shared → Prop} (hh : A.handled = none) (hv : h.IsItemsView r d) (hdo : h.get? d = some o) (hdd : o.data = .dict es ep) (hn : es.size ≤ sizeLine)
    (hQ : ∀ h' k' c as, Kp h h' → h'.get? h.objs.size = some { cls := .type "list", data := .seq (as.map Value.ref).toArray c } → as.length = es.size → ItG es h.objs.size h' as → Q (.ref h.objs.size) (Sh s₀ h' k')) :
    wpAny (model PW w) A (call (.type "list") [.ref r]) Q E (Sh s₀ h k) := by
  refine callType_codes (Q₁ := fun obj s₁ => obj = .ref h.objs.size ∧ s₁ = Sh s₀ (h.push { cls := .type "list", data := .seq #[] }) k) F.called_list (F.typeCall_list_1 _) F.entry_list_init
    (code_list_new _ ⟨rfl, rfl⟩) fun obj s₁ h₁ => ?_
  obtain ⟨rfl, rfl⟩ := h₁
  have hS : (h.push { cls := .type "list", data := .seq #[] }).get? h.objs.size = some { cls := .type "list", data := .seq #[] } := Heap.get?_push_size _ rfl
  have hr : r ≠ h.objs.size := let ⟨_, ho, _⟩ := hv; Nat.ne_of_lt (Heap.lt_size ho)
  have hd : d ≠ h.objs.size := Nat.ne_of_lt (Heap.lt_size hdo)
  refine ⟨⟨_, hS, rfl⟩, F.args_list_init_2 _ _, ?_⟩
  have hv' : (h.push { cls := .type "list", data := .seq #[] }).IsItemsView r d := let ⟨o, ho, x⟩ := hv; ⟨o, Heap.get?_push_of_some _ ho, x⟩
  have hd' := Heap.get?_push_of_some { cls := .type "list", data := .seq #[] } hdo
  have kp₁ := Kp.push h { cls := .type "list", data := .seq #[] }
  generalize h.push { cls := .type "list", data := .seq #[] } = h₁ at hS hv' hd' kp₁
  generalize hSe : h.objs.size = S at *
  show wpAny _ _ (do let old ← Builtin.List.listItems (.ref S); Builtin.List.listUpdate (.ref S) (fun _ => #[]); letGo old.toList.reverse; Builtin.List.listExtendWith (.ref S) (.ref r) .none) _ _ (Sh s₀ h₁ k)
  refine wpAny_bind ?_
  unfold Builtin.List.listItems
  refine wpAny_bind (wpAny_seqItems (s := Sh s₀ h₁ k) hS rfl (wpAny_pure ?_))
  show wpAny _ _ (updateSeq S (fun _ => #[]) >>= fun _ => letGo (#[] : Array Value).toList.reverse >>= fun _ => Builtin.List.listExtendWith (.ref S) (.ref r) .none) _ _ _
  refine wpAny_bind (wpAny_updateSeq (s := Sh s₀ h₁ k) hS rfl ?_)
  have hS₂ := Heap.get?_update_self (Obj.mapSeq (fun _ => (#[] : Array Value))) hS rfl
  have oth : ∀ b o, b ≠ S → h₁.get? b = some o → (h₁.update S (Obj.mapSeq (fun _ => (#[] : Array Value)))).get? b = some o := fun b o hb e => (Heap.get?_update_other _ _ (Ne.symm hb)).trans e
  refine wpAny_bind (wpAny_letGo ?_)
  have hv₂ : (h₁.update S (Obj.mapSeq (fun _ => (#[] : Array Value)))).IsItemsView r d := let ⟨o, ho, x⟩ := hv'; ⟨o, oth r o hr ho, x⟩
  have hd₂ := oth _ _ hd hd'
  have kp₂ : ∀ b o, b ≠ S → h.get? b = some o → (h₁.update S (Obj.mapSeq (fun _ => (#[] : Array Value)))).get? b = some o := fun b o hb e => oth b o hb (kp₁ _ _ e)
  show wpAny _ _ _ _ _ (Sh s₀ (h₁.update S (Obj.mapSeq (fun _ => (#[] : Array Value)))) k)
  generalize h₁.update S (Obj.mapSeq (fun _ => (#[] : Array Value))) = h₂ at hS₂ hv₂ hd₂ kp₂
  have hSI : S < h₂.objs.size := Heap.lt_size hS₂
  have hdI : d ≠ h₂.objs.size := Nat.ne_of_lt (Heap.lt_size hd₂)
  have key : ∀ (h₃ : Heap) (c₁ k₁ : Nat), (∀ b o, b ≠ S → (h₂.push (itO .none false d 0 es.size ep .none .none)).get? b = some o → h₃.get? b = some o) → h₃.get? S = some { cls := .type "list", data := .seq #[] c₁ } →
      codeAny (model PW w) A.in1 (.builtin "list.extend.loop" ⟨[.ref S, .ref h₂.objs.size, .none], []⟩) (wants (fun r s₂ => r = Value.none ∧ Q (.ref S) s₂) E) (Sh s₀ h₃ k₁) := by
    intro h₃ c₁ k₁ hk hS₃
    have hI := hk _ _ (Nat.ne_of_gt hSI) (Heap.get?_push_size _ rfl)
    refine it_loop (A := A.in1) (h₁ := h₂) (o := o) hh hSI hd hdI hn hdd (fun h' k' acc c as hk' hS' hl hG hacc => ⟨rfl, ?_⟩) es.size 0 h₃ k₁ c₁ #[] [] (by omega) ⟨_, _, _, _, hI, .inl rfl⟩ (hk d o hd (Heap.get?_push_of_some _ hd₂))
      (fun b o hb _ e => hk b o hb (Heap.get?_push_of_some _ e)) hS₃ rfl rfl ⟨(fun _ ha => nomatch ha), (fun j a hj => by simp at hj)⟩ (Heap.lt_size hI)
    refine hQ h' k' c as (fun b o e => ?_) (by rw [hS', ← hacc]) hl ⟨fun a ha => Nat.lt_trans hSI (hG.above a ha), hG.pairs⟩
    have hbS : b ≠ S := by rw [← hSe]; exact Nat.ne_of_lt (Heap.lt_size e)
    have e₂ := kp₂ b o hbS e
    exact hk' b o hbS (Nat.ne_of_lt (Heap.lt_size e₂)) e₂
  unfold Builtin.List.listExtendWith
  refine wpAny_bind (wpAny_typeOf (T := "dict_items") hv₂.typeIs ?_)
  have h1 : Builtin.List.listSameRef (.ref S) (.ref r) = false := by simp [Builtin.List.listSameRef, Ne.symm hr]
  have h2 : (Value.type "dict_items" == Value.type "list") = false := by decide
  have h3 : (Value.type "dict_items" == Value.type "tuple") = false := by decide
  simp -iota only [h1, h2, h3, Bool.or_false, Bool.false_eq_true, if_false]
  refine wpAny_bind (it_iter hv₂ hd₂ hdd ?_)
  have hS₄ := Heap.get?_push_of_some (itO .none false d 0 es.size ep .none .none) hS₂
  refine wpAny_bind (wpAny_holding (kdx_hint (s := Sh s₀ _ k) (let ⟨o, ho, hc, _⟩ := hv₂; ⟨o, Heap.get?_push_of_some _ ho, hc⟩) ?_))
  refine wpAny_ite_split (fun _ => ?_) (fun _ => wpAny_pure ⟨plainId_quiet F.plain_extend_loop _, key _ _ _ (fun b o _ e => e) hS₄⟩)
  refine wpAny_bind (wpAny_rule ?_)
  refine wpAny_bind ?_
  show wpAny _ _ (updateSeq S (·.push .none) >>= fun _ => updateSeq S (·.pop)) _ _ _
  refine wpAny_bind (wpAny_updateSeq (s := Sh s₀ _ k) hS₄ rfl ?_)
  have hS₅ := Heap.get?_update_self (Obj.mapSeq (·.push Value.none)) hS₄ rfl
  refine wpAny_updateSeq (s := Sh s₀ _ k) (hz := by seq_fits) hS₅ rfl ?_
  have hS₆ := Heap.get?_update_self (Obj.mapSeq (·.pop)) hS₅ rfl
  refine wpAny_pure ⟨plainId_quiet F.plain_extend_loop _, key _ _ _ (fun b o hb e => ?_) hS₆⟩
  exact (Heap.get?_update_other _ _ (Ne.symm hb)).trans ((Heap.get?_update_other _ _ (Ne.symm hb)).trans e)
end
section
variable {w : World} {A : Around} {E : Value → Shared → Prop} {R : Result → Shared → Prop} {s₀ : Shared} {B : Heap} {L : Addr} {m : Str → Option Value} {U V U₁ U₂ : List (Addr × Cell)} {h : Heap} {k : Nat} {env : Env} {Pm : Params}
theorem dict_type : typeIn (K0 Pm) (.ref 105) = some (.type "function") := by kernel_rfl
theorem find_items : findIn (K0 Pm) (.ref 108) "items" = some (some (.builtin "dict.items")) := by kernel_rfl
theorem find_freeze : findIn (K0 Pm) (.ref 108) "freeze" = some (some (.ref 105)) := by kernel_rfl
theorem di_kind : builtinKind "dict.items" = some .method := by kernel_rfl
theorem di_split : splitId "dict.items" = some ("dict", "items") := by kernel_rfl
theorem frz_no {P : Params} {x : Option (Tok × Addr)} {name : Str} (hn : (name == ("_frozen" : Str)) = false) : getL name (frzL P x) = some none := by
  cases x with
  | none => rfl
  | some p =>
    unfold getL frzL
    have : ([(⟨PyData.keyHash P "_frozen", .str "_frozen" p.1, .ref p.2⟩ : DictEntry)].find? (·.key.isStr name)) = none := by
      rw [List.find?_eq_none]; intro e he; simp at he; subst he
      show ¬ (Value.isStr (.str "_frozen" p.1) name) = true
      simp only [Value.isStr]
      rw [Bool.not_eq_true, ← hn, Bool.eq_iff_iff, beq_iff_eq, beq_iff_eq]
      exact eq_comm
    rw [this]; rfl
theorem method108 {x dd F : Addr} {es : Array DictEntry} {n nd : Nat} {fr : Option (Tok × Addr)} {name : Str} {f : Value} {T : String} {pl : Sem Bool} {Q : Value × List Value → Shared → Prop} (X : (K0 Pm).In h) (hx : h.get? x = some (bookO dd es n (.ref F))) (hd : h.get? dd = some (dictOf (frzL w.params fr) nd))
    (hf : findIn (K0 Pm) (.ref 108) name = some (some f)) (hn : (name == ("_frozen" : Str)) = false) (ht : Looks (model PW w) h (typeOf f) (.type T)) (hT : (Value.type T != .type "function" && Value.type T != .type "method_descriptor" && Value.type T != .type "wrapper_descriptor") = false)
    (hQ : Q (f, [.ref x]) (Sh s₀ h k)) : wpAny (model PW w) A (getMethod (.ref x) name pl) Q E (Sh s₀ h k) := by
  have I : InstAt h x (bookO dd es n (.ref F)) 108 (some (dictOf (frzL w.params fr) nd)) := ⟨hx, rfl, rfl, hd⟩
  have t1 := I.type (M := model PW w)
  unfold getMethod specialOf
  refine wpAny_bind (wpAny_bind (t1.at ((looks_findIn X ga_108i).at ?_)))
  dsimp only
  refine wpAny_no (nott canon_dd) ?_
  refine wpAny_bind (wpAny_bind (t1.at ((looks_findIn X gk_108).at ?_)))
  refine wpAny_no (nott rfl) ?_
  refine wpAny_bind (wpAny_bind (t1.at ((looks_findIn X hf).at ?_)))
  dsimp only
  refine wpAny_bind (ht.at ?_)
  refine wpAny_no (nott hT) ?_
  refine wpAny_bind ((Looks.ld hx).at ?_)
  show wpAny _ _ (nsGet dd name >>= _) _ _ _
  refine wpAny_bind (wpAny_bind (wpAny_loadPart hd ?_))
  rw [nsLook_of (by rw [lookIn_dict]; exact frz_no hn)]
  refine wpAny_pure ?_
  refine wpAny_no (nott rfl) ?_
  exact wpAny_bind (wpAny_rule (wpAny_pure hQ))
theorem book_view {x dd F : Addr} {es : Array DictEntry} {n : Nat} {Q : Value → Shared → Prop} (X : (K0 Pm).In h) (hx : h.get? x = some (bookO dd es n (.ref F))) (hlo : (x == sysModules) = false)
    (hQ : Q (.ref h.objs.size) (Sh s₀ (h.push { cls := .type "dict_items", data := .fields #[.ref x] }) k)) :
    wpAny (model PW w) A (call (.builtin "dict.items") [.ref x]) Q E (Sh s₀ h k) := by
  have t1 : Looks (model PW w) h (typeOf (.ref x)) (.ref 108) := (Looks.ld hx).andThen .now
  have inst : Looks (model PW w) h (isInstance (.ref x) (.type "dict")) true := t1.andThen (looks_subIn X sub_108dict)
  have noO : Looks (model PW w) h (isInstance (.ref x) (.type "collections.OrderedDict")) false := t1.andThen (looks_subIn X sub_108o)
  refine wpAny_call (codeAny_call_builtin PySem.F.slot_dict_items.plain PySem.F.entry_dict_items (@check_method _ _ (model PW w) (Sh s₀ h k) "dict.items" "dict" "items" (.ref x) [] [] _ di_kind di_split inst (PySem.F.args_dict_items_1 _) ?_))
  unfold Builtin.«dict.items»
  refine wpAny_bind ?_
  unfold Builtin.Dict.noArgs
  refine wpAny_bind ?_
  unfold Builtin.Dict.notOrdered
  refine wpAny_yes (by decide) ?_
  refine wpAny_bind (t1.at (wpAny_yes (by decide) ?_))
  refine wpAny_bind (noO.at (wpAny_no (nott rfl) (wpAny_pure ?_)))
  refine wpAny_bind (m := Builtin.Dict.nameIsSure _ _ _) (wpAny_pure ?_)
  dsimp only
  try refine wpAny_bind (wpAny_pure ?_)
  refine wpAny_pure ?_
  refine wpAny_bind ?_
  unfold Builtin.Dict.showsAll
  refine wpAny_no (nott hlo) (wpAny_pure ?_)
  exact wpAny_bind (wpAny_newObj_type (wpAny_pure hQ))
inductive ItPre (w : World) (Pm : Params) (s₀ : Shared) (Q : Value → Shared → Prop) (ov : Value) (s₁ : Shared) : Prop
  | mk (h₁ : Heap) (k₁ : Nat) (x dd F : Addr) (es : Array DictEntry) (n nd : Nat) (fr : Option (Tok × Addr)) (e1 : ov = .ref x) (e2 : s₁ = Sh s₀ h₁ k₁) (X : (K0 Pm).In h₁) (hx : h₁.get? x = some (bookO dd es n (.ref F))) (hd : h₁.get? dd = some (dictOf (frzL w.params fr) nd)) (hlo : (x == sysModules) = false)
      (q : Q (.ref h₁.objs.size) (Sh s₀ (h₁.push { cls := .type "dict_items", data := .fields #[.ref x] }) k₁))
inductive FzPre (w : World) (A : Around) (Pm : Params) (s₀ : Shared) (Q E : Value → Shared → Prop) (ov : Value) (s₁ : Shared) : Prop
  | mk (h₁ : Heap) (k₁ : Nat) (x dd F : Addr) (es : Array DictEntry) (n nd : Nat) (fr : Option (Tok × Addr)) (of : Obj) (fd : FuncData) (e1 : ov = .ref x) (e2 : s₁ = Sh s₀ h₁ k₁) (X : (K0 Pm).In h₁) (hx : h₁.get? x = some (bookO dd es n (.ref F))) (hd : h₁.get? dd = some (dictOf (frzL w.params fr) nd))
      (hF : h₁.get? 105 = some of) (e3 : of = fnObj fd) (q : wpAny (model PW w) A (call (.ref 105) [.ref x] []) Q E (Sh s₀ h₁ k₁))
inductive SubPre (w : World) (A : Around) (Pm : Params) (s₀ : Shared) (Q E : Value → Shared → Prop) (ov iv : Value) (s₂ : Shared) : Prop
  | mk (h₂ : Heap) (k₂ : Nat) (x dd F : Addr) (es : Array DictEntry) (n : Nat) (e1 : s₂ = Sh s₀ h₂ k₂) (e2 : ov = .ref x) (X : (K0 Pm).In h₂) (hx : h₂.get? x = some (bookO dd es n (.ref F))) (q : wpAny (model PW w) A (getItem ov iv) Q E s₂)
theorem book_items {o : Expr} {apos pos : Pos} {Q : Value → Shared → Prop}
    (hx : wpAny (model PW w) A (eval o env) (ItPre w Pm s₀ Q) E (Sh s₀ h k))
    (hbase : attributeBase o "items" env (eval o env) = eval o env := by rfl)
    (hline : (apos.endLine == pos.line) = true := by rfl) :
    wpAny (model PW w) A (eval (.Call (.Attribute o "items" apos) [] [] pos) env) Q E (Sh s₀ h k) := by
  rw [arm_eval_Call, hbase]
  refine wpAny_bind (wpAny_mono hx (fun ov s₁ q => ?_) fun _ _ e => e)
  obtain ⟨h₁, k₁, x, dd, F, es, n, nd, fr, rfl, rfl, X, hx, hd, hlo, q⟩ := q
  refine wpAny_bind (wpAny_standAt ?_)
  have hform : methodCallForm (([] : List Expr).length + ([] : List Keyword).length) (backTo pos (starEach [] env)) (backToKw pos (keywordEach [] env)) = true := rfl
  have hpos : methodCallPos true o env apos pos = pure pos := by unfold methodCallPos; simp [hline]
  unfold methodCall
  rw [hform]
  refine wpAny_bind (wpAny_holding (method108 (T := "method_descriptor") X hx hd find_items (by decide) (Looks.of_pure PySem.F.type_dict_items) (by decide) ?_))
  refine wpAny_bind (wpAny_of_eq hpos ?_)
  exact callWith_builtin rfl (evalArgs_nil3 (book_view X hx hlo q))
theorem book_freeze {o : Expr} {apos pos : Pos} {Q : Value → Shared → Prop}
    (hx : wpAny (model PW w) A (eval o env) (FzPre w A Pm s₀ Q E) E (Sh s₀ h k))
    (hbase : attributeBase o "freeze" env (eval o env) = eval o env := by rfl)
    (hline : (apos.endLine == pos.line) = true := by rfl) :
    wpAny (model PW w) A (eval (.Call (.Attribute o "freeze" apos) [] [] pos) env) Q E (Sh s₀ h k) := by
  rw [arm_eval_Call, hbase]
  refine wpAny_bind (wpAny_mono hx (fun ov s₁ q => ?_) fun _ _ e => e)
  obtain ⟨h₁, k₁, x, dd, F, es, n, nd, fr, of, fd, rfl, rfl, X, hx, hd, hF, rfl, q⟩ := q
  refine wpAny_bind (wpAny_standAt ?_)
  have hform : methodCallForm (([] : List Expr).length + ([] : List Keyword).length) (backTo pos (starEach [] env)) (backToKw pos (keywordEach [] env)) = true := rfl
  have hpos : methodCallPos true o env apos pos = pure pos := by unfold methodCallPos; simp [hline]
  unfold methodCall
  rw [hform]
  refine wpAny_bind (wpAny_holding (method108 (T := "function") X hx hd find_freeze (by decide) (looks_typeIn X dict_type) (by decide) ?_))
  refine wpAny_bind (wpAny_of_eq hpos ?_)
  exact callWith_function (o := fnObj fd) (fd := fd) (evalArgs_nil3 ⟨⟨hF, rfl⟩, q⟩)
theorem sub_book {value index : Expr} {p : Pos} {Q : Value → Shared → Prop}
    (hx : wpAny (model PW w) A (eval value env) (fun ov s₁ => wpAny (model PW w) A (eval index env) (SubPre w A Pm s₀ Q E ov) E s₁) E (Sh s₀ h k))
    (ht : ∀ o r, letTemporaryGo value o r = pure () := by intro _ _; rfl) (hs : ∀ o i, subscripted index false o i = operate [o, i] (getItem o i) := by intro _ _; rfl) :
    wpAny (model PW w) A (eval (.Subscript value index p) env) Q E (Sh s₀ h k) := by
  rw [arm_eval_Subscript]
  refine wpAny_bind (wpAny_mono hx (fun o s₁ h₁ => wpAny_bind (wpAny_holding (wpAny_mono h₁ (fun i s₂ h₂ => wpAny_bind (wpAny_standAt ?_)) fun _ _ x => x)))
    fun _ _ x => x)
  obtain ⟨h₂, k₂, x, dd, F, es, n, rfl, rfl, X, hx, hg⟩ := h₂
  have t1 : Looks (model PW w) h₂ (typeOf (.ref x)) (.ref 108) := (Looks.ld hx).andThen .now
  refine wpAny_bind ?_
  rw [getitemInPython_of_ne (by intro e; cases e)]
  unfold specialOf
  refine wpAny_bind (wpAny_bind (t1.at ((looks_findIn X gi_find).at ?_)))
  dsimp only
  refine wpAny_pure ?_
  rw [hs]
  exact wpAny_bind (wpAny_operating (wpAny_mono hg (fun r s₃ h₃ => wpAny_bind (wpAny_of_eq (ht _ r) (wpAny_pure h₃))) fun _ _ x => x))
end
end Mine
end
section
open PySem PySem.W PySem.Calls
open Sem (wp)
namespace Mine
noncomputable def slC (o : Obj) : Cell := fun o' => ∃ sl, o' = { o with slots := sl }
noncomputable def RU (w : World) (Lw TO M x dd F : Addr) (oLw : Obj) (tv : List Value) (t1 t2 : Option Addr) (fr : Option (Tok × Addr)) (rows : List (Str × Addr)) (ms : List Addr) (made : List (List Str)) : List (Addr × Cell) :=
  (Lw, slC oLw) :: (235, tabC (dPos facS) t1) :: (TO, lst tv) :: (100, tabC (lPos lamE) t2) :: (dd, frzC w.params fr) :: (x, bookC w dd F rows) :: (M, lst (ms.map Value.ref)) :: cellsM ms made
structure RI (B : Heap) (M x F : Addr) (st : DS) (tv : List Value) (t2 : Option Addr) (fr : Option (Tok × Addr)) (ms : List Addr) : Prop where
  told : ToldR B (.ref 203) tv st.told
  len : ms.length = st.made.length
  fac : FacR B F M
  frz : FrzR B x fr
  tab : TabR B lamQ t2
theorem RI.keeps {B B' : Heap} {M x F : Addr} {st : DS} {tv : List Value} {t2 : Option Addr} {fr : Option (Tok × Addr)} {ms : List Addr} (r : RI B M x F st tv t2 fr ms) (k : Kp B B') : RI B' M x F st tv t2 fr ms :=
  ⟨r.told.keeps k, r.len, r.fac.keeps k, r.frz.keeps k, r.tab.keeps k⟩
section
variable {w : World} {A : Around} {E : Value → Shared → Prop} {R : Result → Shared → Prop} {s₀ : Shared} {B : Heap} {L : Addr} {m : Str → Option Value} {U V U₁ U₂ : List (Addr × Cell)} {h h' : Heap} {k : Nat} {env : Env} {Pm : Params}
variable {Lw TO M x dd F : Addr} {oLw : Obj} {tv : List Value} {t1 t2 : Option Addr} {fr : Option (Tok × Addr)} {ms : List Addr} {st : DS} {n : Nat}
theorem St.landed (S : St B L m ((Lw, slC oLw) :: U) h) (hd : ∀ vs, oLw.data ≠ .fields vs) (kb : Kp (hideAll h [L, Lw]) h') (u : h.UpToSlots h') : St B L m ((Lw, slC oLw) :: U) h' := by
  obtain ⟨⟨ow, hw, sl, rfl⟩, nwL, nwB⟩ := S.own _ (.head _)
  refine ⟨u.ns S.ns, fun b o e => kb _ _ (hideAll_get _ (S.keep _ _ e) fun q => ?_), S.nl, fun p hp => ?_, S.nd⟩
  · rcases List.mem_cons.mp q with rfl | q
    · rw [S.nl] at e; cases e
    · rw [List.mem_singleton.mp q, nwB] at e; cases e
  · obtain ⟨⟨o, e, c⟩, n1, n2⟩ := S.own p hp
    refine ⟨?_, n1, n2⟩
    rcases List.mem_cons.mp hp with rfl | hp
    · obtain ⟨sl', e'⟩ := u _ _ hw (fun vs => hd vs)
      exact ⟨_, e', sl', rfl⟩
    · refine ⟨o, kb _ _ (hideAll_get _ e fun q => ?_), c⟩
      rcases List.mem_cons.mp q with q | q
      · exact n1 q
      · have nd := (List.nodup_cons.mp S.nd).1
        rw [List.mem_singleton] at q
        exact nd (List.mem_map.mpr ⟨p, hp, q⟩)
theorem book_step {Q : Value → Shared → Prop} {y : Str} {t : Tok} {N : Nat} (T : Top1 Pm B) (hA : AOk 11 A) (S : St B L m (RU w Lw TO M x dd F oLw tv t1 t2 fr (rowsA ms st.rows) ms st.made ++ V) h) (I : RI B M x F st tv t2 fr ms) (bd : Bd N st) (hn : N ≤ 5000) (hlo : (x == sysModules) = false)
    (hQ : ∀ B' h' k' a ms', Kp B B' → RI B' M x F (getV st y fr.isNone).2 tv t2 fr ms' → ms'[(getV st y fr.isNone).1]? = some a → (∀ (j : Nat) c, ms[j]? = some c → ms'[j]? = some c) →
      St B' L m (RU w Lw TO M x dd F oLw tv t1 t2 fr (rowsA ms' (getV st y fr.isNone).2.rows) ms' (getV st y fr.isNone).2.made ++ V) h' → Q (.ref a) (Sh s₀ h' k')) :
    wpAny (model PW w) A (getItem (.ref x) (.str y t)) Q E (Sh s₀ h k) := by
  have hm := I.len
  have S₁ : St B L m (((Lw, slC oLw) :: (235, tabC (dPos facS) t1) :: (TO, lst tv) :: (100, tabC (lPos lamE) t2) :: (dd, frzC w.params fr) :: (cellsM ms st.made ++ V)) ++ [(x, bookC w dd F (rowsA ms st.rows)), (M, lst (ms.map Value.ref))]) h := S.perm
    (List.Perm.append_left [(Lw, slC oLw), (235, tabC (dPos facS) t1), (TO, lst tv), (100, tabC (lPos lamE) t2), (dd, frzC w.params fr)]
      (List.perm_append_comm (l₁ := [(x, bookC w dd F (rowsA ms st.rows)), (M, lst (ms.map Value.ref))]) (l₂ := cellsM ms st.made ++ V)))
  refine book_item S₁ (.tail _ (.tail _ (.tail _ (.tail _ (.head _))))) T hA I.fac I.frz (by have := bd.made; simp; omega) (by have := bd.rows; simp [rowsA]; omega) hlo (fun k' a hf => ?_) (fun B' h' k' a hf kB na S' => ?_)
  · rw [findR_rowsA, Option.map_eq_some_iff] at hf
    obtain ⟨p, hp, rfl⟩ := hf
    have hg : getV st y fr.isNone = (p.2, st) := by unfold getV; rw [hp]
    have hlt := find_idx bd hp
    rw [hg] at hQ
    have e : ms[p.2]? = some ((ms[p.2]?).getD 0) := by rw [List.getElem?_eq_getElem (by omega)]; rfl
    exact hQ B h k' _ ms (Kp.refl _) I e (fun _ _ e => e) S
  · rw [findR_rowsA, Option.map_eq_none_iff] at hf
    have hg : getV st y fr.isNone = (st.made.length, ⟨if fr.isNone then st.rows ++ [(y, st.made.length)] else st.rows, st.made ++ [[]], st.told⟩) := by unfold getV; rw [hf]
    rw [hg] at hQ
    have hidx : ∀ p ∈ st.rows, p.2 < ms.length := fun p hp => by rw [hm]; exact bd.idx p hp
    have er : missKey fr (rowsA ms st.rows) y a = rowsA (ms ++ [a]) (if fr.isNone then st.rows ++ [(y, st.made.length)] else st.rows) := by
      cases fr with
      | some p => exact (rowsA_snoc hidx a).symm
      | none =>
        have : rowsA (ms ++ [a]) (st.rows ++ [(y, st.made.length)]) = rowsA (ms ++ [a]) st.rows ++ [(y, a)] := by
          simp [rowsA, ← hm]
        simp only [Option.isNone_none, if_true]
        rw [this, rowsA_snoc hidx a]; rfl
    rw [er] at S'
    refine hQ B' h' k' a (ms ++ [a]) kB ⟨I.told.keeps kB, by simp [hm], I.fac.keeps kB, I.frz.keeps kB, I.tab.keeps kB⟩ (by simp [← hm]) (fun j c e => by rw [List.getElem?_append_left (List.getElem?_eq_some_iff.mp e).1]; exact e) (S'.perm ?_)
    have em : (ms ++ [a]).map Value.ref = ms.map Value.ref ++ [Value.ref a] := by simp
    unfold RU
    rw [cellsM_snoc hm, em]
    refine List.Perm.append_left [(Lw, slC oLw), (235, tabC (dPos facS) t1), (TO, lst tv), (100, tabC (lPos lamE) t2), (dd, frzC w.params fr)] ?_
    refine List.perm_append_comm.trans ?_
    refine List.Perm.append_left [(x, _), (M, lst (ms.map Value.ref ++ [Value.ref a]))] ?_
    show ((a, txts []) :: (cellsM ms st.made ++ V)).Perm ((cellsM ms st.made ++ [(a, txts [])]) ++ V)
    rw [List.append_assoc]
    exact List.perm_middle.symm
theorem made_step {Q : Value → Shared → Prop} {a : Addr} {j : Nat} {rows : List (Str × Addr)} {y : Str} {t : Tok} (S : St B L m (RU w Lw TO M x dd F oLw tv t1 t2 fr rows ms st.made ++ V) h) (I : RI B M x F st tv t2 fr ms) (hl : ∀ l ∈ st.made, l.length ≤ 100000) (hj : ms[j]? = some a)
    (hQ : ∀ h', RI B M x F (addV st j y) tv t2 fr ms → St B L m (RU w Lw TO M x dd F oLw tv t1 t2 fr rows ms (addV st j y).made ++ V) h' → Q .none (Sh s₀ h' k)) :
    wpAny (model PW w) A (call (.builtin "list.append") [.ref a, .str y t]) Q E (Sh s₀ h k) := by
  have hlt : j < st.made.length := by rw [← I.len]; exact (List.getElem?_eq_some_iff.mp hj).1
  obtain ⟨l, hlj⟩ : ∃ l, st.made[j]? = some l := ⟨st.made[j], List.getElem?_eq_getElem hlt⟩
  obtain ⟨c1, c2, e1, e2⟩ := cellsM_split hj hlj
  have eU : ∀ (q : List (Addr × Cell)) l', q = c1 ++ (a, txts l') :: c2 → RU w Lw TO M x dd F oLw tv t1 t2 fr rows ms st.made ++ V = RU w Lw TO M x dd F oLw tv t1 t2 fr rows ms st.made ++ V →
      ((Lw, slC oLw) :: (235, tabC (dPos facS) t1) :: (TO, lst tv) :: (100, tabC (lPos lamE) t2) :: (dd, frzC w.params fr) :: (x, bookC w dd F rows) :: (M, lst (ms.map Value.ref)) :: q) ++ V =
      ((Lw, slC oLw) :: (235, tabC (dPos facS) t1) :: (TO, lst tv) :: (100, tabC (lPos lamE) t2) :: (dd, frzC w.params fr) :: (x, bookC w dd F rows) :: (M, lst (ms.map Value.ref)) :: c1) ++ (a, txts l') :: (c2 ++ V) := by
    rintro q l' rfl _; simp
  have S' : St B L m (((Lw, slC oLw) :: (235, tabC (dPos facS) t1) :: (TO, lst tv) :: (100, tabC (lPos lamE) t2) :: (dd, frzC w.params fr) :: (x, bookC w dd F rows) :: (M, lst (ms.map Value.ref)) :: c1) ++ (a, txts l) :: (c2 ++ V)) h := by
    rw [← eU _ l e1 rfl]; exact S
  refine appendT S' (hl l (List.mem_of_getElem? hlj)) fun h' S₂ => hQ h' ⟨I.told, by rw [I.len]; simp [addV], I.fac, I.frz, I.tab⟩ ?_
  unfold RU addV
  rw [eU _ (l ++ [y]) (e2 (· ++ [y])) rfl]; exact S₂
theorem told_step {Q : Value → Shared → Prop} {rows : List (Str × Addr)} {made : List (List Str)} {v : Value} (S : St B L m (RU w Lw TO M x dd F oLw tv t1 t2 fr rows ms made ++ V) h) (hl : tv.length ≤ 100000)
    (hQ : ∀ h', St B L m (RU w Lw TO M x dd F oLw (tv ++ [v]) t1 t2 fr rows ms made ++ V) h' → Q .none (Sh s₀ h' k)) :
    wpAny (model PW w) A (call (.builtin "list.append") [.ref TO, v]) Q E (Sh s₀ h k) := by
  have S' : St B L m ([(Lw, slC oLw), (235, tabC (dPos facS) t1)] ++ (TO, lst tv) :: ((100, tabC (lPos lamE) t2) :: (dd, frzC w.params fr) :: (x, bookC w dd F rows) :: (M, lst (ms.map Value.ref)) :: cellsM ms made ++ V)) h := S
  exact appendL S' hl fun h' S₂ => hQ h' S₂
theorem freeze_step {Q : Value → Shared → Prop} {rows : List (Str × Addr)} {made : List (List Str)} (S : St B L m (RU w Lw TO M x dd F oLw tv t1 t2 fr rows ms made ++ V) h) (T : Top1 Pm B) (hA : AOk 3 A) (I : RI B M x F st tv t2 fr ms)
    (hQ : ∀ B' h' k' t2' fr', Kp B B' → fr'.isSome = true → RI B' M x F st tv t2' fr' ms → St B' L m (RU w Lw TO M x dd F oLw tv t1 t2' fr' rows ms made ++ V) h' → Q .none (Sh s₀ h' k')) :
    wpAny (model PW w) A (call (.ref 105) [.ref x] []) Q E (Sh s₀ h k) := by
  obtain ⟨ox, ex, hb⟩ := S.get (a := x) (c := bookC w dd F rows) (by unfold RU; simp)
  have S₀ : St B L m ([(Lw, slC oLw), (235, tabC (dPos facS) t1), (TO, lst tv), (100, tabC (lPos lamE) t2), (dd, frzC w.params fr)] ++ (x, bookC w dd F rows) :: ((M, lst (ms.map Value.ref)) :: cellsM ms made ++ V)) h := S
  have S₁ := S₀.recell ex (c' := its ox) rfl
  have S₂ : St B L m (([(Lw, slC oLw), (235, tabC (dPos facS) t1), (TO, lst tv)] ++ ((M, lst (ms.map Value.ref)) :: cellsM ms made ++ V)) ++ [(100, tabC (lPos lamE) t2), (dd, frzC w.params fr), (x, its ox)]) h := S₁.perm (by
    rw [List.append_assoc]
    exact List.Perm.append_left [(Lw, slC oLw), (235, tabC (dPos facS) t1), (TO, lst tv)] (List.perm_append_comm (l₁ := [(100, tabC (lPos lamE) t2), (dd, frzC w.params fr), (x, its ox)])))
  obtain ⟨es, nn, rfl, D⟩ := id hb
  refine freeze_call S₂ T hA I.tab rfl rfl rfl fun B' h' k' f cs c' pm ctv fr' oc kB tr ef ecs hc hfr S₃ => ?_
  have hs : fr'.isSome = true := by cases fr' with | none => cases hfr | some _ => rfl
  refine hQ B' h' k' (some c') fr' kB hs ⟨I.told.keeps kB, I.len, I.fac.keeps kB, ?_, tr⟩ ?_
  · cases fr' with
    | none => cases hfr
    | some p =>
      simp only [Option.map_some, Option.some.injEq] at hfr
      exact ⟨cs, c', pm, ctv, oc, by rw [hfr]; exact ef, let ⟨c₂, r⟩ := tr; ⟨c₂, r⟩, ecs, hc⟩
  · have S₄ : St B' L m ([(Lw, slC oLw), (235, tabC (dPos facS) t1), (TO, lst tv), (100, tabC (lPos lamE) (some c')), (dd, frzC w.params fr')] ++ (x, its (bookO dd es nn (.ref F))) :: ((M, lst (ms.map Value.ref)) :: cellsM ms made ++ V)) h' := S₃.perm (by
      rw [List.append_assoc]
      exact List.Perm.append_left [(Lw, slC oLw), (235, tabC (dPos facS) t1), (TO, lst tv)] (List.perm_append_comm (l₂ := [(100, tabC (lPos lamE) (some c')), (dd, frzC w.params fr'), (x, its (bookO dd es nn (.ref F)))])))
    obtain ⟨ox', ex', rfl⟩ := S₄.get (a := x) (c := its (bookO dd es nn (.ref F))) (by simp)
    exact S₄.recell ex' (c' := bookC w dd F rows) hb
end
noncomputable def tBody : List Stmt := match bodyAt 14 3 with | .For _ _ b _ _ => b | _ => []
section
variable {w : World} {A : Around} {E : Value → Shared → Prop} {R : Result → Shared → Prop} {s₀ : Shared} {B : Heap} {L : Addr} {m : Str → Option Value} {U V U₁ U₂ : List (Addr × Cell)} {h h' : Heap} {k : Nat} {env : Env} {Pm : Params}
variable {Lw TO M x dd F : Addr} {oLw : Obj} {tv : List Value} {t1 t2 : Option Addr} {fr : Option (Tok × Addr)} {ms : List Addr} {st : DS} {n : Nat}
theorem book_at {rows : List (Str × Addr)} {made : List (List Str)} (S : St B L m (RU w Lw TO M x dd F oLw tv t1 t2 fr rows ms made ++ V) h) : ∃ es n, h.get? x = some (bookO dd es n (.ref F)) ∧ BookD w dd F rows es := by
  obtain ⟨o, e, es, n, rfl, D⟩ := S.get (a := x) (c := bookC w dd F rows) (by unfold RU; simp)
  exact ⟨es, n, e, D⟩
theorem dd_at {rows : List (Str × Addr)} {made : List (List Str)} (S : St B L m (RU w Lw TO M x dd F oLw tv t1 t2 fr rows ms made ++ V) h) : ∃ nd, h.get? dd = some (dictOf (frzL w.params fr) nd) := by
  obtain ⟨o, e, n, rfl⟩ := S.get (a := dd) (c := frzC w.params fr) (by unfold RU; simp)
  exact ⟨n, e⟩
theorem told_at {rows : List (Str × Addr)} {made : List (List Str)} (S : St B L m (RU w Lw TO M x dd F oLw tv t1 t2 fr rows ms made ++ V) h) : ∃ n, h.get? TO = some { cls := .type "list", data := .seq tv.toArray n } := lst_plain S (R := TO) (vs := tv) (by unfold RU; simp)
theorem made_at {a : Addr} {j : Nat} {rows : List (Str × Addr)} (S : St B L m (RU w Lw TO M x dd F oLw tv t1 t2 fr rows ms st.made ++ V) h) (I : RI B M x F st tv t2 fr ms) (hj : ms[j]? = some a) : ∃ vs, h.PlainList a vs := by
  have hlt : j < st.made.length := by rw [← I.len]; exact (List.getElem?_eq_some_iff.mp hj).1
  obtain ⟨l, hlj⟩ : ∃ l, st.made[j]? = some l := ⟨st.made[j], List.getElem?_eq_getElem hlt⟩
  obtain ⟨c1, c2, e1, e2⟩ := cellsM_split hj hlj
  obtain ⟨o, e, lx, n, hl, rfl⟩ := S.get (a := a) (c := txts l) (by unfold RU; rw [e1]; simp)
  exact ⟨_, n, e⟩
theorem read_pair {Q : Flow → Shared → Prop} {N : Nat} {a d cb : Addr} {ob : Obj} {y z : Str} {t u : Tok} (T : Top1 Pm B) (hA : AOk 12 A) (ok : EOk env) (S : St B env.locals m (RU w Lw TO M x dd F oLw tv t1 t2 fr (rowsA ms st.rows) ms st.made ++ V) h) (I : RI B M x F st tv t2 fr ms)
    (bd : Bd N (tellD st (.pair y z))) (hn : N ≤ 5000) (hlo : (x == sysModules) = false) (hcs : env.cells.lookup ("book" : Str) = some cb) (hcb : B.get? cb = some ob) (hob : cellC (some (.ref x)) ob)
    (v1 : m "told" = some (.ref TO)) (v2 : m "pair" = some (.ref a)) (eP : B.get? a = some (pairO d (.str y t) (.str z u))) (eD : B.get? d = some emptyDict)
    (l1 : env.kindOf "told" = some .local) (l2 : env.kindOf "pair" = some .local) (c1 : env.kindOf "book" = some .cell)
    (hQ : ∀ B' h' k' tv' ms', Kp B B' → RI B' M x F (pairD fr.isNone st y z) tv' t2 fr ms' → St B' env.locals m (RU w Lw TO M x dd F oLw tv' t1 t2 fr (rowsA ms' (pairD fr.isNone st y z).rows) ms' (pairD fr.isNone st y z).made ++ V) h' → Q .next (Sh s₀ h' k')) :
    Runs w A (execs (tBody.drop 2) env) Q E (Sh s₀ h k) := by
  refine ⟨?_⟩
  have hk := ok.kind
  have htv : tv.length ≤ 10000 := by have := I.told.len; have := bd.told; simp [tellD] at this; omega
  obtain ⟨nT, hT⟩ := told_at S
  refine wpAny_execs_cons (wpAny_Expr_any ?_ (interactive_no ok) (by rfl))
  refine lmeth slot_list_append type_list_append (nm (v := .ref TO) S hk l1 v1 ⟨⟨TO, _, rfl, nT, hT⟩, arg1 (nm (v := .ref a) S hk l2 v2 ?_)⟩)
  refine told_step S (by omega) fun h₁ S₁ => ?_
  have I₁ : RI B M x F (tellD st (.pair y z)) (tv ++ [.ref a]) t2 fr ms := ⟨I.told.snoc ⟨a, t, u, _, rfl, eP⟩, I.len, I.fac, I.frz, I.tab⟩
  refine wpAny_execs_cons (wpAny_Expr_any ?_ (interactive_no ok) (by rfl))
  refine lmeth slot_list_append type_list_append (sub_book (Pm := Pm) (nmC (v := .ref x) ⟨ob, S₁.keep _ _ hcb, hob⟩ hk c1 hcs ?_))
  refine pair_attr (Pm := Pm) (b := false) rfl (nm (v := .ref a) S₁ hk l2 v2 ⟨h₁, _, rfl, rfl, T.K.keeps S₁.keep, T.top.keeps S₁.keep, S₁.keep _ _ eP, S₁.keep _ _ eD, fun h₂ k₂ K₂ => ?_⟩) (hA.le (by omega)) (by rfl)
  have S₂ := S₁.mono K₂
  obtain ⟨es, nb, ex, _⟩ := book_at S₂
  refine ⟨h₂, k₂, x, dd, F, es, nb, rfl, rfl, T.K.keeps S₂.keep, ex, ?_⟩
  simp only [Bool.false_eq_true, if_false]
  refine book_step (st := tellD st (.pair y z)) T (hA.le (by omega)) S₂ I₁ bd hn hlo fun B₃ h₃ k₃ b ms₃ kB I₃ hb _ S₃ => ?_
  obtain ⟨vs, hpl⟩ := made_at S₃ I₃ hb
  refine ⟨⟨b, vs, rfl, hpl⟩, arg1 ?_⟩
  refine pair_attr (Pm := Pm) (b := true) rfl (nm (v := .ref a) S₃ hk l2 v2 ⟨h₃, _, rfl, rfl, (T.K.keeps kB).keeps S₃.keep, (T.top.keeps kB).keeps S₃.keep, S₃.keep _ _ (kB _ _ eP), S₃.keep _ _ (kB _ _ eD), fun h₄ k₄ K₄ => ?_⟩) (hA.le (by omega)) (by rfl)
  simp only [if_true]
  refine made_step (S₃.mono K₄) I₃ (fun l hl => ?_) hb fun h₅ I₅ S₅ => ?_
  · unfold getV at hl
    split at hl
    · have := bd.lists l hl; omega
    · rcases List.mem_append.mp hl with q | q
      · have := bd.lists l q; omega
      · simp at q; subst q; exact Nat.zero_le _
  refine wpAny_execs_nil ?_
  exact hQ B₃ h₅ _ _ ms₃ kB I₅ S₅
end
noncomputable def stepP (kept : Bool) (st : DS) (y : Str) : DS := match cutEq y with
  | none => tellD st .refused
  | some p => pairD kept st (Txt.strip p.1) (Txt.strip p.2)
theorem hideAll_at {h : Heap} {l : List Addr} {b : Addr} (hb : b ∈ l) : (hideAll h l).get? b = none := hideAll_none _ hb
theorem kp_hideAll (h : Heap) (l : List Addr) : Kp (hideAll h l) h := fun _ _ e => of_hideAll _ e
section
variable {P : Ctx → Prop} {w : World} {A : Around} {E : Value → Shared → Prop} {R : Result → Shared → Prop} {s₀ : Shared} {B : Heap} {L : Addr} {m : Str → Option Value} {U V U₁ U₂ : List (Addr × Cell)} {h h' : Heap} {k : Nat} {env : Env} {Pm : Params}
variable {Lw TO M x dd F : Addr} {oLw : Obj} {tv : List Value} {t1 t2 : Option Addr} {fr : Option (Tok × Addr)} {ms : List Addr} {st : DS} {n : Nat}
theorem read_try (D : Deep P) {Q : Flow → Shared → Prop} {N : Nat} {a cb : Addr} {ob : Obj} {l : List (Str × Tok)} {nl i : Nat} {ui : Tok} {y : Str} {lenv : Env} (hP : cutEq y = none → ∀ Γ, P Γ → Ctx.called Γ) (T : Top1 Pm B) (hA : AOk 12 (A.deeper env)) (ok : EOk env) (hf : env.frame = some env.locals)
    (S : St B env.locals m (RU w Lw TO M x dd F oLw tv t1 t2 fr (rowsA ms st.rows) ms st.made ++ V) h) (I : RI B M x F st tv t2 fr ms)
    (hfr : A.frames = some [lenv]) (lk : lenv.scope.kind ≠ .module) (lf : lenv.frame = some Lw) (nsL : ∀ (h : Heap) sl, h.get? Lw = some { oLw with slots := sl } → ∃ mL, h.Ns Lw mL) (ndL : ∀ vs, oLw.data ≠ .fields vs)
    (bd : ∀ e, Bd N (tellD st e)) (hn : N ≤ 5000) (hlo : (x == sysModules) = false) (hcs : env.cells.lookup ("book" : Str) = some cb) (hcb : B.get? cb = some ob) (hob : cellC (some (.ref x)) ob)
    (v1 : m "told" = some (.ref TO)) (v3 : m "items" = some (.ref a)) (v4 : m "i" = some (.int (i : Nat) ui)) (ha : B.get? a = some { cls := .type "list", data := .seq (strValues l).toArray nl }) (hl : (strValues l).length ≤ 1000) (hy : (l.map (·.1))[i]? = some y) (hyl : y.length ≤ 1000)
    (l1 : env.kindOf "told" = some .local) (l2 : env.kindOf "pair" = some .local) (l3 : env.kindOf "items" = some .local) (l4 : env.kindOf "i" = some .local) (c1 : env.kindOf "book" = some .cell) (g1 : env.kindOf "Pair" = some .globalImplicit) (g2 : env.kindOf "TypeError" = some .globalImplicit)
    (hQ : ∀ f B' h' k' m' tv' ms', (f = .next ∨ f = .cont) → Kp B B' → RI B' M x F (stepP fr.isNone st y) tv' t2 fr ms' → St B' env.locals m' (RU w Lw TO M x dd F oLw tv' t1 t2 fr (rowsA ms' (stepP fr.isNone st y).rows) ms' (stepP fr.isNone st y).made ++ V) h' →
      (∀ z : Str, z ≠ Str.ofString "pair" → m' z = m z) → Q f (Sh s₀ h' k')) :
    RunsG P w (A.deeper env) (execs (tBody.drop 1) env) Q E (Sh s₀ h k) := by
  refine ⟨?_⟩
  have hk := ok.kind
  have htv : tv.length ≤ 10000 := by have := I.told.len; have := (bd .shut).told; simp [tellD] at this; omega
  have eL : RU w Lw TO M x dd F oLw tv t1 t2 fr (rowsA ms st.rows) ms st.made ++ V = (Lw, slC oLw) :: ((RU w Lw TO M x dd F oLw tv t1 t2 fr (rowsA ms st.rows) ms st.made).tail ++ V) := rfl
  refine wpG_execs_cons (wpG_Try_except ?_)
  refine wpG_execs_cons (wpG_Assign_Name ?_)
  have Th : Top1 Pm h := T.keeps S.keep
  refine wpG_Call_parse (Pm := Pm) (ngl (v := .ref 203) Th.top ok g1 (by decide) ⟨h, _, rfl, rfl, Th.K, ?_⟩)
  have S₁ := S.push (methodObj (.ref 197) (.ref 203))
  have eM : (h.push (methodObj (.ref 197) (.ref 203))).get? h.objs.size = some (methodObj (.ref 197) (.ref 203)) := Heap.get?_push_size _ rfl
  have K₁ : Kp h (h.push (methodObj (.ref 197) (.ref 203))) := Kp.push _ _
  generalize h.push (methodObj (.ref 197) (.ref 203)) = h₁ at S₁ eM K₁ ⊢
  have T₁ : Top1 Pm h₁ := Th.keeps K₁
  obtain ⟨t', hx⟩ : ∃ t', (strValues l)[i]? = some (.str y t') := by
    rw [List.getElem?_map, Option.map_eq_some_iff] at hy
    obtain ⟨p, hp, e⟩ := hy
    exact ⟨p.2, by simp only [strValues, List.getElem?_map, hp, Option.map_some, e]⟩
  have hi : i < (strValues l).length := (List.getElem?_eq_some_iff.mp hx).1
  have hL : h₁.IsList a (strValues l).toArray := ⟨_, S₁.old ha, rfl, nl, rfl⟩
  refine arg1 (ixL (nm (v := .ref a) S₁ hk l3 v3 (nm (v := .int (i : Nat) ui) S₁ hk l4 v4 ⟨a, _, (i : Nat), ui, i, .str y t', rfl, rfl, hL, by rw [List.size_toArray]; omega, ?_, by rw [List.getElem?_toArray]; exact hx, ?_⟩)))
  · unfold seqIndex?
    have h0 : ¬ ((i : Int) < 0) := by omega
    simp only [List.size_toArray, h0, if_false]
    rw [if_pos (by simp only [Bool.and_eq_true, decide_eq_true_eq]; omega)]
    rfl
  refine ⟨h₁, _, rfl, T₁.K, eM, ?_⟩
  have S₁' := S₁
  rw [eL] at S₁'
  obtain ⟨⟨ow, hw, sl, rfl⟩, _, _⟩ := S₁'.own _ (.head _)
  obtain ⟨mL, hnL⟩ := nsL h₁ sl hw
  have Fl : Fly (hideAll h₁ [env.locals, Lw]) (A.deeper env) [env, lenv] h₁ :=
    ⟨Around.frames_deeper hfr, kp_hideAll _ _, Heap.FunFrames.cons (by rw [hk]; decide) hf S₁.ns (hideAll_at (by simp)) (Heap.FunFrames.cons lk lf hnL (hideAll_at (by simp)) trivial)⟩
  refine parse_call D hP T₁.K T₁.top (hA.le (by omega)) Fl hyl eM (fun p hp h₂ k₂ b d t u K₂ nb nd eb ed => ?_) (fun hp e h₂ k₂ hfl => ?_)
  · have hdb : d ≠ b := fun q => by
      rw [q, eb] at ed; injection ed with ed; have := congrArg Obj.cls ed; cases this
    obtain ⟨n1, n2, n3⟩ := S₁.notIn nd
    have S₂ := (S₁.take K₂ nb eb (c := its _) rfl).add ed (c := its _) rfl n1 n2 (by rw [List.map_cons, List.mem_cons]; exact fun q => q.elim hdb n3)
    obtain ⟨B₃, od, kB₃, ed₃, cd, S₃⟩ := S₂.give0
    cases cd
    obtain ⟨B₄, ob', kB₄, eb₄, cb', S₄⟩ := S₃.give0
    cases cb'
    refine stn S₄ hk l2 fun h₅ k₅ S₅ => ?_
    refine wpAny.g (wpAny_execs_nil ?_)
    dsimp only
    have kB := kB₃.trans kB₄
    have hst : stepP fr.isNone st y = pairD fr.isNone st (Txt.strip p.1) (Txt.strip p.2) := by unfold stepP; rw [hp]
    rw [hst] at hQ
    obtain ⟨key⟩ := read_pair (Pm := Pm) (Q := Q) (E := E) (s₀ := s₀) (k := k₅) (A := A.deeper env) (T.keeps kB) hA ok S₅ (I.keeps kB) (bd _) hn hlo hcs (kB _ _ hcb) hob (by exact v1) (by rfl) eb₄ (kB₄ _ _ ed₃) l1 l2 c1 fun B₆ h₆ k₆ tv' ms' kB₆ I₆ S₆ =>
      hQ _ B₆ h₆ k₆ _ tv' ms' (.inl rfl) (kB.trans kB₆) I₆ S₆ fun z hz => if_neg hz
    exact wpAny.g key
  · have hst : stepP fr.isNone st y = tellD st .refused := by unfold stepP; rw [hp]
    rw [hst] at hQ
    obtain ⟨⟨a0, hfw⟩, hu⟩ := hfl
    refine wpAny_looks_onW (s := Sh s₀ h₂ k₂) (Around.frames_deeper hfr) hf hfw fun h₃ hh₃ u₃ => ?_
    refine wpAny_landsW (s := Sh s₀ h₃ k₂) hh₃ fun h₄ hf₄ u₄ => ?_
    have S₄ : St B env.locals m (RU w Lw TO M x dd F oLw tv t1 t2 fr (rowsA ms st.rows) ms st.made ++ V) h₄ := by
      rw [eL]; exact St.landed S₁' ndL hf₄.1 ((hu.trans u₃).trans u₄)
    obtain ⟨oe, he, hce⟩ := hf₄.there
    refine wpAny_handleBy_builtin (X := "TypeError") (T := "TypeError") (b := true) exc_TypeError nt_TypeError sub_TT ?_
    refine nbl (s₀ := s₀) (T.top.keeps S₄.keep) ok g2 (by decide) ⟨rfl, ⟨oe, he, hce⟩, ?_⟩
    rw [if_pos rfl]
    refine PyProof.Rows.lands_againW (s := Sh s₀ h₄ k₂) hf₄ fun h₅ hf₅ u₅ => ?_
    have S₅ : St B env.locals m (RU w Lw TO M x dd F oLw tv t1 t2 fr (rowsA ms st.rows) ms st.made ++ V) h₅ := by
      rw [eL]; exact St.landed S₁' ndL hf₅.1 (((hu.trans u₃).trans u₄).trans u₅)
    obtain ⟨nT, hT⟩ := told_at S₅
    refine wpAny_execs_cons (wpAny_Expr_any ?_ (interactive_no ok) (by rfl))
    refine lmeth slot_list_append type_list_append (nm (v := .ref TO) S₅ hk l1 v1 ⟨⟨TO, _, rfl, nT, hT⟩, arg1 (c_str ?_)⟩)
    refine told_step S₅ (by omega) fun h₆ S₆ => ?_
    refine wpAny_execs_cons (wpAny_Continue ?_)
    exact hQ _ B h₆ _ m _ ms (.inr rfl) (Kp.refl _) ⟨I.told.snoc ⟨_, rfl⟩, I.len, I.fac, I.frz, I.tab⟩ S₆ fun _ _ => rfl
end
noncomputable def kR (shut : Int) (i : Nat) : Bool := decide ((i : Int) < shut) || decide (shut < 0)
noncomputable def sR (shut : Int) (i : Nat) : Bool := (i : Int) == shut
theorem stepD_P (kept b : Bool) (st : DS) (y : Str) : stepD kept b st y = stepP kept (if b then tellD st .shut else st) y := rfl
section
variable {P : Ctx → Prop} {w : World} {A : Around} {E : Value → Shared → Prop} {R : Result → Shared → Prop} {s₀ : Shared} {B : Heap} {L : Addr} {m : Str → Option Value} {U V U₁ U₂ : List (Addr × Cell)} {h h' : Heap} {k : Nat} {env : Env} {Pm : Params}
variable {Lw TO M x dd F : Addr} {oLw : Obj} {tv : List Value} {t1 t2 : Option Addr} {fr : Option (Tok × Addr)} {ms : List Addr} {st : DS} {n : Nat}
theorem read_turn (D : Deep P) {Q : Flow → Shared → Prop} {a cb : Addr} {ob : Obj} {l : List (Str × Tok)} {nl i : Nat} {ui tsh : Tok} {shut : Int} {y : Str} {lenv : Env} (hP : cutEq y = none → ∀ Γ, P Γ → Ctx.called Γ) (T : Top1 Pm B) (hA : AOk 12 (A.deeper env)) (ok : EOk env) (hf : env.frame = some env.locals)
    (S : St B env.locals m (RU w Lw TO M x dd F oLw tv t1 t2 fr (rowsA ms st.rows) ms st.made ++ V) h) (I : RI B M x F st tv t2 fr ms)
    (hfr : A.frames = some [lenv]) (lk : lenv.scope.kind ≠ .module) (lf : lenv.frame = some Lw) (nsL : ∀ (h : Heap) sl, h.get? Lw = some { oLw with slots := sl } → ∃ mL, h.Ns Lw mL) (ndL : ∀ vs, oLw.data ≠ .fields vs)
    (bd : Bd i st) (hn : i ≤ 2000) (hlo : (x == sysModules) = false) (hcs : env.cells.lookup ("book" : Str) = some cb) (hcb : B.get? cb = some ob) (hob : cellC (some (.ref x)) ob)
    (hfz : fr.isSome = decide (0 ≤ shut ∧ shut < i))
    (v1 : m "told" = some (.ref TO)) (v3 : m "items" = some (.ref a)) (v4 : m "i" = some (.int (i : Nat) ui)) (v5 : m "shut" = some (.int shut tsh)) (ha : B.get? a = some { cls := .type "list", data := .seq (strValues l).toArray nl }) (hl : (strValues l).length ≤ 1000) (hy : (l.map (·.1))[i]? = some y) (hyl : y.length ≤ 1000)
    (l1 : env.kindOf "told" = some .local) (l2 : env.kindOf "pair" = some .local) (l3 : env.kindOf "items" = some .local) (l4 : env.kindOf "i" = some .local) (l5 : env.kindOf "shut" = some .local) (c1 : env.kindOf "book" = some .cell) (g1 : env.kindOf "Pair" = some .globalImplicit) (g2 : env.kindOf "TypeError" = some .globalImplicit)
    (hQ : ∀ f B' h' k' m' tv' t2' fr' ms', (f = .next ∨ f = .cont) → Kp B B' → RI B' M x F (stepD (kR shut i) (sR shut i) st y) tv' t2' fr' ms' → fr'.isSome = decide (0 ≤ shut ∧ shut < (i + 1 : Nat)) →
      St B' env.locals m' (RU w Lw TO M x dd F oLw tv' t1 t2' fr' (rowsA ms' (stepD (kR shut i) (sR shut i) st y).rows) ms' (stepD (kR shut i) (sR shut i) st y).made ++ V) h' →
      (∀ z : Str, z ≠ Str.ofString "pair" → m' z = m z) → Q f (Sh s₀ h' k')) :
    RunsG P w (A.deeper env) (execs tBody env) Q E (Sh s₀ h k) := by
  refine ⟨?_⟩
  have hk := ok.kind
  have htv : tv.length ≤ 10000 := by have := I.told.len; have := bd.told; omega
  have kept : ∀ fr' : Option (Tok × Addr), fr'.isSome = decide (0 ≤ shut ∧ shut < (i + 1 : Nat)) → fr'.isNone = kR shut i := by
    intro fr' hs
    have : fr'.isNone = !fr'.isSome := by cases fr' <;> rfl
    rw [this, hs]
    unfold kR
    by_cases h1 : (i : Int) < shut
    · simp [h1]; omega
    · by_cases h2 : shut < 0
      · simp [h2]
      · simp [h1, h2]; omega
  refine wpG_execs_cons (wpAny.g (wpAny_If ?_))
  refine wpAny_isTrue_Compare1 (nm (v := .int (i : Nat) ui) S hk l4 v4 (nm (v := .int shut tsh) S hk l5 v5 (PyProof.Rows.eq_int (truthy_b ?_))))
  cases hsh : ((i : Int) == shut) with
  | true =>
    have hs : sR shut i = true := hsh
    obtain rfl : (i : Int) = shut := by simpa using hsh
    rw [stepD_P, hs] at hQ
    simp only [if_true] at hQ
    obtain ⟨nT, hT⟩ := told_at S
    refine wpAny_execs_cons (wpAny_Expr_any ?_ (interactive_no ok) (by rfl))
    refine lmeth slot_list_append type_list_append (nm (v := .ref TO) S hk l1 v1 ⟨⟨TO, _, rfl, nT, hT⟩, arg1 ?_⟩)
    obtain ⟨es, nb, ex, _⟩ := book_at S
    obtain ⟨nd, ed⟩ := dd_at S
    refine book_freeze (Pm := Pm) (nmC (v := .ref x) ⟨ob, S.keep _ _ hcb, hob⟩ hk c1 hcs ⟨h, _, x, dd, F, es, nb, nd, fr, _, freezeFd, rfl, rfl, T.K.keeps S.keep, ex, ed, k_105 (T.K.keeps S.keep), rfl, ?_⟩)
    refine freeze_step S T (hA.le (by omega)) I fun B₁ h₁ k₁ t2' fr' kB hs' I₁ S₁ => ?_
    refine told_step S₁ (by omega) fun h₂ S₂ => ?_
    refine wpAny_execs_nil ?_
    have hfz' : fr'.isSome = decide (0 ≤ (i : Int) ∧ (i : Int) < (i + 1 : Nat)) := by rw [hs']; simp; omega
    have bd' : ∀ e, Bd (i + 1) (tellD (tellD st .shut) e) := fun e => ⟨Nat.le_succ_of_le bd.rows, Nat.le_succ_of_le bd.made, fun l hl => Nat.le_succ_of_le (bd.lists l hl), by simp [tellD]; have := bd.told; omega, bd.idx⟩
    obtain ⟨key⟩ := read_try (Pm := Pm) (E := E) (s₀ := s₀) (k := k₁) (st := tellD st .shut) (Q := Q) D hP (T.keeps kB) hA ok hf S₂ ⟨I₁.told.snoc rfl, I₁.len, I₁.fac, I₁.frz, I₁.tab⟩ hfr lk lf nsL ndL bd' (by omega) hlo hcs (kB _ _ hcb) hob v1 v3 v4 (kB _ _ ha) hl hy hyl l1 l2 l3 l4 c1 g1 g2
      fun f B₃ h₃ k₃ m' tv' ms' hf kB₃ I₃ S₃ hm => by
        rw [kept fr' hfz'] at I₃ S₃
        exact hQ f B₃ h₃ k₃ m' tv' t2' fr' ms' hf (kB.trans kB₃) I₃ hfz' S₃ hm
    exact key
  | false =>
    have hs : sR shut i = false := hsh
    have hne : (i : Int) ≠ shut := by simpa using hsh
    rw [stepD_P, hs] at hQ
    simp only [Bool.false_eq_true, if_false] at hQ
    refine wpAny_execs_nil ?_
    have hfz' : fr.isSome = decide (0 ≤ shut ∧ shut < (i + 1 : Nat)) := by
      rw [hfz]; apply decide_eq_decide.mpr; omega
    have bd' : ∀ e, Bd (i + 1) (tellD st e) := fun e => ⟨Nat.le_succ_of_le bd.rows, Nat.le_succ_of_le bd.made, fun l hl => Nat.le_succ_of_le (bd.lists l hl), by simp [tellD]; have := bd.told; omega, bd.idx⟩
    obtain ⟨key⟩ := read_try (Pm := Pm) (E := E) (s₀ := s₀) (st := st) (Q := Q) D hP T hA ok hf S I hfr lk lf nsL ndL bd' (by omega) hlo hcs hcb hob v1 v3 v4 ha hl hy hyl l1 l2 l3 l4 c1 g1 g2
      fun f B₃ h₃ k₃ m' tv' ms' hf kB₃ I₃ S₃ hm => by
        rw [kept fr hfz'] at I₃ S₃
        exact hQ f B₃ h₃ k₃ m' tv' t2 fr ms' hf kB₃ I₃ hfz' S₃ hm
    exact key
end
noncomputable def rDrop (n : Nat) : List Stmt := (dBody (stmtAt 14)).drop n
section
variable {P : Ctx → Prop} {w : World} {A : Around} {E : Value → Shared → Prop} {R : Result → Shared → Prop} {s₀ : Shared} {B : Heap} {L : Addr} {m : Str → Option Value} {U V U₁ U₂ : List (Addr × Cell)} {h h' : Heap} {k : Nat} {env : Env} {Pm : Params}
variable {Lw TO M x dd F : Addr} {oLw : Obj} {tv : List Value} {t1 t2 : Option Addr} {fr : Option (Tok × Addr)} {ms : List Addr} {st : DS} {n : Nat}
theorem keep_108 : keepIn (K0 Pm) (.ref 108) = true := by kernel_rfl
theorem read_head (D : Deep P) {Q : Flow → Shared → Prop} {cm cb : Addr} (T : Top1 Pm B) (hh : A.handled = none) (ok : EOk env)
    (S : St B env.locals m [(cm, cellC none), (cb, cellC none), (Lw, slC oLw), (235, tabC (dPos facS) t1), (100, tabC (lPos lamE) t2)] h) (ht1 : TabR B facQ t1) (ht2 : TabR B lamQ t2)
    (k1 : env.cells.lookup ("made" : Str) = some cm) (k2 : env.cells.lookup ("book" : Str) = some cb) (hcode : env.code = .ref 237) (hqn : qualnameIn env "_law_factory" "_law_factory" = facQ) (hcl : closureFor (dScope facS) env = pure [(("made" : Str), cm)])
    (l1 : env.kindOf "told" = some .local) (l2 : env.kindOf "_law_factory" = some .local) (c1 : env.kindOf "made" = some .cell) (c2 : env.kindOf "book" = some .cell) (g1 : env.kindOf "FreezableDefaultDict" = some .globalImplicit)
    (hw : swappedStores (aTargets (bodyAt 14 0)) (aValue (bodyAt 14 0)) env = pure none)
    (hQ : ∀ B' h' k' TO M x dd F t1' om ob, Kp B B' → RI B' M x F ⟨[], [], []⟩ [] t2 none [] → TabR B' facQ t1' → B'.get? cm = some om → cellC (some (.ref M)) om → B'.get? cb = some ob → cellC (some (.ref x)) ob → (x == sysModules) = false →
      St B' env.locals (fun z => if z = Str.ofString "_law_factory" then some (.ref F) else if z = Str.ofString "told" then some (.ref TO) else m z) (RU w Lw TO M x dd F oLw [] t1' t2 none [] [] [] ++ []) h' → wpG P (model PW w) A (execs (rDrop 3) env) Q E (Sh s₀ h' k')) :
    RunsG P w A (execs (dBody (stmtAt 14)) env) Q E (Sh s₀ h k) := by
  refine ⟨?_⟩
  have hk := ok.kind
  have hs : sizeLine = 16777216 := sizeLine_eq
  obtain ⟨mg, hmg, _, hbt⟩ := T.bm
  refine wpG_execs_cons (wpAny.g ?_)
  refine PyProof.Rows.Assign_Tuple ?_ (by rfl) hw
  refine wpAny_Tuple_spliced (arg2 ?_)
  refine wpAny_List_spliced (arg0 ⟨Nat.zero_le _, ?_⟩)
  have S₁ := S.alloc { cls := .type "list", data := .seq ([] : List Value).toArray } (c := lst []) ⟨0, rfl⟩
  generalize h.objs.size = M at S₁ ⊢
  generalize h.push { cls := .type "list", data := .seq ([] : List Value).toArray } = h₁ at S₁ ⊢
  refine wpAny_List_spliced (arg0 ⟨Nat.zero_le _, ?_⟩)
  have S₂ := S₁.alloc { cls := .type "list", data := .seq ([] : List Value).toArray } (c := lst []) ⟨0, rfl⟩
  generalize h₁.objs.size = TO at S₂ ⊢
  generalize h₁.push { cls := .type "list", data := .seq ([] : List Value).toArray } = h₂ at S₂ ⊢
  refine ⟨by show 2 ≤ sizeLine; omega, ?_⟩
  refine wpAny_assign_Tuple (items := #[.ref M, .ref TO]) hh ⟨_, Heap.get?_push_size _ rfl, rfl, 0, rfl⟩ rfl rfl fun h₃ he => ?_
  have K₃ : Kp h₂ h₃ := fun b o e => he b o (Nat.ne_of_lt (Heap.lt_size (Heap.get?_push_of_some _ e))) (Heap.get?_push_of_some _ e)
  have S₃ := S₂.mono K₃
  refine wpAny_assignInOrder_more (wpAny_assign_Name (stC (U₁ := [(TO, lst []), (M, lst [])]) S₃ hk c1 k1 fun h₄ S₄ => ?_))
  refine wpAny_assignInOrder_more (wpAny_assign_Name (stn S₄ hk l1 fun h₅ k₅ S₅ => ?_))
  refine wpAny_assignInOrder_none ?_
  obtain ⟨B₆, om, kB₆, em, cm', S₆⟩ := St.give (U₁ := [(TO, lst []), (M, lst [])]) S₅
  have T₆ := T.keeps kB₆
  refine wpG_execs_cons (wpAny.g ?_)
  refine nestDef_K rfl rfl rfl ?_
  rw [hqn]
  obtain ⟨mg', hmg', _, hbt'⟩ := T₆.bm
  have S₆' : St B₆ env.locals _ ([(TO, lst []), (M, lst []), (cb, cellC none), (Lw, slC oLw)] ++ (235, tabC (dPos facS) t1) :: [(100, tabC (lPos lamE) t2)]) h₅ := S₆
  refine makeDef S₆' (ht1.keeps kB₆) hcl ok.globals hcode hmg' hbt' (codeHd_of_K T₆.K hd_237) fun B₇ h₇ k₇ F c' doc ctv nf nc kB₇ ht1' hF S₇ => ?_
  refine stn S₇ hk l2 fun h₈ k₈ S₈ => ?_
  have T₇ := T₆.keeps kB₇
  have T₈ := T₇.keeps S₈.keep
  refine wpG_execs_cons (wpAny.g ?_)
  refine wpAny_Assign_Name (wpAny_Call_NameR (ngl T₈.top ok g1 (by decide) (callWith_K (h₀ := h₈) (K := K0 Pm) T₈.K keep_108 (arg1 (nm (v := .ref F) S₈ hk l2 rfl ⟨T₈.K, ?_⟩)))))
  refine book_call (Pm := Pm) T₈.K (S₈.keep _ _ hF) rfl fun h₉ x dd hx K₉ nx nd hne ex ed => ?_
  have low := PyProof.Rows.modules_low T₈.top.nolimit
  have hxs : (x == sysModules) = false := beq_eq_false_iff_ne.mpr (Nat.ne_of_gt (Nat.lt_of_lt_of_le low hx))
  obtain ⟨n1, n2, n3⟩ := S₈.notIn nd
  have S₉ := (S₈.take K₉ nx ex (c := bookC w dd F []) (book_empty w dd F 0)).add ed (c := frzC w.params none) ⟨_, rfl⟩ n1 n2 (by rw [List.map_cons, List.mem_cons]; exact fun q => q.elim (fun e => hne e.symm) n3)
  have S₉' : St B₇ env.locals _ ([(dd, frzC w.params none), (x, bookC w dd F []), (TO, lst []), (M, lst [])] ++ (cb, cellC none) :: [(Lw, slC oLw), (235, tabC (dPos facS) (some c')), (100, tabC (lPos lamE) t2)]) h₉ := S₉
  refine stC S₉' hk c2 k2 fun h₁₀ S₁₀ => ?_
  obtain ⟨B₁₁, ob, kB₁₁, eb, cb', S₁₁⟩ := St.give S₁₀
  refine hQ B₁₁ h₁₀ _ TO M x dd F (some c') om ob ((kB₆.trans kB₇).trans kB₁₁) ⟨.nil, rfl, ⟨cm, c', doc, _, ctv, om, kB₁₁ _ _ hF, Heap.CodeRec.keeps ht1' kB₁₁, kB₁₁ _ _ (kB₇ _ _ em), cm'⟩, trivial, (ht2.keeps (kB₆.trans kB₇)).keeps kB₁₁⟩ (ht1'.keeps kB₁₁) (kB₁₁ _ _ (kB₇ _ _ em)) cm' eb cb' hxs ?_
  refine S₁₁.perm ?_
  show ([(dd, frzC w.params none), (x, bookC w dd F []), (TO, lst []), (M, lst [])] ++ [(Lw, slC oLw), (235, tabC (dPos facS) (some c')), (100, tabC (lPos lamE) t2)]).Perm
    [(Lw, slC oLw), (235, tabC (dPos facS) (some c')), (TO, lst []), (100, tabC (lPos lamE) t2), (dd, frzC w.params none), (x, bookC w dd F []), (M, lst [])]
  generalize (dd, frzC w.params none) = p1
  generalize (x, bookC w dd F []) = p2
  generalize (TO, lst []) = p3
  generalize (M, lst []) = p4
  refine List.perm_append_comm.trans (List.Perm.append_left [(Lw, slC oLw), (235, tabC (dPos facS) (some c'))] ?_)
  generalize (100, tabC (lPos lamE) t2) = p5
  show [p5, p1, p2, p3, p4].Perm [p3, p5, p1, p2, p4]
  exact ((List.perm_append_comm (l₁ := [p5, p1, p2]) (l₂ := [p3])).append_right [p4])
end
noncomputable def cOf : Expr → Str × Nat × Pos | .Constant (.str s) k p => (s, k, p) | _ => default
noncomputable def litsOf : Stmt → List Expr | .Assign _ (.ListComp _ [⟨_, .List es _, _, _⟩] _ _) _ => es | _ => []
noncomputable def rAnsC : List (Str × Nat × Pos) := (litsOf (bodyAt 14 5)).map cOf
section
variable {P : Ctx → Prop} {w : World} {A : Around} {E : Value → Shared → Prop} {R : Result → Shared → Prop} {s₀ : Shared} {B : Heap} {L : Addr} {m : Str → Option Value} {U V U₁ U₂ : List (Addr × Cell)} {h h' : Heap} {k : Nat} {env : Env} {Pm : Params}
variable {Lw TO M x dd F : Addr} {oLw : Obj} {tv : List Value} {t1 t2 : Option Addr} {fr : Option (Tok × Addr)} {ms : List Addr} {st : DS} {n : Nat}
inductive AnInv (w : World) (Lw TO M x dd F : Addr) (oLw : Obj) (tv : List Value) (t1 t2 : Option Addr) (fr : Option (Tok × Addr)) (q : List Nat × DS) (ys : List Value) (B' : Heap) (U' : Own) : Prop
  | mk (ms : List Addr) (hU : U' = RU w Lw TO M x dd F oLw tv t1 t2 fr (rowsA ms q.2.rows) ms q.2.made) (I : RI B' M x F q.2 tv t2 fr ms) (e : ys = q.1.map (fun j => Value.ref ((ms[j]?).getD 0))) (hj : ∀ j ∈ q.1, j < ms.length)
theorem read_answers {Q : Flow → Shared → Prop} {cm cb : Addr} {ob : Obj} {N : Nat} (T : Top1 Pm B) (hA : AOk 12 A) (ok : EOk env)
    (S : St B env.locals m (RU w Lw TO M x dd F oLw tv t1 t2 fr (rowsA ms st.rows) ms st.made ++ []) h) (I : RI B M x F st tv t2 fr ms) (bd : Bd N st) (hn : N ≤ 2000) (hlo : (x == sysModules) = false)
    (hcs : env.cells = [(("made" : Str), cm), (("book" : Str), cb)]) (hcb : B.get? cb = some ob) (hob : cellC (some (.ref x)) ob)
    (v1 : m "told" = some (.ref TO)) (v2 : m "_law_factory" = some (.ref F))
    (l1 : env.kindOf "told" = some .local) (l8 : env.kindOf "answers" = some .local) (c1 : env.kindOf "book" = some .cell)
    (hsw : swapOf (bodyAt 14 5) env = pure true)
    (hQ : ∀ B' h' k' D tv' t2' fr' ms' m', Kp B B' → RI B' M x F (ansD ansNames (tellD st .shut)).2 tv' t2' fr' ms' → (∀ j ∈ (ansD ansNames (tellD st .shut)).1, j < ms'.length) →
      St B' env.locals m' (RU w Lw TO M x dd F oLw tv' t1 t2' fr' (rowsA ms' (ansD ansNames (tellD st .shut)).2.rows) ms' (ansD ansNames (tellD st .shut)).2.made ++ [(D, lst ((ansD ansNames (tellD st .shut)).1.map (fun j => Value.ref ((ms'[j]?).getD 0))))]) h' →
      m' "told" = some (.ref TO) → m' "_law_factory" = some (.ref F) → m' "answers" = some (.ref D) → wpAny (model PW w) A (execs (rDrop 6) env) Q E (Sh s₀ h' k')) :
    Runs w A (execs (rDrop 4) env) Q E (Sh s₀ h k) := by
  refine ⟨?_⟩
  have hk := ok.kind
  have hh := hA.handled
  have hs : sizeLine = 16777216 := sizeLine_eq
  have k2 : env.cells.lookup ("book" : Str) = some cb := by rw [hcs]; rfl
  have htv : tv.length ≤ 10000 := by have := I.told.len; have := bd.told; omega
  obtain ⟨nT, hT⟩ := told_at S
  refine wpAny_execs_cons (wpAny_Expr_any ?_ (interactive_no ok) (by rfl))
  refine lmeth slot_list_append type_list_append (nm (v := .ref TO) S hk l1 v1 ⟨⟨TO, _, rfl, nT, hT⟩, arg1 ?_⟩)
  obtain ⟨es, nb, ex, _⟩ := book_at S
  obtain ⟨nd, ed⟩ := dd_at S
  refine book_freeze (Pm := Pm) (nmC (v := .ref x) ⟨ob, S.keep _ _ hcb, hob⟩ hk c1 k2 ⟨h, _, x, dd, F, es, nb, nd, fr, _, freezeFd, rfl, rfl, T.K.keeps S.keep, ex, ed, k_105 (T.K.keeps S.keep), rfl, ?_⟩)
  refine freeze_step S T (hA.le (by omega)) I fun B₁ h₁ k₁ t2' fr' kB₁ hs' I₁ S₁ => ?_
  refine told_step S₁ (by omega) fun h₂ S₂ => ?_
  have I₂ : RI B₁ M x F (tellD st .shut) (tv ++ [.none]) t2' fr' ms := ⟨I₁.told.snoc rfl, I₁.len, I₁.fac, I₁.frz, I₁.tab⟩
  have bd₂ : Bd (N + 1) (tellD st .shut) := ⟨Nat.le_succ_of_le bd.rows, Nat.le_succ_of_le bd.made, fun l hl => Nat.le_succ_of_le (bd.lists l hl), by simp [tellD]; have := bd.told; omega, bd.idx⟩
  have S₂' : St B₁ env.locals m (RU w Lw TO M x dd F oLw (tv ++ [.none]) t1 t2' fr' (rowsA ms (tellD st .shut).rows) ms (tellD st .shut).made ++ []) h₂ := S₂
  have hkeep : fr'.isNone = false := by cases fr' with | none => cases hs' | some _ => rfl
  have hcb₁ := kB₁ _ _ hcb
  have T₁ := T.keeps kB₁
  generalize tellD st .shut = st2 at *
  clear S₁ S₂ I₁ S I hT
  generalize tv ++ [Value.none] = tv2 at *
  refine wpAny_execs_cons ?_
  refine compU (s₀ := s₀) (cl := [(("book" : Str), cb)]) hk l8 hsw ?_ (by decide) rfl (by decide) ?_
  · refine (closureFor_some ?_).trans ?_
    · rw [hcs]
      intro x hx hf
      simp only [List.mem_cons, List.not_mem_nil, or_false] at hx
      rcases hx with rfl | rfl | rfl <;> first | rfl | cases hf
    · rw [hcs]; rfl
  refine listStrs ?cs ?b1 ?b2 ?b3
  case cs => exact rAnsC
  case b1 => rfl
  case b2 => show 4 ≤ sizeLine; omega
  intro oN hN hfN
  have hN' : txts ansNames oN := hN
  have S₁₃ := S₂'.alloc oN (c := its oN) rfl hfN
  obtain ⟨B₁₄, o', kB₁₄, e₁₄, co, S₁₄⟩ := S₁₃.give0
  cases co
  generalize hNa : h₂.objs.size = NA at e₁₄ ⊢
  obtain ⟨lN, nN, hlN, rfl⟩ := hN'
  have hL : (h₂.push { cls := .type "list", data := .seq (strValues lN).toArray nN }).IsList NA (strValues lN).toArray := ⟨_, S₁₄.old e₁₄, rfl, nN, rfl⟩
  refine wpAny_pyIter_list (s := Sh s₀ _ _) hL ?_
  generalize hH : h₂.push { cls := .type "list", data := .seq (strValues lN).toArray nN } = h₁₅ at S₁₄ hL ⊢
  have hne : NA ≠ h₁₅.objs.size := Nat.ne_of_lt (Heap.lt_size (S₁₄.old e₁₄))
  have S₁₅ : St B₁₄ env.locals _ (RU w Lw TO M x dd F oLw tv2 t1 t2' fr' (rowsA ms st2.rows) ms st2.made ++ (h₁₅.objs.size, its (listIt NA)) :: []) (h₁₅.push (listIt NA)) := St.allocMid S₁₄ (listIt NA) (c := its (listIt NA)) rfl
  have hlN4 : (strValues lN).length = 4 := by have := congrArg List.length hlN; simpa [strValues, ansNames] using this
  refine ⟨h₁₅.objs.size, (strValues lN).length, _, B₁₄, _, RU w Lw TO M x dd F oLw tv2 t1 t2' fr' (rowsA ms st2.rows) ms st2.made, [], listIt NA, _, _, wayList hh (items := strValues lN) e₁₄ hne,
    fun i => AnInv w Lw TO M x dd F oLw tv2 t1 t2' fr' (ansD (ansNames.take i) st2),
    rfl, rfl, S₁₅, by omega, ⟨⟨_, Heap.get?_push_size _ rfl, rfl, rfl⟩, hL.push _⟩, .inl fun _ => rfl, fun B' kb => ⟨ms, rfl, (I₂.keeps kB₁₄).keeps kb, rfl, fun j hj => (nomatch hj)⟩, ?_, ?_⟩
  · intro E' i v ys B₂ m₂ U₂ V h₂ k₂ C cenv hcv hi hP hinv hB₂ S₂ hk₂
    obtain ⟨ms', rfl, D₂, rfl, hys⟩ := hinv
    obtain ⟨y, t, rfl, hy⟩ := strVal_get hP
    rw [hlN] at hy
    have hst : ansD (ansNames.take (i + 1)) st2 = ((ansD (ansNames.take i) st2).1 ++ [(getV (ansD (ansNames.take i) st2).2 y false).1], (getV (ansD (ansNames.take i) st2).2 y false).2) := by
      rw [List.take_add_one, hy]; exact ansD_snoc _ _ _
    have hbd2 : Bd (N + 1 + 4) (ansD (ansNames.take i) st2).2 := by
      have b := ansD_bd (ansNames.take i) _ _ bd₂
      have hl4 : (ansNames.take i).length ≤ 4 := by rw [List.length_take]; have : ansNames.length = 4 := rfl; omega
      exact ⟨by have := b.rows; omega, by have := b.made; omega, fun l hl => by have := b.lists l hl; omega, by have := b.told; omega, b.idx⟩
    dsimp only
    rw [hst]
    generalize ansD (ansNames.take i) st2 = q at *
    have kk : cenv.scope.kind = .function := by rw [hcv]; rfl
    have kx : cenv.kindOf "name" = some .local := by rw [hcv]; exact relabel_kind rfl (by decide)
    have kr : cenv.kindOf "book" = some .cell := by rw [hcv]; exact relabel_free rfl hk c1
    have kcr : cenv.cells.lookup ("book" : Str) = some cb := by rw [hcv]; rfl
    refine wpAny_assign_Name (stn S₂ kk kx fun h₃ k₃ S₃ => wpAny_tests_nil ?_)
    have kB₃ := kB₁₄.trans hB₂
    have T₃ := T₁.keeps kB₃
    obtain ⟨es, nb, ex, _⟩ := book_at S₃
    refine sub_book (Pm := Pm) (nmC (v := .ref x) ⟨ob, S₃.keep _ _ (kB₃ _ _ hcb₁), hob⟩ kk kr kcr (nm (v := .str y t) S₃ kk kx (by simp) ⟨h₃, _, x, dd, F, es, nb, rfl, rfl, T₃.K.keeps S₃.keep, ex, ?_⟩))
    refine book_step (Pm := Pm) (st := q.2) T₃ (hA.le (by omega)) S₃ D₂ hbd2 (by omega) hlo fun B₄ h₄ k₄ b ms'' kB₄ D₄ hb hpre S₄ => ?_
    rw [hkeep] at D₄ S₄ hb
    have hys' : ∀ j ∈ q.1, ∃ c, ms'[j]? = some c := fun j hj => ⟨ms'[j]'(hys j hj), List.getElem?_eq_getElem (hys j hj)⟩
    refine ⟨B₄, _, RU w Lw TO M x dd F oLw tv2 t1 t2' fr' _ ms'' _, h₄, k₄, rfl, kB₄, S₄, ms'', rfl, D₄, ?_, fun j hj => ?_⟩
    · rw [List.map_append]
      congr 1
      · apply List.map_congr_left
        intro j hj
        obtain ⟨c, hc⟩ := hys' j hj
        rw [hc, hpre j c hc]
      · simp [hb]
    · rcases List.mem_append.mp hj with hj | hj
      · obtain ⟨c, hc⟩ := hys' j hj
        exact (List.getElem?_eq_some_iff.mp (hpre j c hc)).1
      · simp only [List.mem_singleton] at hj
        subst hj
        exact (List.getElem?_eq_some_iff.mp hb).1
  · intro ys B₂ U₂ D₂ h₂ k₂ hinv hB₂ S₂ hk₂
    obtain ⟨ms', rfl, DD, rfl, hys⟩ := hinv
    have hall : ansNames.take (strValues lN).length = ansNames := by rw [hlN4]; rfl
    rw [hall] at S₂ DD hys
    exact hQ B₂ h₂ k₂ D₂ tv2 t2' fr' ms' _ (kB₁.trans (kB₁₄.trans hB₂)) DD hys S₂ v1 v2 rfl
end
section
variable {P : Ctx → Prop} {w : World} {A : Around} {E : Value → Shared → Prop} {R : Result → Shared → Prop} {s₀ : Shared} {B : Heap} {L : Addr} {m : Str → Option Value} {U V U₁ U₂ Z : List (Addr × Cell)} {h h' : Heap} {k : Nat} {env : Env} {Pm : Params}
variable {Lw TO M x dd F : Addr} {oLw : Obj} {tv : List Value} {t1 t2 : Option Addr} {fr : Option (Tok × Addr)} {ms : List Addr} {st : DS} {n : Nat}
theorem St.settle (S : St B L m (U ++ Z) h) : ∃ B', Kp B B' ∧ (∀ p ∈ Z, ∃ o, B'.get? p.1 = some o ∧ p.2 o) ∧ (∀ a o, h.get? a = some o → a ∉ L :: U.map (·.1) → B'.get? a = some o) ∧ St B' L m U h := by
  have nd := S.nd
  rw [List.map_append] at nd
  have nd' := List.nodup_append.mp nd
  have hB : ∀ a ∈ L :: U.map (·.1), B.get? a = none := fun a ha => by
    rcases List.mem_cons.mp ha with rfl | ha
    · exact S.nl
    · obtain ⟨p, hp, rfl⟩ := List.mem_map.mp ha
      exact (S.own p (List.mem_append_left _ hp)).2.2
  refine ⟨hideAll h (L :: U.map (·.1)), kp_hide S.keep hB, fun p hp => ?_, fun a o e hn => hideAll_get _ e hn, S.ns, kp_hideAll _ _, hideAll_at (.head _), fun p hp => ?_, nd'.1⟩
  · obtain ⟨⟨o, e, c⟩, n1, _⟩ := S.own p (List.mem_append_right _ hp)
    refine ⟨o, hideAll_get _ e fun q => ?_, c⟩
    rcases List.mem_cons.mp q with q | q
    · exact n1 q
    · exact nd'.2.2 _ q _ (List.mem_map_of_mem hp) rfl
  · obtain ⟨a, b, _⟩ := S.own p (List.mem_append_left _ hp)
    exact ⟨a, b, hideAll_at (.tail _ (List.mem_map_of_mem hp))⟩
theorem rows_of {rows : List (Str × Addr)} {es : Array DictEntry} {lo : Addr} {as : List Addr} (D : BookD w dd F rows es) (G : ItG es lo h as) (hl : as.length = es.size) (vis : ∀ a o, lo < a → h.get? a = some o → h'.get? a = some o) : RowsR h' (as.map Value.ref) rows := by
  have hlen : es.toList.length = (rowsV rows).length := D.pairs.length
  have hr : (rowsV rows).length = rows.length := by simp [rowsV]
  refine forall₂_of_get (by simp at hlen ⊢; omega) fun j v p hv hp => ?_
  simp only [List.getElem?_map, Option.map_eq_some_iff] at hv
  obtain ⟨a, haj, rfl⟩ := hv
  obtain ⟨e, he, ha⟩ := G.pairs j a haj
  have he' : es.toList[j]? = some e := by rw [Array.getElem?_toList]; exact he
  have hp' : (rowsV rows)[j]? = some (p.1, Value.ref p.2) := by simp [rowsV, hp]
  obtain ⟨hk, hv⟩ := D.pairs.get? he' hp'
  obtain ⟨t, ht⟩ := Value.isStrOf_shape hk
  refine ⟨a, t, rfl, ?_⟩
  have := vis a _ (G.above a (List.mem_of_getElem? haj)) ha
  rw [this, ht, hv]
theorem read_end {Q : Flow → Shared → Prop} {cm cb D : Addr} {om ob : Obj} {N : Nat} {ans : List Nat} (T : Top1 Pm B) (hA : AOk 12 A) (ok : EOk env)
    (S : St B env.locals m (RU w Lw TO M x dd F oLw tv t1 t2 fr (rowsA ms st.rows) ms st.made ++ [(D, lst (ans.map (fun j => Value.ref ((ms[j]?).getD 0))))]) h) (I : RI B M x F st tv t2 fr ms) (bd : Bd N st) (hn : N ≤ 5000) (hlo : (x == sysModules) = false)
    (hans : ∀ j ∈ ans, j < ms.length)
    (hcs : env.cells = [(("made" : Str), cm), (("book" : Str), cb)]) (hcm : B.get? cm = some om) (hom : cellC (some (.ref M)) om) (hcb : B.get? cb = some ob) (hob : cellC (some (.ref x)) ob)
    (v1 : m "told" = some (.ref TO)) (v2 : m "_law_factory" = some (.ref F)) (v3 : m "answers" = some (.ref D))
    (l1 : env.kindOf "told" = some .local) (l2 : env.kindOf "_law_factory" = some .local) (l3 : env.kindOf "answers" = some .local) (l4 : env.kindOf "other" = some .local) (c1 : env.kindOf "book" = some .cell) (c2 : env.kindOf "made" = some .cell)
    (g1 : env.kindOf "FreezableDefaultDict" = some .globalImplicit) (g2 : env.kindOf "list" = some .globalImplicit)
    (hQ : ∀ B' h' k' d m', Kp B B' → B.get? d = none → ResAt B' (.ref 203) d ⟨st.rows, st.made ++ [[Str.ofString "new"]], st.told⟩ ans → St B' env.locals m' [(Lw, slC oLw), (235, tabC (dPos facS) t1), (100, tabC (lPos lamE) t2)] h' → Q (.ret (.ref d)) (Sh s₀ h' k')) :
    Runs w A (execs (rDrop 6) env) Q E (Sh s₀ h k) := by
  refine ⟨?_⟩
  have hk := ok.kind
  have hh := hA.handled
  have hs : sizeLine = 16777216 := sizeLine_eq
  have k1 : env.cells.lookup ("made" : Str) = some cm := by rw [hcs]; rfl
  have k2 : env.cells.lookup ("book" : Str) = some cb := by rw [hcs]; rfl
  obtain ⟨cm₀, c', doc, pm, ctv, oc₀, eF, _⟩ := I.fac
  have Th := T.keeps S.keep
  refine wpAny_execs_cons ?_
  refine wpAny_Assign_Name (wpAny_Call_NameR (ngl Th.top ok g1 (by decide) (callWith_K (h₀ := h) (K := K0 Pm) Th.K keep_108 (arg1 (nm (v := .ref F) S hk l2 v2 ⟨Th.K, ?_⟩)))))
  refine book_call (Pm := Pm) Th.K (S.keep _ _ eF) rfl fun h₁ y dy hy K₁ ny nd hne ey ed => ?_
  have hys : (y == sysModules) = false := beq_eq_false_iff_ne.mpr (Nat.ne_of_gt (Nat.lt_of_lt_of_le (PyProof.Rows.modules_low Th.top.nolimit) hy))
  obtain ⟨n1, n2, n3⟩ := S.notIn nd
  have S₁ := (S.take K₁ ny ey (c := bookC w dy F []) (book_empty w dy F 0)).add ed (c := frzC w.params none) ⟨_, rfl⟩ n1 n2 (by rw [List.map_cons, List.mem_cons]; exact fun q => q.elim (fun e => hne e.symm) n3)
  refine stn S₁ hk l4 fun h₂ k₂ S₂ => ?_
  obtain ⟨m₂, hm₂, S₂⟩ : ∃ m₂ : Str → Option Value, m₂ = (fun z => if z = Str.ofString "other" then some (.ref y) else m z) ∧ St B env.locals m₂ ((dy, frzC w.params none) :: (y, bookC w dy F []) :: (RU w Lw TO M x dd F oLw tv t1 t2 fr (rowsA ms st.rows) ms st.made ++ [(D, lst (ans.map (fun j => Value.ref ((ms[j]?).getD 0))))])) h₂ := ⟨_, rfl, S₂⟩
  have u1 : m₂ "told" = some (.ref TO) := by rw [hm₂]; exact v1
  have u3 : m₂ "answers" = some (.ref D) := by rw [hm₂]; exact v3
  have u4 : m₂ "other" = some (.ref y) := by rw [hm₂]; rfl
  clear hm₂
  refine wpAny_execs_cons (wpAny_Expr_any ?_ (interactive_no ok) (by rfl))
  obtain ⟨oy, eoy, esy, ny', rfl, _⟩ := S₂.get (a := y) (c := bookC w dy F []) (.tail _ (.head _))
  refine lmeth slot_list_append type_list_append (sub_book (Pm := Pm) (nm (v := .ref y) S₂ hk l4 u4 (c_str ⟨h₂, _, y, dy, F, esy, ny', rfl, rfl, T.K.keeps S₂.keep, eoy, ?_⟩)))
  generalize hZ : cellsM ms st.made ++ [(D, lst (ans.map (fun j => Value.ref ((ms[j]?).getD 0))))] = Z
  have S₃ : St B env.locals m₂ (((dy, frzC w.params none) :: ([(Lw, slC oLw), (235, tabC (dPos facS) t1), (TO, lst tv), (100, tabC (lPos lamE) t2), (dd, frzC w.params fr), (x, bookC w dd F (rowsA ms st.rows))] ++ Z)) ++ [(y, bookC w dy F []), (M, lst (ms.map Value.ref))]) h₂ := S₂.perm (by
    subst hZ
    refine List.Perm.cons _ ?_
    refine (List.Perm.cons _ (List.perm_middle (l₁ := [(Lw, slC oLw), (235, tabC (dPos facS) t1), (TO, lst tv), (100, tabC (lPos lamE) t2), (dd, frzC w.params fr), (x, bookC w dd F (rowsA ms st.rows))]))).trans ?_
    exact List.perm_append_comm (l₁ := [(y, bookC w dy F []), (M, lst (ms.map Value.ref))]))
  refine book_item S₃ (.head _) T (hA.le (by omega)) I.fac (fr := none) trivial (by have := bd.made; have := I.len; simp; omega) (by simp) hys (fun k' a hf => by cases hf) (fun B₄ h₄ k₄ a _ kB₄ na S₄ => ?_)
  obtain ⟨oa, eoa, la, na', hla, rfl⟩ := S₄.get (a := a) (c := txts []) (by simp)
  refine ⟨⟨a, _, rfl, ⟨na', eoa⟩⟩, arg1 (c_str ?_)⟩
  have S₄' : St B₄ env.locals m₂ ((((dy, frzC w.params none) :: ([(Lw, slC oLw), (235, tabC (dPos facS) t1), (TO, lst tv), (100, tabC (lPos lamE) t2), (dd, frzC w.params fr), (x, bookC w dd F (rowsA ms st.rows))] ++ Z)) ++ [(y, bookC w dy F [(Str.ofString "k", a)]), (M, lst (ms.map Value.ref ++ [.ref a]))]) ++ (a, txts []) :: []) h₄ := by
    rw [List.append_assoc]; exact S₄
  refine appendT S₄' (by simp) fun h₅ S₅ => ?_
  have T₅ := (T.keeps kB₄).keeps S₅.keep
  refine Classical.byContradiction fun hno => ?_
  obtain ⟨ox, ex, esx, nx, rfl, Dx⟩ := S₅.get (a := x) (c := bookC w dd F (rowsA ms st.rows)) (by simp)
  obtain ⟨odd, edd, ndd, rfl⟩ := S₅.get (a := dd) (c := frzC w.params fr) (by simp)
  obtain ⟨oy₅, ey₅, esy₅, ny₅, rfl, Dy⟩ := S₅.get (a := y) (c := bookC w dy F [(Str.ofString "k", a)]) (by simp)
  obtain ⟨ody, edy, ndy, rfl⟩ := S₅.get (a := dy) (c := frzC w.params none) (by simp)
  have hsx : esx.size = st.rows.length := by have := Dx.pairs.length; simpa [rowsV, rowsA] using this
  have hsy : esy₅.size = 1 := by have := Dy.pairs.length; simpa [rowsV] using this
  refine hno (wpAny_execs_cons (wpAny_Return_some (wpAny_Tuple_spliced (arg5 ?_))))
  clear hno
  refine nm (v := .ref TO) S₅ hk l1 u1 ?_
  refine callT (id := "list") T₅.top ok g2 (by decide) (arg1 (book_items (Pm := Pm) (nmC (v := .ref x) ⟨ob, S₅.keep _ _ (kB₄ _ _ hcb), hob⟩ hk c1 k2 ⟨h₅, _, x, dd, F, esx, nx, ndd, fr, rfl, rfl, T₅.K, ex, edd, hlo, ?_⟩)))
  have K₆ : Kp h₅ (h₅.push { cls := .type "dict_items", data := .fields #[.ref x] }) := Kp.push _ _
  have evx : (h₅.push { cls := .type "dict_items", data := .fields #[.ref x] }).get? h₅.objs.size = some { cls := .type "dict_items", data := .fields #[.ref x] } := Heap.get?_push_size _ rfl
  have z₆ : h₅.objs.size < (h₅.push { cls := .type "dict_items", data := .fields #[.ref x] }).objs.size := Heap.lt_size evx
  generalize h₅.push { cls := .type "dict_items", data := .fields #[.ref x] } = h₆ at K₆ evx z₆ ⊢
  refine it_list hh ⟨_, evx, rfl, rfl⟩ (K₆ _ _ ex) rfl (by rw [hsx]; have := bd.rows; omega) fun h₇ k₇ cx ax K₇ eR hlx Gx => ?_
  have S₇ := (S₅.mono K₆).mono K₇
  have T₇ := (T₅.keeps K₆).keeps K₇
  refine nmC (v := .ref M) ⟨om, S₇.keep _ _ (kB₄ _ _ hcm), hom⟩ hk c2 k1 (nm (v := .ref D) S₇ hk l3 u3 ?_)
  have up₇ : Kp h₅ h₇ := K₆.trans K₇
  refine callT (id := "list") T₇.top ok g2 (by decide) (arg1 (book_items (Pm := Pm) (nm (v := .ref y) S₇ hk l4 u4 ⟨h₇, _, y, dy, F, esy₅, ny₅, ndy, none, rfl, rfl, T₇.K, up₇ _ _ ey₅, up₇ _ _ edy, hys, ?_⟩)))
  have K₈ : Kp h₇ (h₇.push { cls := .type "dict_items", data := .fields #[.ref y] }) := Kp.push _ _
  have evy : (h₇.push { cls := .type "dict_items", data := .fields #[.ref y] }).get? h₇.objs.size = some { cls := .type "dict_items", data := .fields #[.ref y] } := Heap.get?_push_size _ rfl
  have z₈ : h₇.objs.size < (h₇.push { cls := .type "dict_items", data := .fields #[.ref y] }).objs.size := Heap.lt_size evy
  generalize h₇.push { cls := .type "dict_items", data := .fields #[.ref y] } = h₈ at K₈ evy z₈ ⊢
  refine it_list hh ⟨_, evy, rfl, rfl⟩ (K₈ _ _ (up₇ _ _ ey₅)) rfl (by rw [hsy]; omega) fun h₉ k₉ cy ay K₉ eW hly Gy => ?_
  refine ⟨by show 5 ≤ sizeLine; omega, ?_⟩
  have K₀ : Kp h₉ (h₉.push (tupO [.ref TO, .ref h₆.objs.size, .ref M, .ref D, .ref h₈.objs.size])) := Kp.push _ _
  have eT : (h₉.push (tupO [.ref TO, .ref h₆.objs.size, .ref M, .ref D, .ref h₈.objs.size])).get? h₉.objs.size = some (tupO [.ref TO, .ref h₆.objs.size, .ref M, .ref D, .ref h₈.objs.size]) := Heap.get?_push_size _ rfl
  show Q (.ret (.ref h₉.objs.size)) (Sh s₀ (h₉.push (tupO [.ref TO, .ref h₆.objs.size, .ref M, .ref D, .ref h₈.objs.size])) k₉)
  generalize hfin : h₉.push (tupO [.ref TO, .ref h₆.objs.size, .ref M, .ref D, .ref h₈.objs.size]) = hF at K₀ eT ⊢
  have s57 : h₅.objs.size ≤ h₇.objs.size := Nat.le_of_lt (Nat.lt_trans z₆ (Heap.lt_size eR))
  have s59 : h₅.objs.size ≤ h₉.objs.size := Nat.le_of_lt (Nat.lt_of_le_of_lt s57 (Nat.lt_trans z₈ (Heap.lt_size eW)))
  have S₉ := ((S₇.mono K₈).mono K₉).mono K₀
  have S₁₀ : St B₄ env.locals m₂ ([(Lw, slC oLw), (235, tabC (dPos facS) t1), (100, tabC (lPos lamE) t2)] ++ ((dy, frzC w.params none) :: (TO, lst tv) :: (dd, frzC w.params fr) :: (x, bookC w dd F (rowsA ms st.rows)) :: (Z ++ [(y, bookC w dy F [(Str.ofString "k", a)]), (M, lst (ms.map Value.ref ++ [.ref a])), (a, txts [Str.ofString "new"])]))) hF := S₉.perm (by
    have e : ∀ p1 p2 p3 p4 p5 : Addr × Cell, ∀ r : List (Addr × Cell), (p1 :: p2 :: p3 :: p4 :: p5 :: r).Perm (p2 :: p3 :: p5 :: p1 :: p4 :: r) := fun p1 p2 p3 p4 p5 r =>
      (List.perm_append_comm (l₁ := [p1]) (l₂ := [p2, p3])).append_right (p4 :: p5 :: r) |>.trans (List.Perm.append_left [p2, p3] ((List.perm_append_comm (l₁ := [p1, p4]) (l₂ := [p5])).append_right r))
    refine List.Perm.trans ?_ (e ..)
    simp only [List.cons_append, List.nil_append, List.append_assoc]
    exact List.Perm.refl _)
  obtain ⟨B', kB', own', vis', S'⟩ := S₁₀.settle
  have new : ∀ b o, h₅.objs.size ≤ b → hF.get? b = some o → B'.get? b = some o := fun b o hb e => vis' b o e fun q => by
    have hlt : b < h₅.objs.size := by
      rcases List.mem_cons.mp q with rfl | q
      · exact S₅.ns.lt
      · simp only [List.map_cons, List.map_nil, List.mem_cons, List.not_mem_nil, or_false] at q
        rcases q with rfl | rfl | rfl
        · obtain ⟨⟨o, e, _⟩, _⟩ := S₅.own (b, slC oLw) (by simp); exact Heap.lt_size e
        · obtain ⟨⟨o, e, _⟩, _⟩ := S₅.own (235, tabC (dPos facS) t1) (by simp); exact Heap.lt_size e
        · obtain ⟨⟨o, e, _⟩, _⟩ := S₅.own (100, tabC (lPos lamE) t2) (by simp); exact Heap.lt_size e
    omega
  have kk : Kp B B' := kB₄.trans kB'
  have up₉ : Kp h₇ hF := (K₈.trans K₉).trans K₀
  have lm := I.len
  have cell : ∀ {b : Addr} {c : Cell}, (b, c) ∈ ((dy, frzC w.params none) :: (TO, lst tv) :: (dd, frzC w.params fr) :: (x, bookC w dd F (rowsA ms st.rows)) :: (Z ++ [(y, bookC w dy F [(Str.ofString "k", a)]), (M, lst (ms.map Value.ref ++ [.ref a])), (a, txts [Str.ofString "new"])])) → ∃ o, B'.get? b = some o ∧ c o := fun hm => own' _ hm
  obtain ⟨_, r1, n1, rfl⟩ := cell (b := TO) (c := lst tv) (by simp)
  obtain ⟨_, r3, n3, rfl⟩ := cell (b := M) (c := lst (ms.map Value.ref ++ [.ref a])) (by simp)
  obtain ⟨_, r4, n4, rfl⟩ := cell (b := D) (c := lst (ans.map (fun j => Value.ref ((ms[j]?).getD 0)))) (by rw [← hZ]; simp)
  obtain ⟨oa', ra, ca⟩ := cell (b := a) (c := txts [Str.ofString "new"]) (by simp)
  have RR : RowsR B' (ax.map Value.ref) (rowsA ms st.rows) := rows_of Dx Gx hlx fun b o hb e => new b o (Nat.le_of_lt (Nat.lt_trans z₆ hb)) (up₉ _ _ e)
  have RW : RowsR B' (ay.map Value.ref) [(Str.ofString "k", a)] := rows_of Dy Gy hly fun b o hb e => new b o (Nat.le_of_lt (Nat.lt_of_le_of_lt s57 (Nat.lt_trans z₈ hb))) (K₀ _ _ e)
  obtain ⟨w1, tw, ew, hw1⟩ : ∃ w1 t, ay.map Value.ref = [.ref w1] ∧ B'.get? w1 = some (tupO [.str (Str.ofString "k") t, .ref a]) := by
    generalize ay.map Value.ref = vs at RW
    cases RW with
    | cons q r =>
      obtain ⟨w1, t, rfl, e⟩ := q
      cases r
      exact ⟨w1, t, rfl, e⟩
  rw [ew] at eW
  refine hQ B' hF _ h₉.objs.size m₂ kk ?_ ⟨TO, h₆.objs.size, M, D, h₈.objs.size, tv, ax.map Value.ref, ms ++ [a], n1, cx, n3, n4, cy, new _ _ s59 eT, r1, (I.told.keeps kk), new _ _ (by omega) (up₉ _ _ eR), ?_, ?_, ?_, ?_, ?_,
    w1, a, tw, oa', new _ _ (by omega) (K₀ _ _ eW), hw1, ra, ca⟩ S'
  · exact (kB₄.trans (S₅.keep.trans ((K₆.trans K₇).trans (K₈.trans K₉)))).none (get_none_of_ge (Nat.le_refl _))
  · have e : rowsA (ms ++ [a]) st.rows = rowsA ms st.rows := rowsA_snoc (fun p hp => by rw [lm]; exact bd.idx p hp) a
    show RowsR B' _ (rowsA (ms ++ [a]) st.rows)
    rw [e]; exact RR
  · rw [List.map_append]; exact r3
  · show (ms ++ [a]).length = (st.made ++ [[Str.ofString "new"]]).length
    simp [lm]
  · intro j b l hj hl
    have hl' : (st.made ++ [[Str.ofString "new"]])[j]? = some l := hl
    by_cases hlt : j < ms.length
    · rw [List.getElem?_append_left hlt] at hj
      rw [List.getElem?_append_left (by omega)] at hl'
      obtain ⟨c1', c2', e1', _⟩ := cellsM_split hj hl'
      exact cell (b := b) (c := txts l) (by rw [← hZ, e1']; simp)
    · have hjlt := (List.getElem?_eq_some_iff.mp hj).1
      have : j = ms.length := by simp at hjlt; omega
      subst this
      simp at hj
      rw [lm] at hl'
      simp at hl'
      subst hj hl'
      exact ⟨oa', ra, ca⟩
  · have : ans.map (fun j => Value.ref (((ms ++ [a])[j]?).getD 0)) = ans.map (fun j => Value.ref ((ms[j]?).getD 0)) := by
      apply List.map_congr_left
      intro j hj
      rw [List.getElem?_append_left (hans j hj)]
    rw [this]; exact r4
end
section
variable {P : Ctx → Prop} {w : World} {A : Around} {E : Value → Shared → Prop} {R : Result → Shared → Prop} {s₀ : Shared} {B : Heap} {L : Addr} {m : Str → Option Value} {U V U₁ U₂ Z : List (Addr × Cell)} {h h' : Heap} {k : Nat} {env : Env} {Pm : Params}
variable {Lw : Addr} {oLw : Obj} {t1 t2 : Option Addr}
inductive RInv (w : World) (Lw TO M x dd F a : Addr) (oLw : Obj) (t1 : Option Addr) (shut : Int) (tsh : Tok) (i : Nat) (st : DS) (B' : Heap) (m' : Locs) (U' : Own) : Prop
  | mk (tv : List Value) (t2 : Option Addr) (fr : Option (Tok × Addr)) (ms : List Addr) (hU : U' = RU w Lw TO M x dd F oLw tv t1 t2 fr (rowsA ms st.rows) ms st.made) (I : RI B' M x F st tv t2 fr ms) (hf : fr.isSome = decide (0 ≤ shut ∧ shut < (i : Nat)))
      (e1 : m' "told" = some (.ref TO)) (e2 : m' "items" = some (.ref a)) (e3 : m' "shut" = some (.int shut tsh)) (e4 : m' "_law_factory" = some (.ref F))
theorem read_body (D : Deep P) {Q : Flow → Shared → Prop} {cm cb a : Addr} {o : Obj} {xs : List Str} {shut : Int} {tsh : Tok} {lenv : Env} (hP : ∀ x ∈ xs, cutEq x = none → ∀ Γ, P Γ → Ctx.called Γ) (T : Top1 Pm B) (hA : AOk 12 (A.deeper env)) (ok : EOk env) (hf : env.frame = some env.locals)
    (S : St B env.locals m [(cm, cellC none), (cb, cellC none), (Lw, slC oLw), (235, tabC (dPos facS) t1), (100, tabC (lPos lamE) t2)] h) (ht1 : TabR B facQ t1) (ht2 : TabR B lamQ t2)
    (hfr : A.frames = some [lenv]) (lk : lenv.scope.kind ≠ .module) (lf : lenv.frame = some Lw) (nsL : ∀ (h : Heap) sl, h.get? Lw = some { oLw with slots := sl } → ∃ mL, h.Ns Lw mL) (ndL : ∀ vs, oLw.data ≠ .fields vs)
    (hcs : env.cells = [(("made" : Str), cm), (("book" : Str), cb)]) (hcode : env.code = .ref 237) (hqn : qualnameIn env "_law_factory" "_law_factory" = facQ) (hcl : closureFor (dScope facS) env = pure [(("made" : Str), cm)])
    (v3 : m "items" = some (.ref a)) (v5 : m "shut" = some (.int shut tsh)) (ha : B.get? a = some o) (ho : txts xs o) (hn : xs.length ≤ 1000) (hsz : ∀ x ∈ xs, x.length ≤ 1000)
    (l1 : env.kindOf "told" = some .local) (l2 : env.kindOf "_law_factory" = some .local) (l3 : env.kindOf "items" = some .local) (l4 : env.kindOf "i" = some .local) (l5 : env.kindOf "shut" = some .local) (l6 : env.kindOf "pair" = some .local) (l7 : env.kindOf "answers" = some .local) (l8 : env.kindOf "other" = some .local)
    (c1 : env.kindOf "made" = some .cell) (c2 : env.kindOf "book" = some .cell) (g1 : env.kindOf "FreezableDefaultDict" = some .globalImplicit) (g2 : env.kindOf "range" = some .globalImplicit) (g3 : env.kindOf "len" = some .globalImplicit) (g4 : env.kindOf "Pair" = some .globalImplicit) (g5 : env.kindOf "TypeError" = some .globalImplicit) (g6 : env.kindOf "list" = some .globalImplicit)
    (hw : swappedStores (aTargets (bodyAt 14 0)) (aValue (bodyAt 14 0)) env = pure none) (hsw : swapOf (bodyAt 14 5) env = pure true)
    (hQ : ∀ B' h' k' d m' t1' t2', Kp B B' → B.get? d = none → TabR B' facQ t1' → TabR B' lamQ t2' → ResAt B' (.ref 203) d (resD (kR shut) (sR shut) xs).2 (resD (kR shut) (sR shut) xs).1 →
      St B' env.locals m' [(Lw, slC oLw), (235, tabC (dPos facS) t1'), (100, tabC (lPos lamE) t2')] h' → Q (.ret (.ref d)) (Sh s₀ h' k')) :
    RunsG P w (A.deeper env) (execs (dBody (stmtAt 14)) env) Q E (Sh s₀ h k) := by
  have hk := ok.kind
  have hh : (A.deeper env).handled = none := hA.handled
  have k1 : env.cells.lookup ("made" : Str) = some cm := by rw [hcs]; rfl
  have k2 : env.cells.lookup ("book" : Str) = some cb := by rw [hcs]; rfl
  obtain ⟨l, nl, hlx, rfl⟩ := id ho
  have hlen : (strValues l).length = xs.length := by rw [← hlx]; simp [strValues]
  refine read_head (Pm := Pm) D T hh ok S ht1 ht2 k1 k2 hcode hqn hcl l1 l2 c1 c2 g1 hw fun B₁ h₁ k₁ TO M x dd F t1' om ob kB₁ I₁ ht1' hcm hom hcb hob hlo S₁ => ?_
  have T₁ := T.keeps kB₁
  refine wpG_execs_cons ?_
  refine forRangeG (s₀ := s₀) (items := strValues l) (V := []) D hh (T₁.top.keeps S₁.keep) ok g2 g3 l3 (by decide) S₁ (by exact v3) (kB₁ _ _ ha) rfl rfl (by omega)
    (fun i => RInv w Lw TO M x dd F a oLw t1' shut tsh i (runD (kR shut) (sR shut) 0 (xs.take i) ⟨[], [], []⟩))
    ⟨[], t2, none, [], rfl, I₁, by simp, rfl, v3, v5, rfl⟩ ?_ ?_
  · intro i u B' m' U' V' h₂ k₂ hi hinv hB S₂
    obtain ⟨tv, t2', fr, ms, rfl, I₂, hfz, e1, e2, e3, e4⟩ := hinv
    rw [hlen] at hi
    have hbd := runD_bd (kR shut) (sR shut) (xs.take i) 0 0 _ Bd.zero
    have htl : (xs.take i).length = i := by simp; omega
    rw [Nat.zero_add, htl] at hbd
    have hy : xs[i]? = some xs[i] := List.getElem?_eq_getElem hi
    generalize xs[i] = y at hy
    have hyl : y.length ≤ 1000 := hsz y (List.mem_of_getElem? hy)
    have hst : runD (kR shut) (sR shut) 0 (xs.take (i + 1)) ⟨[], [], []⟩ = stepD (kR shut i) (sR shut i) (runD (kR shut) (sR shut) 0 (xs.take i) ⟨[], [], []⟩) y := by
      rw [List.take_add_one, hy]
      show runD _ _ 0 (xs.take i ++ [y]) _ = _
      rw [runD_snoc, Nat.zero_add, htl]
    rw [hst]
    generalize runD (kR shut) (sR shut) 0 (xs.take i) ⟨[], [], []⟩ = st at *
    refine wpAny_assign_Name (stn S₂ hk l4 fun h₃ k₃ S₃ => ?_)
    have kB := kB₁.trans hB
    obtain ⟨key⟩ := read_turn (Pm := Pm) (s₀ := s₀) (k := k₃) (E := LE w (A.deeper env) env (fun f s' => match f with | .next => wpG P (model PW w) (A.deeper env) (execs (rDrop 4) env) Q E s' | f => Q f s') E) (ui := u) (tsh := tsh) (nl := nl)
      (Q := NxF s₀ env.locals V' B' (RInv w Lw TO M x dd F a oLw t1' shut tsh (i + 1) (stepD (kR shut i) (sR shut i) st y)) fun f s₃ => match f with | .next => wpG P (model PW w) (A.deeper env) (execs (rDrop 4) env) Q E s₃ | f => Q f s₃) D (hP y (List.mem_of_getElem? hy)) (T.keeps kB) hA ok hf S₃ I₂ hfr lk lf nsL ndL hbd (by omega) hlo k2 (hB _ _ hcb) hob hfz (by exact e1) (by exact e2) rfl (by exact e3) (kB _ _ ha) (by omega) (by rw [hlx]; exact hy) hyl l1 l6 l3 l4 l5 c2 g4 g5
      fun f B₄ h₄ k₄ m₄ tv' t2'' fr' ms' hff kB₄ I₄ hfz' S₄ hm => by
        have w1 : m₄ "told" = some (.ref TO) := (hm _ (by decide)).trans e1
        have w2 : m₄ "items" = some (.ref a) := (hm _ (by decide)).trans e2
        have w3 : m₄ "shut" = some (.int shut tsh) := (hm _ (by decide)).trans e3
        have w4 : m₄ "_law_factory" = some (.ref F) := (hm _ (by decide)).trans e4
        rcases hff with rfl | rfl
        · exact ⟨B₄, m₄, _, h₄, k₄, rfl, kB₄, S₄, tv', t2'', fr', ms', rfl, I₄, hfz', w1, w2, w3, w4⟩
        · exact ⟨B₄, m₄, _, h₄, k₄, rfl, kB₄, S₄, tv', t2'', fr', ms', rfl, I₄, hfz', w1, w2, w3, w4⟩
    exact key
  · intro B' m' U' h₂ k₂ hinv hB S₂
    obtain ⟨tv, t2', fr, ms, rfl, I₂, hfz, e1, e2, e3, e4⟩ := hinv
    have hbd := runD_bd (kR shut) (sR shut) xs 0 0 _ Bd.zero
    rw [Nat.zero_add] at hbd
    rw [hlen, List.take_length] at S₂ I₂
    have hres : resD (kR shut) (sR shut) xs = finD (runD (kR shut) (sR shut) 0 xs ⟨[], [], []⟩) := rfl
    rw [hres] at hQ
    generalize runD (kR shut) (sR shut) 0 xs ⟨[], [], []⟩ = st at *
    have kB := kB₁.trans hB
    obtain ⟨key⟩ := read_answers (Pm := Pm) (s₀ := s₀) (k := k₂) (E := E) (Q := Q) (T.keeps kB) hA ok S₂ I₂ hbd (by omega) hlo hcs (hB _ _ hcb) hob e1 e4 l1 l7 c2 hsw
      fun B₃ h₃ k₃ D₃ tv' t2'' fr' ms' m₃ kB₃ I₃ hans S₃ w1 w2 w3 => by
        have hb2 : Bd (xs.length + 1 + 4) (ansD ansNames (tellD st .shut)).2 := ansD_bd ansNames _ _ ⟨Nat.le_succ_of_le hbd.rows, Nat.le_succ_of_le hbd.made, fun l hl => Nat.le_succ_of_le (hbd.lists l hl), by simp [tellD]; have := hbd.told; omega, hbd.idx⟩
        have kB' := hB.trans kB₃
        obtain ⟨key⟩ := read_end (Pm := Pm) (s₀ := s₀) (k := k₃) (E := E) (Q := Q) (T₁.keeps kB') hA ok S₃ I₃ hb2 (by omega) hlo hans hcs (kB' _ _ hcm) hom (kB' _ _ hcb) hob w1 w2 w3 l1 l2 l7 l8 c2 c1 g1 g6
          fun B₄ h₄ k₄ d m₄ kB₄ hd hres S₄ => hQ B₄ h₄ k₄ d m₄ t1' t2'' ((kB₁.trans kB').trans kB₄) ((kB₁.trans kB').none hd) ((ht1'.keeps kB').keeps kB₄) (I₃.tab.keeps kB₄) hres S₄
        exact key
    exact wpAny.g key
end
section
variable {P : Ctx → Prop} {w : World} {A : Around} {E : Value → Shared → Prop} {R : Result → Shared → Prop} {s₀ : Shared} {B : Heap} {L : Addr} {m : Str → Option Value} {U V U₁ U₂ W Z : List (Addr × Cell)} {h h' h₁ : Heap} {k : Nat} {env : Env} {Pm : Params}
variable {t1 t2 : Option Addr}
theorem St.lendN (S : St h L m W h₁) (U : List (Addr × Cell)) (hU : ∀ p ∈ U, ∃ o, h.get? p.1 = some o ∧ p.2 o) (nd : (U.map (·.1)).Nodup) : St (hideAll h (U.map (·.1))) L m (W ++ U) h₁ := by
  have nn : ∀ {a : Addr}, h.get? a = none → (hideAll h (U.map (·.1))).get? a = none := fun e => (kp_hideAll _ _).none e
  have mem : ∀ p ∈ U, ∃ o, h₁.get? p.1 = some o ∧ p.2 o := fun p hp => let ⟨o, e, c⟩ := hU p hp; ⟨o, S.keep _ _ e, c⟩
  refine ⟨S.ns, (kp_hideAll _ _).trans S.keep, nn S.nl, fun p hp => ?_, ?_⟩
  · rcases List.mem_append.mp hp with hp | hp
    · obtain ⟨a, b, c⟩ := S.own p hp
      exact ⟨a, b, nn c⟩
    · refine ⟨mem p hp, fun q => ?_, hideAll_at (List.mem_map_of_mem hp)⟩
      obtain ⟨o, e, _⟩ := hU p hp
      rw [q, S.nl] at e; cases e
  · rw [List.map_append]
    refine List.nodup_append.mpr ⟨S.nd, nd, fun a ha b hb q => ?_⟩
    subst q
    obtain ⟨p, hp, rfl⟩ := List.mem_map.mp ha
    obtain ⟨q, hq, e'⟩ := List.mem_map.mp hb
    obtain ⟨o, e, _⟩ := hU q hq
    rw [e', (S.own p hp).2.2] at e; cases e
theorem St.backL {Lc : Addr} {mc : Str → Option Value} {B'' h'' : Heap} {oL : Obj} {U'' : List (Addr × Cell)} (S : St B L m U h) (hL : h.get? L = some oL) (S2 : St B'' Lc mc ((L, slC oL) :: U'') h'') (k2 : Kp (hideAll h (L :: U.map (·.1))) B'') :
    Kp B B'' ∧ St B'' L m U'' h'' := by
  refine ⟨fun b o e => k2 _ _ (hideAll_get _ (S.keep _ _ e) fun q => ?_), ?_, S2.keep, (S2.own _ (.head _)).2.2, fun p hp => ?_, (List.nodup_cons.mp S2.nd).2⟩
  · rcases List.mem_cons.mp q with rfl | q
    · rw [S.nl] at e; cases e
    · obtain ⟨p, hp, rfl⟩ := List.mem_map.mp q
      rw [(S.own p hp).2.2] at e; cases e
  · obtain ⟨⟨o, e, sl, rfl⟩, _⟩ := S2.own _ (.head _)
    obtain ⟨o', es, ep, e', r⟩ := S.ns
    rw [hL] at e'; cases e'
    exact ⟨_, es, ep, e, r⟩
  · obtain ⟨a, b, c⟩ := S2.own p (.tail _ hp)
    exact ⟨a, fun q => (List.nodup_cons.mp S2.nd).1 (List.mem_map.mpr ⟨p, hp, q⟩), c⟩
theorem read_call (D : Deep P) {Q : Value → Shared → Prop} {a : Addr} {o : Obj} {xs : List Str} {shut : Int} {tsh : Tok} {lenv : Env} (hP : ∀ x ∈ xs, cutEq x = none → ∀ Γ, P Γ → Ctx.called Γ) (T : Top1 Pm B) (hA : AOk 13 A)
    (S : St B L m [(235, tabC (dPos facS) t1), (100, tabC (lPos lamE) t2)] h) (ht1 : TabR B facQ t1) (ht2 : TabR B lamQ t2)
    (hfr : A.frames = some [lenv]) (lk : lenv.scope.kind ≠ .module) (lf : lenv.frame = some L)
    (ha : B.get? a = some o) (ho : txts xs o) (hn : xs.length ≤ 1000) (hsz : ∀ x ∈ xs, x.length ≤ 1000)
    (hQ : ∀ B' h' k' d t1' t2', Kp B B' → TabR B' facQ t1' → TabR B' lamQ t2' → ResAt B' (.ref 203) d (resD (kR shut) (sR shut) xs).2 (resD (kR shut) (sR shut) xs).1 →
      St B' L m [(235, tabC (dPos facS) t1'), (100, tabC (lPos lamE) t2')] h' → Q (.ref d) (Sh s₀ h' k')) :
    wpG P (model PW w) A (call (.ref 238) [.ref a, .int shut tsh] []) Q E (Sh s₀ h k) := by
  have Th := T.keeps S.keep
  obtain ⟨hf, hcd⟩ := Th.top.fns (238, 14, 237) (by decide)
  obtain ⟨oL, es, ep, hL, r⟩ := id S.ns
  have hLd := r.1
  refine callCG D (fd := lawFd 14 237) (body := dBody (stmtAt 14)) (binds := [("items", .ref a), ("shut", .int shut tsh)]) hf hcd Th.top.nolimit (by have := hA.depth; omega) rfl rfl rfl (by with_unfolding_all rfl) rfl (PyProof.Rows.locs (by rfl)) (by decide) rfl rfl rfl
    fun env h₁ k₁ he ok hcs S₁ => ?_
  have ec : cellsFrom (h.objs.size + 1) (lawFd 14 237).scope.names [] = [(("made" : Str), h.objs.size + 2), (("book" : Str), h.objs.size + 1)] := by rfl
  rw [ec] at hcs S₁
  have A2 : AOk 12 (A.deeper env) := hA.deeper
  have S₂ : St h env.locals (fun x => List.lookup x [(("items" : Str), Value.ref a), (("shut" : Str), Value.int shut tsh)].reverse) [(h.objs.size + 2, cellC none), (h.objs.size + 1, cellC none)] h₁ := S₁
  have own : ∀ p ∈ [(L, slC oL), (235, tabC (dPos facS) t1), (100, tabC (lPos lamE) t2)], ∃ o, h.get? p.1 = some o ∧ p.2 o := fun p hp => by
    rcases List.mem_cons.mp hp with rfl | hp
    · exact ⟨oL, hL, oL.slots, rfl⟩
    · exact (S.own p hp).1
  have nd : (([(L, slC oL), (235, tabC (dPos facS) t1), (100, tabC (lPos lamE) t2)] : List (Addr × Cell)).map (·.1)).Nodup := by
    refine List.nodup_cons.mpr ⟨fun q => ?_, S.nd⟩
    obtain ⟨p, hp, e⟩ := List.mem_map.mp q
    exact (S.own p hp).2.1 e
  have S₃ := S₂.lendN _ own nd
  have kB : Kp B (hideAll h ([(L, slC oL), (235, tabC (dPos facS) t1), (100, tabC (lPos lamE) t2)].map (·.1))) := kp_hide S.keep fun b hb => by
    obtain ⟨p, hp, rfl⟩ := List.mem_map.mp hb
    rcases List.mem_cons.mp hp with rfl | hp
    · exact S.nl
    · exact (S.own p hp).2.2
  have l1 : env.kindOf "told" = some .local := by subst he; rfl
  have l2 : env.kindOf "_law_factory" = some .local := by subst he; rfl
  have l3 : env.kindOf "items" = some .local := by subst he; rfl
  have l4 : env.kindOf "i" = some .local := by subst he; rfl
  have l5 : env.kindOf "shut" = some .local := by subst he; rfl
  have l6 : env.kindOf "pair" = some .local := by subst he; rfl
  have l7 : env.kindOf "answers" = some .local := by subst he; rfl
  have l8 : env.kindOf "other" = some .local := by subst he; rfl
  have c1 : env.kindOf "made" = some .cell := by subst he; rfl
  have c2 : env.kindOf "book" = some .cell := by subst he; rfl
  have g1 : env.kindOf "FreezableDefaultDict" = some .globalImplicit := by subst he; rfl
  have g2 : env.kindOf "range" = some .globalImplicit := by subst he; rfl
  have g3 : env.kindOf "len" = some .globalImplicit := by subst he; rfl
  have g4 : env.kindOf "Pair" = some .globalImplicit := by subst he; rfl
  have g5 : env.kindOf "TypeError" = some .globalImplicit := by subst he; rfl
  have g6 : env.kindOf "list" = some .globalImplicit := by subst he; rfl
  have hf : env.frame = some env.locals := by subst he; rfl
  have hcode : env.code = .ref 237 := by subst he; rfl
  have hqn : qualnameIn env "_law_factory" "_law_factory" = facQ := by subst he; rfl
  have hcl : closureFor (dScope facS) env = pure [(("made" : Str), h.objs.size + 2)] := by subst he; rfl
  have hw : swappedStores (aTargets (bodyAt 14 0)) (aValue (bodyAt 14 0)) env = pure none := by subst he; rfl
  have hsw : swapOf (bodyAt 14 5) env = pure true := by subst he; rfl
  obtain ⟨key⟩ := read_body (Pm := Pm) (E := outE w A env E) (Q := retQ Q) (w := w) (k := k₁) (s₀ := s₀) D hP (T.keeps kB) A2 ok hf S₃ (ht1.keeps kB) (ht2.keeps kB) hfr lk lf
    (fun h sl e => ⟨m, _, es, ep, e, hLd, r.2⟩) (fun vs q => by rw [hLd] at q; cases q) hcs hcode hqn hcl rfl rfl (kB _ _ ha) ho hn hsz l1 l2 l3 l4 l5 l6 l7 l8 c1 c2 g1 g2 g3 g4 g5 g6 hw hsw
    fun B' h' k' d m' t1' t2' kB' _ tr1 tr2 hres S' => by
      obtain ⟨k3, S4⟩ := S.backL hL S' kB'
      exact hQ B' h' k' d t1' t2' k3 tr1 tr2 hres S4
  exact key
end
end Mine
end
section
open PySem PySem.W PySem.Calls
open Sem (wp)
open PySem.SeqAt
namespace Mine
section
variable {P : Ctx → Prop} {w : World} {A : Around} {E : Value → Shared → Prop} {s : Shared} {h : Heap} {k : Nat} {Pm : Params}
theorem eqk : builtinKind "tuple.__eq__" = some .slot := by kernel_rfl
theorem eqs : splitId "tuple.__eq__" = some ("tuple", "__eq__") := by kernel_rfl
theorem noM {M : Model} {α : Type} {c : Prop} [Decidable c] {t u : Sem α} {Q : α → Shared → Prop} (hc : ¬ c) (h : wpAny M A u Q E s) : wpAny M A (if c then t else u) Q E s := by rw [if_neg hc]; exact h
theorem yesM {M : Model} {α : Type} {c : Prop} [Decidable c] {t u : Sem α} {Q : α → Shared → Prop} (hc : c) (h : wpAny M A t Q E s) : wpAny M A (if c then t else u) Q E s := by rw [if_pos hc]; exact h
theorem eq_find : findIn (K0 Pm) (.ref 203) "__eq__" = some (some (.builtin "tuple.__eq__")) := by kernel_rfl
theorem sub_t203 {S : Setting} : peek (K0 Pm) S (isSubtype (.type "tuple") (.ref 203)) = some false := by kernel_rfl
theorem pair_rc {p t : Addr} {dp dt : Option Addr} {a b a' b' : Value} (X : (K0 Pm).In s.heap) (hp : s.heap.get? p = some { cls := .ref 203, dict := dp, data := .seq #[a, b] }) (ht : s.heap.get? t = some { cls := .type "tuple", dict := dt, data := .seq #[a', b'] }) (hu : A.units < cLine)
    (e0 : EqAt A.in1 s a a' true) (e1 : EqAt A.in1 s b b' true) : RcAt A s (.ref p) (.ref t) true := by
  intro prog w E Q hQ
  have t1 : Looks (model prog w) s.heap (typeOf (.ref p)) (.ref 203) := (Looks.ld hp).andThen .now
  have t2 : Looks (model prog w) s.heap (typeOf (.ref t)) (.type "tuple") := (Looks.ld ht).andThen .now
  unfold richCompare
  try with_reducible refine wpAny_holding ?_
  refine wpAny_bind (wpAny_cRoomFor_or (.inr hu) ?_)
  have o1 : oneThing? .Eq (.ref p) (.ref t) = none := rfl
  rw [o1]
  dsimp only [cmpInfo]
  refine wpAny_bind (t1.here (wpAny_bind (t2.here ?_)))
  refine wpAny_bind ((Looks.of_peek X sub_t203).here ?_)
  refine noM (nott rfl) ?_
  refine wpAny_bind ?_
  unfold tryCompare callSpecialIfBound? bindSpecialIfBound? specialOf
  refine wpAny_bind (wpAny_holding (wpAny_bind (wpAny_bind (wpAny_bind (t1.here ((looks_findIn X eq_find).here ?_))))))
  dsimp only
  rw [PySem.F.slot_tuple_eq.bind]
  have fin : wpAny (model prog w) A (call (.builtin "tuple.__eq__") ([.ref p] ++ [.ref t])) (fun v s' => v = .bool true ∧ s' = s) E s := by
    refine wpAny_call (codeAny_call_builtin PySem.F.slot_tuple_eq.plain PySem.F.entry_tuple_eq ?_)
    refine @check_slot (model prog w) A.in1 _ s "tuple.__eq__" "tuple" "__eq__" (.ref p) [.ref t] [] _ eqk eqs (t1.andThen (looks_subIn X sub_203t)) (PySem.F.args_tuple_eq_2 _ _) ?_
    unfold Builtin.«tuple.__eq__»
    lk
    refine wpAny_bind (m := slotArgs _ _ _) (wpAny_pure ?_)
    dsimp only
    refine wpAny_bind (wpAny_isInstance (T := "tuple") (b := true) ⟨_, ht, rfl⟩ AutoSeq1.sub_tuple_tuple (noM (nott rfl) ?_))
    unfold Builtin.Tuple.tupleItemsOf
    refine wpAny_bind (wpAny_bind (wpAny_seqItems hp rfl (wpAny_pure ?_)))
    refine wpAny_bind (wpAny_bind (wpAny_seqItems ht rfl (wpAny_pure ?_)))
    refine wpAny_bind ?_
    simp -iota only [List.zip_cons_cons, List.zip_nil_right, List.forIn_cons, List.forIn_nil]
    refine wpAny_bind (wpAny_bind (e0 prog w _ _ (noM (nott rfl) (wpAny_pure ?_))))
    refine wpAny_bind (wpAny_bind (e1 prog w _ _ (noM (nott rfl) (wpAny_pure ?_))))
    refine wpAny_pure ?_
    dsimp only
    exact wpAny_pure ⟨rfl, rfl⟩
  have fin2 : wpAny (model prog w) A (call (.builtin "tuple.__eq__") ([.ref p] ++ [.ref t]) >>= fun v => pure (some v)) (fun r s' => r = some (.bool true) ∧ s' = s) E s :=
    wpAny_bind (wpAny_mono fin (fun v s' h' => wpAny_pure ⟨by rw [h'.1], h'.2⟩) fun _ _ h' => h')
  have last : wpAny (model prog w) A (do let v ← call (Value.builtin "tuple.__eq__") ([Value.ref p] ++ [Value.ref t]); pure (some v)) (fun a s' => wpAny (model prog w) A (match a with
      | some Value.notImplemented => pure none
      | none => pure none
      | some v => pure (some v)) (fun a s' => a = some (.bool true) ∧ s' = s) E s') E s := wpAny_mono fin2 (fun r s' q => by obtain ⟨rfl, rfl⟩ := q; exact wpAny_pure ⟨rfl, rfl⟩) fun _ _ h' => h'
  refine wpAny_bind (wpAny_askSetting (wpAny_ite ?_))
  split
  · refine wpAny_bind (wpAny_pure (wpAny_pure ?_))
    refine wpAny_mono last (fun r s' q => wpAny_mono q (fun r s' q => ?_) fun _ _ h' => h') fun _ _ h' => h'
    obtain ⟨rfl, rfl⟩ := q
    exact wpAny_pure hQ
  · refine wpAny_tryCatch (wpAny_bind (wpAny_pure (wpAny_pure ?_)))
    refine wpAny_mono last (fun r s' q => wpAny_mono q (fun r s' q => ?_) fun _ _ h' => h') fun _ _ h' => h'
    obtain ⟨rfl, rfl⟩ := q
    exact wpAny_pure hQ
end
theorem AOk.room {n : Nat} {A : Around} (x : AOk n A) : A.units < cLine := by
  have := x.units
  have h : 9900 ≤ cLine := by decide
  exact Nat.lt_of_lt_of_le (by omega) h
theorem All2.join {α β γ : Type} {R : α → γ → Prop} {S : β → γ → Prop} {T : α → β → Prop} {xs : List α} {zs : List γ} (h : All2 R xs zs) : ∀ {ys : List β}, All2 S ys zs → (∀ x y z, z ∈ zs → R x z → S y z → T x y) → All2 T xs ys := by
  induction h with
  | nil => intro _ q _; cases q; exact .nil
  | cons a _ ih => intro _ q f; cases q with | cons c d => exact .cons (f _ _ _ (.head _) a c) (ih d fun x y z hz => f x y z (.tail _ hz))
theorem All2.size {α β : Type} {R : α → β → Prop} {xs : List α} {ys : List β} (h : All2 R xs ys) : xs.toArray.size = ys.toArray.size := by simpa using h.len
theorem All2.at {α β : Type} {R : α → β → Prop} {xs : List α} {ys : List β} (h : All2 R xs ys) {j : Nat} (h1 : j < xs.toArray.size) (h2 : j < ys.toArray.size) : R xs.toArray[j] ys.toArray[j] := by
  obtain ⟨y, hy, r⟩ := h.get (i := j) (x := xs.toArray[j]) (by simp)
  have : ys.toArray[j] = y := by
    have : ys[j]? = some ys.toArray[j] := by simp
    rw [this] at hy; exact Option.some.inj hy
  rw [this]; exact r
section
variable {w : World} {A : Around} {E : Value → Shared → Prop} {s : Shared} {h : Heap} {k : Nat} {Pm : Params}
theorem eqRef {l b : Addr} (h : RcAt A s (.ref l) (.ref b) true) : EqAt A s (.ref l) (.ref b) true := by
  by_cases e : l = b
  · subst e; exact EqAt.same _
  · exact EqAt.of_refs e h
theorem eqL {l b : Addr} {vs ws : List Value} (hl : s.heap.IsList l vs.toArray) (hb : s.heap.IsList b ws.toArray) (hu : A.units < cLine) (he : All2 (fun x y => EqAt A.in1 s x y true) vs ws) : RcAt A s (.ref l) (.ref b) true := by
  have := RcAt.lists (e := fun _ => true) hl hb he.size hu fun j h1 h2 => he.at h1 h2
  have e : (List.range vs.toArray.size).all (fun _ => true) = true := by simp
  rw [e] at this; exact this
theorem neL {l b : Addr} {vs ws : List Value} (hl : s.heap.IsList l vs.toArray) (hb : s.heap.IsList b ws.toArray) (hu : A.units < cLine) (he : All2 (fun x y => EqAt A.in1 s x y true) vs ws) : RcNeAt A s (.ref l) (.ref b) false := by
  have := RcNeAt.lists (e := fun _ => true) hl hb he.size hu fun j h1 h2 => he.at h1 h2
  have e : (List.range vs.toArray.size).all (fun _ => true) = true := by simp
  rw [e] at this; exact this
theorem eqT {l b : Addr} {vs ws : List Value} (hl : s.heap.IsTuple l vs.toArray) (hb : s.heap.IsTuple b ws.toArray) (hu : A.units < cLine) (he : All2 (fun x y => EqAt A.in1 s x y true) vs ws) : RcAt A s (.ref l) (.ref b) true := by
  have := RcAt.tuples (e := fun _ => true) hl hb hu fun j h1 h2 => he.at h1 h2
  have e : ((List.range (min vs.toArray.size ws.toArray.size)).all (fun _ => true) && vs.toArray.size == ws.toArray.size) = true := by rw [he.size]; simp
  rw [e] at this; exact this
theorem neT {l b : Addr} {vs ws : List Value} (hl : s.heap.IsTuple l vs.toArray) (hb : s.heap.IsTuple b ws.toArray) (hu : A.units < cLine) (he : All2 (fun x y => EqAt A.in1 s x y true) vs ws) : RcNeAt A s (.ref l) (.ref b) false := by
  have := RcNeAt.tuples (e := fun _ => true) hl hb hu fun j h1 h2 => he.at h1 h2
  have e : ((List.range (min vs.toArray.size ws.toArray.size)).all (fun _ => true) && vs.toArray.size == ws.toArray.size) = true := by rw [he.size]; simp
  rw [e] at this; exact this
theorem eqS {x : Str} {t u : Tok} : EqAt A s (.str x t) (.str x u) true := by
  have := EqAt.str_str (A := A) (s := s) x t x u
  rw [beq_self_eq_true] at this; exact this
theorem isL {a : Addr} {vs : Array Value} {n : Nat} (e : h.get? a = some { cls := .type "list", data := .seq vs n }) : h.IsList a vs := ⟨_, e, rfl, n, rfl⟩
theorem isT {a : Addr} {vs : List Value} (e : h.get? a = some (tupO vs)) : h.IsTuple a vs.toArray := ⟨_, e, rfl, 0, rfl⟩
theorem strs_eq : ∀ {l l' : List (Str × Tok)}, l.map (·.1) = l'.map (·.1) → All2 (fun x y => EqAt A s x y true) (strValues l) (strValues l')
  | [], [], _ => .nil
  | [], _ :: _, e => by simp at e
  | _ :: _, [], e => by simp at e
  | p :: r, q :: t, e => by
    simp only [List.map_cons, List.cons.injEq] at e
    refine .cons ?_ (strs_eq e.2)
    show EqAt A s (.str p.1 p.2) (.str q.1 q.2) true
    rw [e.1]; exact eqS
theorem txts_eq {a b : Addr} {o o' : Obj} {xs : List Str} (ha : s.heap.get? a = some o) (ho : txts xs o) (hb : s.heap.get? b = some o') (ho' : txts xs o') (hu : A.units < cLine) : RcAt A s (.ref a) (.ref b) true := by
  obtain ⟨l, n, e, rfl⟩ := ho
  obtain ⟨l', n', e', rfl⟩ := ho'
  exact eqL (isL ha) (isL hb) hu (strs_eq (e.trans e'.symm))
theorem txts_ne {a b : Addr} {o o' : Obj} {xs : List Str} (ha : s.heap.get? a = some o) (ho : txts xs o) (hb : s.heap.get? b = some o') (ho' : txts xs o') (hu : A.units < cLine) : RcNeAt A s (.ref a) (.ref b) false := by
  obtain ⟨l, n, e, rfl⟩ := ho
  obtain ⟨l', n', e', rfl⟩ := ho'
  exact neL (isL ha) (isL hb) hu (strs_eq (e.trans e'.symm))
theorem rows_eq {rv rv' : List Value} {rows : List (Str × Nat)} {ms ms' : List Addr} {made : List (List Str)} (r : RowsR s.heap rv (rowsA ms rows)) (r' : RowsR s.heap rv' (rowsA ms' rows)) (hA : AOk 3 A)
    (hm : ms.length = made.length) (hm' : ms'.length = made.length) (m : ∀ (j : Nat) b l, ms[j]? = some b → made[j]? = some l → ∃ o, s.heap.get? b = some o ∧ txts l o) (m' : ∀ (j : Nat) b l, ms'[j]? = some b → made[j]? = some l → ∃ o, s.heap.get? b = some o ∧ txts l o)
    (hi : ∀ p ∈ rows, p.2 < made.length) : All2 (fun x y => EqAt A s x y true) rv rv' := by
  have hu : A.units < cLine := hA.room
  have hu1 : A.in1.units < cLine := hA.in1.room
  refine All2.join (zs := rows) (R := fun v p => ∃ a t, v = .ref a ∧ s.heap.get? a = some (tupO [.str p.1 t, .ref ((ms[p.2]?).getD 0)])) (S := fun v p => ∃ a t, v = .ref a ∧ s.heap.get? a = some (tupO [.str p.1 t, .ref ((ms'[p.2]?).getD 0)])) ?_ ?_ ?_
  · refine forall₂_of_get (by have := r.len; simpa [rowsA] using this) fun j x p hx hp => ?_
    obtain ⟨q, hq, a, t, e1, e2⟩ := r.get hx
    simp only [rowsA, List.getElem?_map, hp, Option.map_some, Option.some.injEq] at hq
    subst hq
    exact ⟨a, t, e1, e2⟩
  · refine forall₂_of_get (by have := r'.len; simpa [rowsA] using this) fun j x p hx hp => ?_
    obtain ⟨q, hq, a, t, e1, e2⟩ := r'.get hx
    simp only [rowsA, List.getElem?_map, hp, Option.map_some, Option.some.injEq] at hq
    subst hq
    exact ⟨a, t, e1, e2⟩
  · rintro x y p hp ⟨a, t, rfl, e⟩ ⟨a', t', rfl, e'⟩
    have hlt := hi p hp
    obtain ⟨l, hl⟩ : ∃ l, made[p.2]? = some l := ⟨made[p.2], List.getElem?_eq_getElem hlt⟩
    have g : ms[p.2]? = some ((ms[p.2]?).getD 0) := by rw [List.getElem?_eq_getElem (by omega)]; rfl
    have g' : ms'[p.2]? = some ((ms'[p.2]?).getD 0) := by rw [List.getElem?_eq_getElem (by omega)]; rfl
    obtain ⟨o, eo, co⟩ := m _ _ _ g hl
    obtain ⟨o', eo', co'⟩ := m' _ _ _ g' hl
    exact eqRef (eqT (isT e) (isT e') hu (.cons eqS (.cons (eqRef (txts_eq eo co eo' co' hu1)) .nil)))
theorem refs_eq {ms ms' : List Addr} {made : List (List Str)} (is : List Nat) (hA : AOk 2 A)
    (hm : ms.length = made.length) (hm' : ms'.length = made.length) (m : ∀ (j : Nat) b l, ms[j]? = some b → made[j]? = some l → ∃ o, s.heap.get? b = some o ∧ txts l o) (m' : ∀ (j : Nat) b l, ms'[j]? = some b → made[j]? = some l → ∃ o, s.heap.get? b = some o ∧ txts l o)
    (hi : ∀ j ∈ is, j < made.length) : All2 (fun x y => EqAt A s x y true) (is.map fun j => Value.ref ((ms[j]?).getD 0)) (is.map fun j => Value.ref ((ms'[j]?).getD 0)) := by
  have hu : A.units < cLine := hA.room
  induction is with
  | nil => exact .nil
  | cons j r ih =>
    have hlt := hi j (.head _)
    obtain ⟨l, hl⟩ : ∃ l, made[j]? = some l := ⟨made[j], List.getElem?_eq_getElem hlt⟩
    have g : ms[j]? = some ((ms[j]?).getD 0) := by rw [List.getElem?_eq_getElem (by omega)]; rfl
    have g' : ms'[j]? = some ((ms'[j]?).getD 0) := by rw [List.getElem?_eq_getElem (by omega)]; rfl
    obtain ⟨o, eo, co⟩ := m _ _ _ g hl
    obtain ⟨o', eo', co'⟩ := m' _ _ _ g' hl
    exact .cons (eqRef (txts_eq eo co eo' co' hu)) (ih fun j hj => hi j (.tail _ hj))
theorem map_range_refs (ms : List Addr) : ms.map Value.ref = (List.range ms.length).map fun j => Value.ref ((ms[j]?).getD 0) := by
  apply List.ext_getElem?
  intro i
  simp only [List.getElem?_map]
  by_cases h : i < ms.length
  · rw [List.getElem?_eq_getElem h, List.getElem?_range h]; simp [List.getElem?_eq_getElem h]
  · rw [List.getElem?_eq_none (by omega), List.getElem?_eq_none (by simp; omega)]; rfl
theorem told_eq {tv tv' : List Value} {told : List TE} (X : (K0 Pm).In s.heap) (hA : AOk 2 A) (r : ToldR s.heap (.ref 203) tv told) (r' : ToldR s.heap (.type "tuple") tv' told) : All2 (fun x y => EqAt A s x y true) tv tv' := by
  have hu : A.units < cLine := hA.room
  refine All2.join r r' fun x y e _ a b => ?_
  cases e with
  | shut => subst a b; exact EqAt.same _
  | refused => obtain ⟨t, rfl⟩ := a; obtain ⟨u, rfl⟩ := b; exact eqS
  | pair n v =>
    obtain ⟨p, t, u, dp, rfl, e⟩ := a
    obtain ⟨p', t', u', dp', rfl, e'⟩ := b
    exact eqRef (pair_rc X e e' hu eqS eqS)
theorem res_ne {d d' : Addr} {st : DS} {ans : List Nat} (X : (K0 Pm).In s.heap) (hA : AOk 6 A) (hi : ∀ p ∈ st.rows, p.2 < st.made.length) (ha : ∀ j ∈ ans, j < st.made.length)
    (r : ResAt s.heap (.ref 203) d st ans) (r' : ResAt s.heap (.type "tuple") d' st ans) : RcNeAt A s (.ref d) (.ref d') false := by
  obtain ⟨T, R, M, N, W, tv, rv, ms, n1, n2, n3, n4, n5, e0, e1, rT, e2, rR, e3, hm, m, e4, w1, w2, tw, ow, e5, e6, e7, e8⟩ := r
  obtain ⟨T', R', M', N', W', tv', rv', ms', n1', n2', n3', n4', n5', e0', e1', rT', e2', rR', e3', hm', m', e4', w1', w2', tw', ow', e5', e6', e7', e8'⟩ := r'
  have A1 : AOk 5 A.in1 := hA.in1
  have A2 : AOk 4 A.in1.in1 := A1.in1
  have A3 : AOk 3 A.in1.in1.in1 := A2.in1
  have u0 : A.units < cLine := hA.room
  have u1 : A.in1.units < cLine := A1.room
  have u2 : A.in1.in1.units < cLine := A2.room
  have u3 : A.in1.in1.in1.units < cLine := A3.room
  refine neT (isT e0) (isT e0') u0 (.cons (eqRef ?_) (.cons (eqRef ?_) (.cons (eqRef ?_) (.cons (eqRef ?_) (.cons (eqRef ?_) .nil)))))
  · exact eqL (isL e1) (isL e1') u1 (told_eq X (A2.le (by omega)) rT rT')
  · exact eqL (isL e2) (isL e2') u1 (rows_eq rR rR' (A2.le (by omega)) hm hm' m m' hi)
  · refine eqL (isL e3) (isL e3') u1 ?_
    rw [map_range_refs ms, map_range_refs ms', hm, hm']
    exact refs_eq _ (A2.le (by omega)) hm hm' m m' fun j hj => List.mem_range.mp hj
  · exact eqL (isL e4) (isL e4') u1 (refs_eq _ (A2.le (by omega)) hm hm' m m' ha)
  · exact eqL (isL e5) (isL e5') u1 (.cons (eqRef (eqT (isT e6) (isT e6') u2 (.cons eqS (.cons (eqRef (txts_eq e7 e8 e7' e8' u3)) .nil)))) .nil)
end
end Mine
end
section
open PySem PySem.W PySem.Calls
open Sem (wp)
namespace Mine
noncomputable def decS (k : Nat) : Str := Str.ofString (toString (k : Int))
noncomputable def esc (x : Str) : Str := Txt.replace (Txt.replace x (Str.ofString "\\") (Str.ofString "\\\\")) (Str.ofString "\"") (Str.ofString "\\\"")
noncomputable def rowQ (k : Nat) (x : Str) : Str := ((decS k ++ Str.ofString "=\"") ++ esc x) ++ Str.ofString "\""
noncomputable def quoted (ts : List Str) : List Str := ts.zipIdx.map fun p => rowQ p.2 p.1
noncomputable def numbered (ts : List Str) : List (Str × Str) := ts.zipIdx.map fun p => (decS p.2, p.1)
noncomputable def jnQ (ts : List Str) : Str := Str.join (Str.ofString ",") (quoted ts)
noncomputable def subC (c : Nat) (z : List Nat) (l : List Nat) : List Nat := l.flatMap fun d => if d = c then z else [d]
theorem subC_free (c : Nat) (z : List Nat) : ∀ l : List Nat, c ∉ l → subC c z l = l
  | [], _ => rfl
  | k :: r, h => by
    have h1 : ¬ k = c := fun e => h (e ▸ List.mem_cons_self ..)
    have ih := subC_free c z r fun m => h (List.mem_cons_of_mem _ m)
    unfold subC at ih ⊢
    rw [List.flatMap_cons, if_neg h1, ih]; rfl
theorem subC_join (c : Nat) (z : Str) : ∀ parts : List Str, (∀ p ∈ parts, c ∉ p.cps.toList) → subC c z.cps.toList (Str.join ⟨#[c]⟩ parts).cps.toList = (Str.join z parts).cps.toList
  | [], _ => rfl
  | [p], h => subC_free c _ _ (h p (List.mem_singleton.mpr rfl))
  | p :: q :: r, h => by
    have ih := subC_join c z (q :: r) fun a ha => h a (List.mem_cons_of_mem _ ha)
    show subC c z.cps.toList (p ++ ⟨#[c]⟩ ++ Str.join ⟨#[c]⟩ (q :: r)).cps.toList = (p ++ z ++ Str.join z (q :: r)).cps.toList
    simp only [Str.cps_append, Array.toList_append]
    rw [← ih]
    have e := subC_free c z.cps.toList _ (h p (List.mem_cons_self ..))
    unfold subC at e ⊢
    rw [List.flatMap_append, List.flatMap_append, e]
    simp
theorem replace_sub (x z : Str) (c : Nat) : (Txt.replace x ⟨#[c]⟩ z).cps.toList = subC c z.cps.toList x.cps.toList := by
  rw [StrLaws.replace_one, ← subC_join c z _ (StrLaws.split_free x c), StrLaws.join_split]
theorem subC_len (c : Nat) (z : List Nat) (hz : z.length = 2) (l : List Nat) : (subC c z l).length ≤ 2 * l.length := by
  induction l with
  | nil => exact Nat.le_refl _
  | cons d r ih =>
    unfold subC at ih ⊢
    rw [List.flatMap_cons, List.length_append, List.length_cons]
    split
    · omega
    · simp only [List.length_cons, List.length_nil]; omega
theorem rep_len (x : Str) (c : Nat) (z : Str) (hz : z.cps.toList.length = 2) : (Txt.replace x ⟨#[c]⟩ z).length ≤ 2 * x.length := by
  have := subC_len c z.cps.toList hz x.cps.toList
  rw [← replace_sub] at this
  exact this
theorem decS_len (n : Nat) : (decS n).length ≤ n + 2 := by
  have := PyProof.Rows.len_str_of_int (n : Int)
  have e : ((n : Nat) : Int).natAbs = n := by omega
  rw [e] at this
  have : ((decS n).length : Int) ≤ (n : Int) + 2 := this
  omega
theorem esc_len (x : Str) : (esc x).length ≤ 4 * x.length := by
  have h1 := rep_len x 92 (Str.ofString "\\\\") rfl
  have h2 := rep_len (Txt.replace x (Str.ofString "\\") (Str.ofString "\\\\")) 34 (Str.ofString "\\\"") rfl
  have e1 : (⟨#[92]⟩ : Str) = Str.ofString "\\" := by rfl
  have e2 : (⟨#[34]⟩ : Str) = Str.ofString "\"" := by rfl
  rw [e1] at h1
  rw [e2] at h2
  unfold esc
  omega
section
variable {w : World} {A : Around} {E : Value → Shared → Prop} {s₀ : Shared} {B Hb : Heap} {L : Addr} {m : Str → Option Value} {U V : List (Addr × Cell)} {h : Heap} {k : Nat} {env : Env} {outer : List Env}
theorem add_sk {x y : Str} {t u : Tok} {Q : Value → Shared → Prop} (hsz : x.length + y.length ≤ sizeLine) (hQ : ∀ t' k', k ≤ k' → Q (.str (x ++ y) t') (Sh s₀ h k')) :
    wpAny (model PW w) A (binaryOp .Add (.str x t) (.str y u)) Q E (Sh s₀ h k) := PySem.P.add_str (s := Sh s₀ h k) (by
  by_cases hx : (x.length == 0) = true
  · rw [if_pos hx]; have h' := hQ u k (Nat.le_refl _); rw [Str.append_left_empty hx] at h'; exact h'
  · rw [if_neg hx]
    by_cases hy : (y.length == 0) = true
    · rw [if_pos hy]; have h' := hQ t k (Nat.le_refl _); rw [Str.append_right_empty hy] at h'; exact h'
    · rw [if_neg hy]; exact ⟨by rw [size_cat]; exact hsz, hQ _ _ (Nat.le_succ _)⟩)
theorem rep_sk {x y z : Str} {t u v : Tok} {Q : Value → Shared → Prop} (hu : u ≠ 0) (hv : v ≠ 0) (huv : u ≠ v) (hyz : (y == z) = false) (hb : x.length + (x.length + 1) * z.length ≤ 16777216)
    (hQ : ∀ t' k', k ≤ k' → Q (.str (Txt.replace x y z) t') (Sh s₀ h k')) : wpAny (model PW w) A (call (.builtin "str.replace") [.str x t, .str y u, .str z v]) Q E (Sh s₀ h k) := by
  have hs := sizeLine_eq
  have hl : Builtin.Str.tooLong (x.length + (Builtin.Str.occurrences x y 0 x.length (x.length + 1)).length * z.length) = false := by
    have h1 := StrLaws.occ_length_le x y 0 x.length (x.length + 1)
    have h2 : (Builtin.Str.occurrences x y 0 x.length (x.length + 1)).length * z.length ≤ (x.length + 1) * z.length := Nat.mul_le_mul_right _ h1
    unfold Builtin.Str.tooLong
    exact decide_eq_false (by omega)
  refine call_gives (s := Sh s₀ h k) PySem.F.slot_str_replace (typeIs_str _ _ _) PySem.F.entry_str_replace (PySem.F.args_str_replace_3 _ _ _)
    (gives_str_replace x y z t u v fun _ => ⟨by simp [hu, hv], by simp [huv], hyz, hl⟩) ?_
  unfold Txt.replace at hQ
  cases hc : ((Builtin.Str.occurrences x y 0 x.length (x.length + 1)).isEmpty || (y.length == 0 && z.length == 0))
  · rw [hc] at hQ
    simp only [Bool.false_eq_true, if_false] at hQ ⊢
    exact ⟨fits_replaced y hb, hQ _ _ (Nat.le_succ _)⟩
  · rw [hc] at hQ
    simp only [if_true] at hQ ⊢
    exact hQ t k (Nat.le_refl _)
theorem str_int {n : Nat} {t : Tok} {Q : Value → Shared → Prop} (hn : n < 1000) (hQ : Q (.str (decS n) k) (Sh s₀ h (k + 1))) : wpAny (model PW w) A (call (.type "str") [.int (n : Nat) t]) Q E (Sh s₀ h k) :=
  PySem.P.str_of_int (s := Sh s₀ h k) (by
    have : ((n : Nat) : Int).natAbs = n := by omega
    rw [this]
    rcases Nat.eq_zero_or_pos n with rfl | hp
    · decide
    · exact (Nat.log2_lt (by omega)).mpr (Nat.lt_of_lt_of_le hn (by
        have : (2 : Nat) ^ 10 ≤ 2 ^ 1920 := Nat.pow_le_pow_right (by decide) (by decide)
        omega))) hQ
theorem again_rows {Q : Flow → Shared → Prop} {a R cb : Addr} {o : Obj} {ts : List Str} (S : St B env.locals m [(R, txts []), (cb, cellC none)] h) (T : Top0 B) (hh : A.handled = none) (ok : EOk env)
   (v1 : m "texts" = some (.ref a)) (v2 : m "rows" = some (.ref R)) (ha : B.get? a = some o) (ho : txts ts o) (hn : ts.length ≤ 100) (hsz : ∀ x ∈ ts, x.length ≤ 1000)
   (l1 : env.kindOf "texts" = some .local) (l2 : env.kindOf "rows" = some .local) (l3 : env.kindOf "k" = some .local) (g1 : env.kindOf "range" = some .globalImplicit) (g2 : env.kindOf "len" = some .globalImplicit) (g3 : env.kindOf "str" = some .globalImplicit)
   (hQ : ∀ B' h' k' m', Kp B B' → St B' env.locals m' [(R, txts (quoted ts)), (cb, cellC none)] h' → m' "rows" = some (.ref R) → Q .next (Sh s₀ h' k')) :
   Runs w A (exec (bodyAt 20 1) env) Q E (Sh s₀ h k) := by
  refine ⟨?_⟩
  have hk := ok.kind
  obtain ⟨l, nl, hlx, rfl⟩ := id ho
  have hlen : (strValues l).length = ts.length := by rw [← hlx]; simp [strValues]
  have hql : (quoted ts).length = ts.length := by simp [quoted]
  have S₁ : St B env.locals m ([(R, txts [])] ++ [(cb, cellC none)]) h := S
  refine forRange (s₀ := s₀) (items := strValues l) (V := [(cb, cellC none)]) hh (T.keeps S.keep) ok g1 g2 l1 (by decide) S₁ v1 ha rfl rfl (by omega)
    (fun i B' m' U' => U' = [(R, txts ((quoted ts).take i))] ∧ m' "rows" = some (.ref R) ∧ m' "texts" = some (.ref a)) ⟨rfl, v2, v1⟩ ?_ ?_
  · intro E' i u B' m' U' V' h₂ k₂ hi hinv hB S₂
    obtain ⟨rfl, e1, e2⟩ := hinv
    rw [hlen] at hi
    have hy : ts[i]? = some ts[i] := List.getElem?_eq_getElem hi
    generalize ts[i] = y at hy
    have hyl := hsz y (List.mem_of_getElem? hy)
    have hq : (quoted ts)[i]? = some (rowQ i y) := by simp [quoted, hy]
    refine wpAny_assign_Name (stn S₂ hk l3 fun h₃ k₃ S₃ => ?_)
    have S₃' : St B' env.locals _ ([] ++ (R, txts ((quoted ts).take i)) :: V') h₃ := S₃
    obtain ⟨oR, eR, lR, nR, hlR, rfl⟩ := S₃'.get (a := R) (c := txts ((quoted ts).take i)) (by simp)
    have T₃ : Top0 h₃ := (T.keeps hB).keeps S₃.keep
    refine wpAny_execs_cons (wpAny_Expr_any ?_ (interactive_no ok) (by rfl))
    refine lmeth slot_list_append type_list_append (nm (v := .ref R) S₃ hk l2 e1 ⟨⟨R, _, rfl, nR, eR⟩, arg1 ?_⟩)
    refine wpAny_BinOp (wpAny_BinOp (wpAny_BinOp (callT (id := "str") T₃ ok g3 (by decide) (arg1 (nm (v := .int (i : Nat) u) S₃ hk l3 rfl (str_int (by omega) (c_str ?_)))))))
    have hd : (decS i).length ≤ 1000 := by have := decS_len i; omega
    refine add_sk (by have : (Str.ofString "=\"").length = 2 := rfl; have := sizeLine_eq; omega) fun t₁ k₄ hk₄ => ?_
    obtain ⟨t', hx⟩ : ∃ t', (strValues l)[i]? = some (.str y t') := by
      rw [← hlx, List.getElem?_map, Option.map_eq_some_iff] at hy
      obtain ⟨p, hp, e⟩ := hy
      exact ⟨p.2, by simp only [strValues, List.getElem?_map, hp, Option.map_some, e]⟩
    have hL : h₃.IsList a (strValues l).toArray := ⟨_, S₃.old (hB _ _ ha), rfl, nl, rfl⟩
    refine smeth PySem.F.slot_str_replace PySem.F.type_str_replace (smeth PySem.F.slot_str_replace PySem.F.type_str_replace (ixL (nm (v := .ref a) S₃ hk l1 e2 (nm (v := .int (i : Nat) u) S₃ hk l3 rfl ⟨a, _, (i : Nat), u, i, .str y t', rfl, rfl, hL, by rw [List.size_toArray]; omega, ?_, by rw [List.getElem?_toArray]; exact hx, ⟨⟨_, _, rfl⟩, arg2 (c_str (c_str ?_))⟩⟩))))
    · unfold seqIndex?
      have h0 : ¬ ((i : Int) < 0) := by omega
      simp only [List.size_toArray, h0, if_false]
      rw [if_pos (by simp only [Bool.and_eq_true, decide_eq_true_eq]; omega)]
      rfl
    have z1 : (Str.ofString "\\\\").length = 2 := rfl
    have z2 : (Str.ofString "\\\"").length = 2 := rfl
    have z3 : (Str.ofString "=\"").length = 2 := rfl
    have z4 : (Str.ofString "\"").length = 1 := rfl
    have hs := sizeLine_eq
    have hr1 : (Txt.replace y (Str.ofString "\\") (Str.ofString "\\\\")).length ≤ 2 * y.length := rep_len y 92 _ rfl
    refine rep_sk (show @Ne Nat k₄ 0 from by omega) (show @Ne Nat (k₄ + 1) 0 from by omega) (show @Ne Nat k₄ (k₄ + 1) from by omega) (by rfl) (by rw [z1]; omega) fun t₂ k₅ hk₅ => ?_
    refine ⟨⟨_, _, rfl⟩, arg2 (c_str (c_str ?_))⟩
    refine rep_sk (show @Ne Nat k₅ 0 from by omega) (show @Ne Nat (k₅ + 1) 0 from by omega) (show @Ne Nat k₅ (k₅ + 1) from by omega) (by rfl) (by rw [z2]; omega) fun t₃ k₆ _ => ?_
    have he := esc_len y
    refine add_s (y := esc y) (by rw [Str.length_append, z3]; omega) fun t₄ k₇ => c_str ?_
    refine add_s (by rw [Str.length_append, Str.length_append, z3, z4]; omega) fun t₅ k₈ => ?_
    have hqlen : ((quoted ts).take i).length ≤ 100 := by rw [List.length_take]; omega
    refine appendT S₃' (by omega) fun h₄ S₄ => ?_
    refine wpAny_execs_nil ?_
    have et : (quoted ts).take i ++ [decS i ++ Str.ofString "=\"" ++ esc y ++ Str.ofString "\""] = (quoted ts).take (i + 1) := by rw [List.take_add_one, hq]; rfl
    rw [et] at S₄
    exact ⟨B', _, [(R, txts ((quoted ts).take (i + 1)))], h₄, _, rfl, Kp.refl _, S₄, rfl, e1, e2⟩
  · intro B' m' U' h₂ k₂ hinv hB S₂
    obtain ⟨rfl, e1, e2⟩ := hinv
    rw [hlen, ← hql, List.take_length] at S₂
    exact hQ B' h₂ k₂ m' hB S₂ e1
end
section
variable {w : World} {A : Around} {E : Value → Shared → Prop} {s₀ : Shared} {B Hb : Heap} {L : Addr} {m : Str → Option Value} {U V : List (Addr × Cell)} {h : Heap} {k : Nat} {env : Env} {outer : List Env}
theorem rowQ_len {i : Nat} {y : Str} (hi : i ≤ 100) (hy : y.length ≤ 1000) : (rowQ i y).length ≤ 5000 := by
  have h1 := decS_len i
  have h2 := esc_len y
  unfold rowQ
  rw [Str.length_append, Str.length_append, Str.length_append]
  have z3 : (Str.ofString "=\"").length = 2 := rfl
  have z4 : (Str.ofString "\"").length = 1 := rfl
  omega
theorem quoted_len {ts : List Str} (hn : ts.length ≤ 100) (hsz : ∀ x ∈ ts, x.length ≤ 1000) : ((quoted ts).map (·.length)).sum ≤ 500000 := by
  have := StrLaws.sumLen_le (B := 5000) (quoted ts) (fun y hy => by
    obtain ⟨p, hp, rfl⟩ := List.mem_map.mp hy
    have h1 := List.mem_zipIdx hp
    obtain ⟨a1, a2, a3⟩ := h1
    refine rowQ_len (by omega) (hsz _ ?_)
    rw [a3]; exact List.getElem_mem _)
  have e : (quoted ts).length = ts.length := by simp [quoted]
  rw [e] at this
  omega
theorem again_back {Q : Value → Shared → Prop} {d cb : Addr} {oc oD : Obj} {ts : List Str} (S : St B env.locals m [] h) (T : Top0 B) (hh : A.handled = none) (ok : EOk env) (hn : ts.length ≤ 100)
   (hcs : env.cells = [(("back" : Str), cb)]) (hcb : B.get? cb = some oc) (hoc : cellC (some (.ref d)) oc) (hD : B.get? d = some oD) (hoD : dstr w (numbered ts) oD) (hlo : (d == sysModules) = false)
   (c1 : env.kindOf "back" = some .cell) (g1 : env.kindOf "range" = some .globalImplicit) (g2 : env.kindOf "len" = some .globalImplicit)
   (hQ : ∀ B' h' k' D o, Kp B B' → B.get? D = none → h'.get? D = some o → txts ts o → St B' env.locals m [(D, txts ts)] h' → Q (.ref D) (Sh s₀ h' k')) :
   wpAny (model PW w) A (match bodyAt 20 3 with | .Return (some e) _ => eval e env | _ => throw .none) Q E (Sh s₀ h k) := by
  have hk := ok.kind
  have hs : sizeLine = 16777216 := sizeLine_eq
  have k1 : env.cells.lookup ("back" : Str) = some cb := by rw [hcs]; rfl
  obtain ⟨l, hl, hdo⟩ := id hoD
  have hlen : (dV l).length = ts.length := by
    have := congrArg List.length hl
    simpa [dV, numbered] using this
  refine compW (s₀ := s₀) (cl := [(("back" : Str), cb)]) ?_ (by decide) rfl (by decide) ?_
  · refine (closureFor_some ?_).trans ?_
    · rw [hcs]
      intro x hx hf
      simp only [List.mem_cons, List.not_mem_nil, or_false] at hx
      rcases hx with rfl | rfl | rfl | rfl <;> first | rfl | cases hf
    · rw [hcs]; rfl
  have Th := T.keeps S.keep
  have hDict : h.DictOf (strKind PW w) d (dV l) := Heap.dictOf_iff.mpr ⟨oD, S.old hD, hdo⟩
  refine callT (id := "range") Th ok g1 (by decide) (arg1 (callB (id := "len") Th ok g2 (by decide) (arg1 (nmC (v := .ref d) ⟨oc, S.old hcb, hoc⟩ hk c1 k1 ?_))))
  refine call_len_dict (s := Sh s₀ h _) hlo hDict (by rw [hlen]; omega) ?_
  refine call_range_1 (s := Sh s₀ h _) ?_
  have p62 : (2 : Int) ^ 62 = 4611686018427387904 := by decide
  have S₁ := S.push { cls := .type "range", data := .fields #[.int 0 (k + 1 + 1), .int (dV l).length (k + 1), .int 1 (k + 1 + 1 + 1)] }
  refine wpAny_pyIter_range (s := Sh s₀ _ _) (Heap.get?_push_size _ rfl) (small_one (by omega) (by omega) (by rw [hlen]; omega) (by rw [hlen]; omega)) ?_
  have er : Builtin.Range.rangeSize 0 (((dV l).length : Nat) : Int) 1 = ((dV l).length : Int) := by
    rw [rangeSize_one]
    split <;> omega
  rw [er]
  generalize h.push _ = h₁ at S₁ ⊢
  have S₂ := S₁.allocMid (U := []) (V := []) { cls := .type "range_iterator", data := .fields #[rawInt 0, rawInt ((dV l).length : Int), rawInt 1] } (c := its _) rfl
  refine ⟨h₁.objs.size, (dV l).length, _, B, m, [], [], _, _, _, wayRange hh h₁.objs.size (dV l).length,
    fun i ys B' U' => U' = [] ∧ ∃ l', l'.map (·.1) = ts.take i ∧ ys = strValues l', rfl, rfl, S₂, by omega, ?_, .inl fun _ => rfl,
    fun _ _ => ⟨rfl, [], rfl, rfl⟩, ?_, ?_⟩
  · show IsRangeIter _ _ (0 + ((0 : Nat) : Int) * 1) (((dV l).length : Int) - ((0 : Nat) : Int)) 1
    have e1 : (0 + ((0 : Nat) : Int) * 1) = 0 := by decide
    have e2 : ((dV l).length : Int) - ((0 : Nat) : Int) = (dV l).length := by omega
    rw [e1, e2]
    exact Heap.get?_push_size _ rfl
  · intro E' i v ys B' m' U' V h₆ k₆ C cenv hcv hi hP6 hinv hB S₆ hk₆
    obtain ⟨rfl, l', e1, rfl⟩ := hinv
    obtain ⟨u, rfl⟩ := hP6
    rw [hlen] at hi
    have kx : cenv.kindOf "k" = some .local := by rw [hcv]; exact lookup_relabel_local rfl
    have kk : cenv.scope.kind = .function := by rw [hcv]; rfl
    have kp : cenv.kindOf "back" = some .cell := by rw [hcv]; exact relabel_free rfl hk c1
    have kc : cenv.cells.lookup ("back" : Str) = some cb := by rw [hcv]; rfl
    have ks : cenv.kindOf "str" = some .globalImplicit := by rw [hcv]; exact relabel_kind rfl (by decide)
    have okc : EOk cenv := ⟨kk, by rw [hcv]; exact ok.globals, by rw [hcv]; exact ok.builtins⟩
    refine wpAny_assign_Name (stn' S₆ kk kx fun h₇ S₇ => wpAny_tests_nil ?_)
    have T₇ : Top0 h₇ := (T.keeps hB).keeps S₇.keep
    have hy : ts[i]? = some ts[i] := List.getElem?_eq_getElem hi
    generalize ts[i] = y at hy
    have hli : (l.map (fun p => (p.1, p.2.1)))[i]? = some (decS i, y) := by rw [hl]; simp [numbered, hy]
    rw [List.getElem?_map, Option.map_eq_some_iff] at hli
    obtain ⟨q, hq, eq⟩ := hli
    simp only [Prod.mk.injEq] at eq
    obtain ⟨q1, q2⟩ := eq
    have hdv : (dV l)[i]? = some (decS i, .str y q.2.2) := by simp [dV, hq, q1, q2]
    have hD₇ : h₇.DictOf (strKind PW w) d (dV l) := Heap.dictOf_iff.mpr ⟨oD, S₇.old (hB _ _ hD), hdo⟩
    have hval : valueAt (dV l) (decS i) = some (.str y q.2.2) := by
      obtain ⟨_, _, _, _, _, _, _, _, nd⟩ := id hD₇
      exact valueAt_of_get nd hdv
    refine PyProof.Rows.Subscript_ (nmC (v := .ref d) ⟨oc, S₇.old (hB _ _ hcb), hoc⟩ kk kp kc ?_)
    refine callT (id := "str") T₇ okc ks (by decide) (arg1 (nm (v := .int (i : Nat) u) S₇ kk kx (by simp) (str_int (by omega) ?_)))
    refine PyProof.Rows.subscriptTail_builtin hD₇.typeIs PySem.F.slot_dict_getitem.lookup ?_
    refine wpAny_getItem_of (knd := strKind PW w) (k := decS i) (strKind_is PW w _ _) hD₇.mapOf hval ?_
    refine ⟨B', _, [], h₇, _, rfl, Kp.refl _, S₇, rfl, l' ++ [(y, q.2.2)], ?_, by simp [strValues]⟩
    rw [List.map_append, e1, List.take_add_one, hy]; rfl
  · intro ys B' U' D h₆ k₆ hinv hB S₆ hk₆
    obtain ⟨rfl, l', e1, rfl⟩ := hinv
    rw [hlen, List.take_length] at e1
    obtain ⟨⟨oD', eD, cD⟩, _, nD⟩ := S₆.own _ (.head _)
    have hx := txts_lst e1 cD
    exact hQ B' h₆ k₆ D oD' hB (hB.none nD) eD hx (S₆.recell (U₁ := []) eD hx)
end
end Mine
end
section
open PySem PySem.W PySem.Calls
namespace Mine
section
variable {w : World} {A : Around} {E : Value → Shared → Prop} {s₀ : Shared} {B : Heap} {m : Str → Option Value} {U : List (Addr × Cell)} {h : Heap} {k : Nat} {env : Env}
theorem http_call {Q : Value → Shared → Prop} {x : Str} {t : Tok} (T : Top0 h) (hA : AOk 3 A) (hsz : 2 * x.length ≤ sizeLine)
    (hQ : ∀ h' k' a o, Kp h h' → h.get? a = none → h'.get? a = some o → txts (httpOf x) o → Q (.ref a) (Sh s₀ h' k')) :
    wpAny (model PW w) A (call (.ref 218) [.str x t] []) Q E (Sh s₀ h k) := by
  obtain ⟨⟨t1, d, mt, hf⟩, hcd⟩ := T.http
  refine callfd (fd := httpFd t1 d mt) (body := dBody (stmtAt 9)) (binds := [("s", .str x t)]) hf hcd T.nolimit (by have := hA.depth; omega) rfl rfl rfl (by with_unfolding_all rfl) (show ∀ x ∈ (dScope (stmtAt 9)).names, x.2 ≠ .cell from by decide) (PyProof.Rows.locs (by rfl)) rfl rfl rfl
    fun env h₁ he ok S => ?_
  refine http_body S hA.handled ok rfl (by subst he; rfl) (by subst he; rfl) (by subst he; rfl) (by subst he; rfl) (by subst he; rfl) (by subst he; rfl) hsz fun h' k' a m' S' => ?_
  obtain ⟨⟨o, e, c⟩, _, n⟩ := S'.own _ (.head _)
  exact hQ h' k' a o S'.keep n e c
end
end Mine
end
section
open PySem PySem.W PySem.Calls
open Sem (wp)
namespace Mine
section
variable {w : World} {A : Around} {E : Value → Shared → Prop} {s₀ : Shared} {B Hb : Heap} {L : Addr} {m : Str → Option Value} {U V : List (Addr × Cell)} {h : Heap} {k : Nat} {env : Env} {outer : List Env}
theorem again_body {Q : Flow → Shared → Prop} {a cb : Addr} {o : Obj} {ts : List Str} (S : St B env.locals m [(cb, cellC none)] h) (T : Top0 B) (hA : AOk 8 (A.deeper env)) (Fl : Fly Hb A outer B) (ok : EOk env) (hf : env.frame = some env.locals)
   (hcs : env.cells = [(("back" : Str), cb)]) (v1 : m "texts" = some (.ref a)) (ha : B.get? a = some o) (ho : txts ts o) (hn : ts.length ≤ 100) (hsz : ∀ x ∈ ts, x.length ≤ 1000)
   (hil : (httpOf (jnQ ts)).length ≤ 1000) (his : ∀ y ∈ httpOf (jnQ ts), y.length ≤ 1000) (hkv : keqvRun (httpOf (jnQ ts)) [] = .ok (numbered ts))
   (l1 : env.kindOf "texts" = some .local) (l2 : env.kindOf "rows" = some .local) (l3 : env.kindOf "k" = some .local) (c1 : env.kindOf "back" = some .cell) (g1 : env.kindOf "range" = some .globalImplicit) (g2 : env.kindOf "len" = some .globalImplicit) (g3 : env.kindOf "str" = some .globalImplicit)
   (g4 : env.kindOf "parse_keqv_list" = some .globalImplicit) (g5 : env.kindOf "parse_http_list" = some .globalImplicit)
   (hQ : ∀ h' k' D o, Kp B h' → B.get? D = none → h'.get? D = some o → txts ts o → Q (.ret (.ref D)) (Sh s₀ h' k')) :
   Runs w (A.deeper env) (execs (dBody (stmtAt 20)) env) Q E (Sh s₀ h k) := by
  refine ⟨?_⟩
  obtain ⟨⟨q1, q2, q3, hfk⟩, _⟩ := T.keqv
  obtain ⟨⟨p1, p2, p3, hfh⟩, _⟩ := T.http
  have hk := ok.kind
  have hh : (A.deeper env).handled = none := hA.handled
  have hs : sizeLine = 16777216 := sizeLine_eq
  have k1 : env.cells.lookup ("back" : Str) = some cb := by rw [hcs]; rfl
  refine wpAny_execs_cons (wpAny_Assign_Name ?_)
  refine wpAny_List_spliced (arg0 ⟨Nat.zero_le _, ?_⟩)
  have S₁ := S.alloc { cls := .type "list", data := .seq ([] : List Value).toArray } (c := txts []) ⟨[], 0, rfl, rfl⟩
  generalize h.objs.size = R at S₁ ⊢
  generalize h.push { cls := .type "list", data := .seq ([] : List Value).toArray } = h₁ at S₁ ⊢
  refine stn S₁ hk l2 fun h₂ k₂ S₂ => ?_
  refine wpAny_execs_cons ?_
  obtain ⟨key⟩ := again_rows (w := w) (s₀ := s₀) (k := k₂) (A := A.deeper env) (E := E) (Q := fun f s' => match f with | .next => wpAny (model PW w) (A.deeper env) (execs ((dBody (stmtAt 20)).drop 2) env) Q E s' | f => Q f s') S₂ T hh ok (by exact v1) rfl ha ho hn hsz l1 l2 l3 g1 g2 g3
    fun B₃ h₃ k₃ m₃ kB₃ S₃ e1 => by
      have T₃ : Top0 h₃ := (T.keeps kB₃).keeps S₃.keep
      obtain ⟨oR, eR, cR⟩ := S₃.get (a := R) (c := txts (quoted ts)) (by simp)
      have hql : (quoted ts).length = ts.length := by simp [quoted]
      have hsum := quoted_len hn hsz
      have z1 : (Str.ofString ",").length = 1 := rfl
      refine wpAny_execs_cons (wpAny_Assign_Name ?_)
      refine callN (a := 213) (fd := keqvFd q1 q2 q3) T₃ ok g4 (by decide) (arg1 (callN (a := 218) (fd := httpFd p1 p2 p3) T₃ ok g5 (by decide) (arg1 ?_)))
      refine smeth (id := "str.join") PySem.F.slot_str_join PySem.F.type_str_join (c_str ⟨⟨_, _, rfl⟩, arg1 (nm (v := .ref R) S₃ hk l2 e1 ?_)⟩)
      refine join_s eR cR (by rw [z1, hql]; omega) fun t₄ k₄ => ⟨S₃.keep _ _ (kB₃ _ _ hfh), ?_⟩
      have hjl : (jnQ ts).length ≤ 600000 := by
        have h1 := StrLaws.join_length_le (Str.ofString ",") (quoted ts)
        rw [z1, hql] at h1
        unfold jnQ; omega
      refine http_call T₃ (hA.le (by omega)) (by show 2 * (jnQ ts).length ≤ _; omega) fun h₅ k₅ b ob K₅ nb eb hb => ⟨K₅ _ _ (S₃.keep _ _ (kB₃ _ _ hfk)), ?_⟩
      have S₅ := S₃.mono K₅
      have F₅ : Fly Hb (A.deeper env) (env :: outer) h₅ :=
        ⟨Around.frames_deeper Fl.stack, (Fl.kb.trans kB₃).trans S₅.keep, Heap.FunFrames.cons (by rw [hk]; decide) hf S₅.ns ((Fl.kb.trans kB₃).none S₅.nl) (Fl.ff.of_keeps fun b o e _ => ⟨o, S₅.keep _ _ (kB₃ _ _ e), rfl⟩)⟩
      have hb' : txts (httpOf (jnQ ts)) ob := hb
      refine keqv_call (T₃.keeps K₅) (hA.le (by omega)) F₅ eb hb' hil his (fun h₆ k₆ d ps od e1 hlo _ K₆ nd ed hd => ?_) (fun cls e h' k' hc _ => ?_)
      · rw [hkv] at e1
        cases e1
        have S₆ := S₅.take K₆ nd ed (c := dstr w (numbered ts)) hd
        obtain ⟨B₇, od', kB₇, ed₇, hd₇, S₇⟩ := S₆.give0
        have S₇' : St B₇ env.locals m₃ ([(R, txts (quoted ts))] ++ (cb, cellC none) :: []) h₆ := S₇
        refine stC S₇' hk c1 k1 fun h₈ S₈ => ?_
        obtain ⟨B₉, oc, kB₉, ec, cc, S₉⟩ := St.give S₈
        refine wpAny_execs_cons (wpAny_Return_some ?_)
        refine again_back (w := w) (S₉.sub (List.nil_sublist _)) (((T.keeps kB₃).keeps kB₇).keeps kB₉) hh ok hn hcs ec cc (kB₉ _ _ ed₇) hd₇ hlo c1 g1 g2 fun B' h' k' D o kB' nD eD hD S' => ?_
        have kk := ((kB₃.trans kB₇).trans kB₉)
        exact hQ h' k' D o (kk.trans (kB'.trans S'.keep)) (kk.none nD) eD hD
      · rw [hkv] at hc
        rcases hc with ⟨q, _⟩ | ⟨q, _⟩ <;> cases q
  exact key
theorem again_call {Q : Value → Shared → Prop} {a : Addr} {o : Obj} {ts : List Str} (T : Top0 h) (hA : AOk 9 A) (Fl : Fly Hb A outer h) (ha : h.get? a = some o) (ho : txts ts o) (hn : ts.length ≤ 100) (hsz : ∀ x ∈ ts, x.length ≤ 1000)
   (hil : (httpOf (jnQ ts)).length ≤ 1000) (his : ∀ y ∈ httpOf (jnQ ts), y.length ≤ 1000) (hkv : keqvRun (httpOf (jnQ ts)) [] = .ok (numbered ts))
   (hQ : ∀ h' k' D o, Kp h h' → h.get? D = none → h'.get? D = some o → txts ts o → Q (.ref D) (Sh s₀ h' k')) :
   wpAny (model PW w) A (call (.ref 276) [.ref a] []) Q E (Sh s₀ h k) := by
  obtain ⟨hf, hcd⟩ := T.fns (276, 20, 275) (by decide)
  refine callC (fd := lawFd 20 275) (body := dBody (stmtAt 20)) (binds := [("texts", .ref a)]) hf hcd T.nolimit (by have := hA.depth; omega) rfl rfl rfl (by with_unfolding_all rfl) rfl (PyProof.Rows.locs (by rfl)) (by decide) rfl rfl rfl
    fun env h₁ k₁ he ok hcs S => ?_
  have ec : cellsFrom (h.objs.size + 1) (lawFd 20 275).scope.names [] = [(("back" : Str), h.objs.size + 1)] := by rfl
  rw [ec] at hcs S
  have S2 : St h env.locals (fun x => List.lookup x [(("texts" : Str), Value.ref a)].reverse) [(h.objs.size + 1, cellC none)] h₁ := S
  obtain ⟨key⟩ := again_body (E := outE w A env E) (Q := retQ Q) (w := w) (k := k₁) (s₀ := s₀) S2 T hA.deeper Fl ok (by subst he; rfl) hcs rfl ha ho hn hsz hil his hkv (by subst he; rfl) (by subst he; rfl) (by subst he; rfl) (by subst he; rfl) (by subst he; rfl) (by subst he; rfl) (by subst he; rfl) (by subst he; rfl) (by subst he; rfl) hQ
  exact key
end
end Mine
end
section
open PySem PySem.W PySem.Calls
namespace Mine
theorem lastTurn_two (elt : Expr) (g0 : Comprehension) (target iter : Expr) (ifs : List Expr) (scope : Scope) (pos : Pos) (it acc : Value) (env : Env) :
    compTurn (.ListComp elt [g0, ⟨target, iter, ifs, 0⟩] scope pos) 1 it acc env = lastTurn (.ListComp elt [g0, ⟨target, iter, ifs, 0⟩] scope pos) 1 target iter elt ifs it acc env := by rfl
section
variable {w : World} {A : Around} {E : Value → Shared → Prop} {R : Result → Shared → Prop} {s₀ : Shared} {B : Heap} {L : Addr} {m : Str → Option Value} {U : List (Addr × Cell)} {h : Heap} {k : Nat} {env : Env}
theorem turn_two (elt t0 i0 t1 i1 : Expr) (ifs1 : List Expr) (scope : Scope) (pos : Pos) (it acc : Value) (env : Env) :
    compTurn (.ListComp elt [⟨t0, i0, [], 0⟩, ⟨t1, i1, ifs1, 0⟩] scope pos) 0 it acc env = (do
      standAt i0.pos
      match ← pyNext it with
      | none => pure (.done .next)
      | some v =>
        letOwnedTupleGo t0 it v
        assign t0 env v
        let x ← eval i1 env
        standAt i1.pos
        let x ← foldedSetIterable i1 env x
        let _ ← runOwn (.compStart (.ListComp elt [⟨t0, i0, [], 0⟩, ⟨t1, i1, ifs1, 0⟩] scope pos) 1 (← holding [x] (pyIter x)) acc env) env
        again (.compLoop (.ListComp elt [⟨t0, i0, [], 0⟩, ⟨t1, i1, ifs1, 0⟩] scope pos) 0 it acc env)) := by rfl
theorem compStart_two {elt t0 i0 t1 i1 : Expr} {ifs1 : List Expr} {scope : Scope} {pos : Pos} {it acc : Value} {s : Shared}
    (h0 : codeAny (model PW w) A (.compLoop (.ListComp elt [⟨t0, i0, [], 0⟩, ⟨t1, i1, ifs1, 0⟩] scope pos) 1 it acc env) R s)
    (h : wpAny (model PW w) A (pyIter it) (fun it' s' => codeAny (model PW w) A (.compLoop (.ListComp elt [⟨t0, i0, [], 0⟩, ⟨t1, i1, ifs1, 0⟩] scope pos) 1 it' acc env) R s')
      (notedBy (model PW w) A env fun x s' => R (.error x) s') s) :
    codeAny (model PW w) A (.compStart (.ListComp elt [⟨t0, i0, [], 0⟩, ⟨t1, i1, ifs1, 0⟩] scope pos) 1 it acc env) R s := by
  refine codeAny_of_tree ?_
  show wpAny _ _ ((compStart (.ListComp elt [⟨t0, i0, [], 0⟩, ⟨t1, i1, ifs1, 0⟩] scope pos) 1 it acc env).onRaise (fun x => do noteFrame x env; standAt theWindowsPlace)) _ _ s
  refine wpAny_notedAt ?_
  unfold compStart
  show wpAny _ _ (ask >>= _) _ _ s
  refine wpAny_bind (wpAny_askSetting (wpAny_ite ?_))
  split
  · first
      | exact wpAny_bind (wpAny_pure (wpAny_pure (And.intro rfl h0)))
      | exact wpAny_pure (And.intro rfl h0)
  · refine wpAny_bind (wpAny_rule ?_)
    show wpAny _ _ (standAt i1.pos >>= _) _ _ s
    exact wpAny_bind (wpAny_standAt (wpAny_bind (wpAny_mono h (fun it' s' h' => wpAny_pure (And.intro rfl h')) fun _ _ x => x)))
noncomputable abbrev TwoT (w : World) (A : Around) (s₀ : Shared) (elt t0 i0 t1 i1 : Expr) (ifs1 : List Expr) (scope : Scope) (pos : Pos) (cl : List (Str × Addr)) (env : Env) : Addr → Nat → (Nat → Value → Prop) → Heap → (Nat → List Value → Heap → Own → Prop) → Nat → Prop := fun I n P B₁ Inv _ =>
  ∀ E' i v ys B' m' U' oI' V h₂ k₂ D C cenv, cenv = compEnvC scope cl C env → i < n → P i v → Inv i ys B' U' → Kp B₁ B' → St B' cenv.locals m' (U' ++ (I, its oI') :: (D, lst ys) :: V) h₂ →
    wpAny (model PW w) A (assign t0 cenv v) (fun _ => wpAny (model PW w) A (eval i1 cenv) (fun x => wpAny (model PW w) A (pyIter x) (fun it =>
      codeAny (model PW w) A (.compStart (.ListComp elt [⟨t0, i0, [], 0⟩, ⟨t1, i1, ifs1, 0⟩] scope pos) 1 it (.ref D) cenv) (fun r s₅ => r = .ok .next ∧ ∃ ys', Nx s₀ cenv.locals ((I, its oI') :: (D, lst ys') :: V) B' (fun B _ U => Inv (i + 1) ys' B U) s₅)) E') E') E' (Sh s₀ h₂ k₂)
theorem turn_two_rule {elt t0 i0 t1 i1 : Expr} {ifs1 : List Expr} {scope : Scope} {pos : Pos} {it acc : Value} {Q : PySem.Fin → Shared → Prop} {s : Shared} (hs : ∀ x, foldedSetIterable i1 env x = pure x)
    (h : wpAny (model PW w) A (pyNext it) (fun r s₁ => match r with
      | none => Q (.done .next) s₁
      | some v => wpAny (model PW w) A (letOwnedTupleGo t0 it v) (fun _ => wpAny (model PW w) A (assign t0 env v) (fun _ => wpAny (model PW w) A (eval i1 env) (fun x => wpAny (model PW w) A (pyIter x) (fun it' =>
          codeAny (model PW w) A (.compStart (.ListComp elt [⟨t0, i0, [], 0⟩, ⟨t1, i1, ifs1, 0⟩] scope pos) 1 it' acc env) (fun r s₅ => r = .ok .next ∧ Q (.again (.compLoop (.ListComp elt [⟨t0, i0, [], 0⟩, ⟨t1, i1, ifs1, 0⟩] scope pos) 0 it acc env)) s₅)) E) E) E) E s₁) E s) :
    wpAny (model PW w) A (compTurn (.ListComp elt [⟨t0, i0, [], 0⟩, ⟨t1, i1, ifs1, 0⟩] scope pos) 0 it acc env) Q E s := by
  rw [turn_two]
  refine wpAny_bind (wpAny_standAt (wpAny_bind (wpAny_mono h (fun r s₁ h => ?_) fun _ _ e => e)))
  cases r with
  | none => exact wpAny_pure h
  | some v =>
    refine wpAny_bind (wpAny_mono h (fun _ _ h => wpAny_bind (wpAny_mono h (fun _ _ h => wpAny_bind (wpAny_mono h (fun x _ h => ?_) fun _ _ e => e)) fun _ _ e => e)) fun _ _ e => e)
    refine wpAny_bind (wpAny_standAt (wpAny_bind ?_))
    rw [hs]
    refine wpAny_pure (wpAny_bind (wpAny_holding (wpAny_mono h (fun it s₄ q => ?_) fun _ _ e => e)))
    refine wpAny_bind (wpAny_runOwn (codeAny_mono q fun r s₅ q => ?_))
    obtain ⟨rfl, q⟩ := q
    exact wpAny_pure q
theorem twoT_run {elt t0 i0 t1 i1 : Expr} {ifs1 : List Expr} {scope : Scope} {pos : Pos} {cl : List (Str × Addr)} {I : Addr} {n : Nat} {P : Nat → Value → Prop} {B₁ : Heap} {Inv : Nat → List Value → Heap → Own → Prop} {k₁ : Nat} (hs : ∀ C x, foldedSetIterable i1 (compEnvC scope cl C env) x = pure x) (turn : TwoT w A s₀ elt t0 i0 t1 i1 ifs1 scope pos cl env I n P B₁ Inv k₁)
    {C D : Addr} {B₀ : Heap} {U₁ V : Own} {h₃ : Heap} {m₃ : Locs} {oI : Obj} {R : Result → Shared → Prop} (Y : Way w A I n P B₀) (kB : Kp B₁ B₀) (ht : Owns t0 I Y.Wst)
    (S : St B₀ C m₃ (U₁ ++ (I, its oI) :: (D, lst []) :: V) h₃) (hW : Y.Wst 0 h₃) (h0 : Inv 0 [] B₀ U₁) (fin : ∀ ys B' m' U' h₂ k₂, Inv n ys B' U' → Kp B₀ B' → St B' C m' (U' ++ (D, lst ys) :: V) h₂ → R (.ok .next) (Sh s₀ h₂ k₂)) :
    codeAny (model PW w) A (.compLoop (.ListComp elt [⟨t0, i0, [], 0⟩, ⟨t1, i1, ifs1, 0⟩] scope pos) 0 (.ref I) (.ref D) (compEnvC scope cl C env)) R (Sh s₀ h₃ k₁) := by
  generalize hc : compEnvC scope cl C env = cenv
  have hC : C = cenv.locals := by rw [← hc]; rfl
  have hs := hs C
  rw [hc] at hs
  subst hC
  refine codeAny_loop rfl (LI s₀ cenv.locals I (fun ys => (D, lst ys) :: V) B₀ (fun i ys B _ U => Inv i ys B U) Y.Wst n 0 fun _ _ => True) (LI.out fun i ys B' m' U' oI' h₂ k₂ hinv hB S' hW' hi hys hk => ?_) (n + 1)
    ⟨0, [], B₀, m₃, U₁, oI, h₃, k₁, h0, Kp.refl _, S, hW, Nat.zero_le _, trivial, Nat.zero_le _⟩
  show wpAny _ A ((compTurn (.ListComp elt [⟨t0, i0, [], 0⟩, ⟨t1, i1, ifs1, 0⟩] scope pos) 0 (.ref I) (.ref D) cenv).onRaise (fun x => do noteFrame x cenv; theTreesLotGoes x)) _ _ _
  refine wpAny_noted (turn_two_rule hs ?_)
  by_cases hlt : i < n
  · refine Y.W.item i _ _ _ hlt hW' fun v h₃ tk hP hW₃ hk₃ => ?_
    obtain ⟨o₃, e₃⟩ := Y.hI _ _ hW₃
    have S₃ := S'.turned Y.hwr hk₃ e₃
    refine owned ht hW₃ (wpAny_mono (turn _ i v ys B' m' U' o₃ V h₃ tk D _ cenv hc.symm hlt hP hinv (kB.trans hB) S₃) (fun _ _ q => wpAny_mono q (fun _ _ q => wpAny_mono q (fun _ _ q => codeAny_mono q fun r s₅ q => ?_) fun _ _ e => e) fun _ _ e => e) fun _ _ e => e)
    obtain ⟨rfl, ys', B'', m'', U'', h₅, k₅, rfl, hB'', S₅, hinv'⟩ := q
    exact ⟨rfl, rfl, _, lt_step hlt, i + 1, ys', B'', m'', U'', o₃, h₅, k₅, hinv', hB.trans hB'', S₅, Y.frame hB hB'' S₃ S₅ hW₃, hlt, trivial, Nat.zero_le _⟩
  · have hin : i = n := Nat.le_antisymm hi (Nat.le_of_not_lt hlt)
    refine Y.W.done _ _ _ (hin ▸ hW') fun h₃ tk hk₃ => ?_
    exact fin ys B' m' U' h₃ tk (hin ▸ hinv) hB (S'.other fun b o hb e => hk₃ b o (fun q => hb (Y.hwr b q)) e)
end
section
variable {w : World} {A : Around} {E : Value → Shared → Prop} {R : Result → Shared → Prop} {s₀ : Shared} {B : Heap} {L : Addr} {m : Str → Option Value} {U : List (Addr × Cell)} {h : Heap} {k : Nat} {env : Env}
theorem comp2U {y : Str} {py spos : Pos} {elt t0 i0 t1 i1 : Expr} {ifs1 : List Expr} {scope : Scope} {pos : Pos} {cl : List (Str × Addr)} {Q : Flow → Shared → Prop} {s : Shared} (hk : env.scope.kind = .function) (hy : env.kindOf y = some .local)
    (hsw : swapsWith (.ListComp elt [⟨t0, i0, [], 0⟩, ⟨t1, i1, ifs1, 0⟩] scope pos) (some (.Name y py)) spos.line env = pure true)
    (hclos : closureFor scope env = pure cl) (hcell : ∀ y ∈ scope.names, y.2 ≠ .cell) (hkind : scope.kind = .function) (hnames : ∀ y ∈ scope.names, y.2 = .local → scope.names.lookup y.1 = some .local)
    (hv : wpAny (model PW w) A (eval i0 env) (fun xv s₁ => wpAny (model PW w) A (pyIter xv) (CPre w A s₀ t0 env (putNm y) (fun _ => Q .next) (TwoT w A s₀ elt t0 i0 t1 i1 ifs1 scope pos cl env) (fun _ => True) fun _ _ => True) E s₁) E s)
    (hs : ∀ x, foldedSetIterable i0 env x = pure x := by intro _; rfl) (hs1 : ∀ C x, foldedSetIterable i1 (compEnvC scope cl C env) x = pure x := by intro _ _; rfl) :
    wpAny (model PW w) A (exec (.Assign [.Name y py] (.ListComp elt [⟨t0, i0, [], 0⟩, ⟨t1, i1, ifs1, 0⟩] scope pos) spos) env) Q E s :=
  compUG (s₀ := s₀) (T := TwoT w A s₀ elt t0 i0 t1 i1 ifs1 scope pos cl env) (Hn := fun _ => True) (kp := fun _ _ => True) (fun _ _ => trivial) hk hy hsw hclos hcell hkind hnames
    (fun t _ _ _ _ _ _ _ _ _ _ Y kB ht S hW h0 fin => twoT_run hs1 t Y kB ht S hW h0 fun ys B' m' U' h₂ k₂ a b c => fin ys B' m' U' h₂ k₂ a b c trivial) hv hs
end
inductive RowP (h : Heap) (v : Value) (p : Str × List Str) : Prop
  | mk (a : Addr) (t : Tok) (b : Addr) (o : Obj) (e : v = .ref a) (g : h.get? a = some (tupO [.str p.1 t, .ref b])) (g2 : h.get? b = some o) (c : txts p.2 o)
noncomputable def RowsT (h : Heap) (rv : List Value) (rows : List (Str × List Str)) : Prop := All2 (RowP h) rv rows
theorem RowsT.keeps {h h' : Heap} {rv : List Value} {rows : List (Str × List Str)} (x : RowsT h rv rows) (k : Kp h h') : RowsT h' rv rows := x.imp fun _ _ ⟨a, t, b, o, e, g, g2, c⟩ => ⟨a, t, b, o, e, k _ _ g, k _ _ g2, c⟩
noncomputable def textsOf (rows : List (Str × List Str)) : List Str := rows.flatMap fun p => p.2.map fun v => (p.1 ++ Str.ofString "=") ++ v
theorem textsOf_take {rows : List (Str × List Str)} {i : Nat} {p : Str × List Str} (h : rows[i]? = some p) : textsOf (rows.take (i + 1)) = textsOf (rows.take i) ++ p.2.map fun v => (p.1 ++ Str.ofString "=") ++ v := by
  unfold textsOf
  rw [List.take_add_one, h]
  simp
theorem textsOf_take_len (rows : List (Str × List Str)) (i : Nat) : (textsOf (rows.take i)).length ≤ (textsOf rows).length := by
  conv => rhs; rw [← List.take_append_drop i rows]
  unfold textsOf
  rw [List.flatMap_append, List.length_append]
  omega
section
variable {w : World} {A : Around} {E : Value → Shared → Prop} {s₀ : Shared} {B : Heap} {L : Addr} {m : Str → Option Value} {U V U₁ U₂ : List (Addr × Cell)} {h : Heap} {k : Nat} {env : Env}
theorem assign_nv {cenv : Env} {a b : Str} {pa pb tp : Pos} {kk : Nat} {T : Addr} {x y : Value} {Q : Unit → Shared → Prop} (hh : A.handled = none) (hk : cenv.scope.kind = .function) (S : St B cenv.locals m U h) (ht : h.get? T = some (tupO [x, y]))
    (ha : cenv.kindOf a = some .local) (hb : cenv.kindOf b = some .local)
    (hQ : ∀ h' k', St B cenv.locals (fun z => if z = b then some y else if z = a then some x else m z) U h' → Q () (Sh s₀ h' k')) :
    wpAny (model PW w) A (assign (.Tuple [.Name a pa, .Name b pb] kk tp) cenv (.ref T)) Q E (Sh s₀ h k) := by
  refine wpAny_assign_Tuple (items := #[x, y]) hh ⟨_, ht, rfl, 0, rfl⟩ rfl rfl fun h₁ he => ?_
  have K : Kp h h₁ := fun b o e => he b o (Nat.ne_of_lt (Heap.lt_size e)) e
  refine wpAny_assignInOrder_more (wpAny_assign_Name (stn (S.mono K) hk ha fun h₂ k₂ S₂ => ?_))
  refine wpAny_assignInOrder_more (wpAny_assign_Name (stn S₂ hk hb fun h₃ k₃ S₃ => ?_))
  exact wpAny_assignInOrder_none (hQ h₃ k₃ S₃)
theorem inner_texts {cenv : Env} {g0 : Comprehension} {scope : Scope} {p1 p2 p3 p4 p5 p6 p7 pos : Pos} {c0 : Nat} {ys : List Value} {D b : Addr} {ob : Obj} {vs : List Str} {x : Str} {t : Tok} (hh : A.handled = none) (hk : cenv.scope.kind = .function)
    (S : St B cenv.locals m (U ++ (D, lst ys) :: V) h) (hb : B.get? b = some ob) (hob : txts vs ob) (hys : ys.length + vs.length ≤ 100000) (hx : x.length ≤ 1000) (hvs : ∀ v ∈ vs, v.length ≤ 1000)
    (v1 : m "name" = some (.str x t)) (v2 : m "values" = some (.ref b)) (l1 : cenv.kindOf "name" = some .local) (l2 : cenv.kindOf "values" = some .local) (l3 : cenv.kindOf "value" = some .local) :
    wpAny (model PW w) A (eval (.Name "values" p7) cenv) (fun x' s₃ => wpAny (model PW w) A (pyIter x') (fun it s₄ =>
      codeAny (model PW w) A (.compStart (.ListComp (.BinOp (.BinOp (.Name "name" p1) .Add (.Constant (.str "=") c0 p2) p3) .Add (.Name "value" p4) p5) [⟨g0.target, g0.iter, [], 0⟩, ⟨.Name "value" p6, .Name "values" p7, [], 0⟩] scope pos) 1 it (.ref D) cenv)
        (fun r s₅ => r = .ok .next ∧ ∃ l m'' h₃ k₃, s₅ = Sh s₀ h₃ k₃ ∧ l.map (·.1) = vs.map (fun v => (x ++ Str.ofString "=") ++ v) ∧ St B cenv.locals m'' (U ++ (D, lst (ys ++ strValues l)) :: V) h₃) s₄) E s₃) E (Sh s₀ h k) := by
  have hs : sizeLine = 16777216 := sizeLine_eq
  obtain ⟨l, nl, hl, rfl⟩ := id hob
  have hlen : (strValues l).length = vs.length := by rw [← hl]; simp [strValues]
  refine nm (v := .ref b) S hk l2 v2 ?_
  have hL : h.IsList b (strValues l).toArray := ⟨_, S.old hb, rfl, nl, rfl⟩
  refine wpAny_pyIter_list (s := Sh s₀ h _) hL ?_
  have hne : b ≠ h.objs.size := Nat.ne_of_lt (Heap.lt_size (S.old hb))
  have S₁ := St.allocMid S (listIt b) (c := its (listIt b)) rfl
  have hW : (h.push (listIt b)).IsListIter h.objs.size b 0 ∧ (h.push (listIt b)).IsList b (strValues l).toArray := ⟨⟨_, Heap.get?_push_size _ rfl, rfl, rfl⟩, hL.push _⟩
  have loop : codeAny (model PW w) A (.compLoop (.ListComp (.BinOp (.BinOp (.Name "name" p1) .Add (.Constant (.str "=") c0 p2) p3) .Add (.Name "value" p4) p5) [⟨g0.target, g0.iter, [], 0⟩, ⟨.Name "value" p6, .Name "values" p7, [], 0⟩] scope pos) 1 (.ref h.objs.size) (.ref D) cenv)
        (fun r s₅ => r = .ok .next ∧ ∃ l m'' h₃ k₃, s₅ = Sh s₀ h₃ k₃ ∧ l.map (·.1) = vs.map (fun v => (x ++ Str.ofString "=") ++ v) ∧ St B cenv.locals m'' (U ++ (D, lst (ys ++ strValues l)) :: V) h₃) (Sh s₀ (h.push (listIt b)) k) := by
    refine compLoopN (s₀ := s₀) (env := cenv) (fun j zs B' m' U' => B' = B ∧ U' = U ∧ m' "name" = some (.str x t) ∧ ∃ l', zs = ys ++ strValues l' ∧ l'.map (·.1) = (vs.take j).map fun v => (x ++ Str.ofString "=") ++ v) (wayList hh (items := strValues l) hb hne) (lastTurn_two ..) (by omega) (.inl fun _ => rfl) S₁ hW ⟨rfl, rfl, v1, [], by simp [strValues], rfl⟩ ?_ ?_
    · intro j v zs B' m' U' oI' h₂ k₂ hj hP hinv _ S₂ _
      obtain ⟨rfl, rfl, w1, l', rfl, e1⟩ := hinv
      obtain ⟨z, u, rfl, hz⟩ := strVal_get hP
      rw [hl] at hz
      have hzl := hvs z (List.mem_of_getElem? hz)
      refine wpAny_assign_Name (stn S₂ hk l3 fun h₃ k₃ S₃ => wpAny_tests_nil ?_)
      rw [if_pos rfl]
      have z1 : (Str.ofString "=").length = 1 := rfl
      refine wpAny_BinOp (wpAny_BinOp (nm (v := .str x t) S₃ hk l1 w1 (c_str (add_s (by rw [z1]; omega) fun t₁ k₄ => nm (v := .str z u) S₃ hk l3 (by simp) (add_s (by rw [Str.length_append, z1]; omega) fun t₂ k₅ => ?_)))))
      refine ⟨B', _, U', h₃, k₅, rfl, Kp.refl _, S₃, rfl, rfl, w1, l' ++ [((x ++ Str.ofString "=") ++ z, t₂)], by simp [strValues], ?_⟩
      rw [List.map_append, e1, List.take_add_one, hz, List.map_append]; rfl
    · intro zs B' m' U' h₂ k₂ hinv _ S₂ _
      obtain ⟨rfl, rfl, _, l', rfl, e1⟩ := hinv
      rw [hlen, List.take_length] at e1
      exact ⟨rfl, l', m', h₂, k₂, rfl, e1, S₂⟩
  exact compStart_two loop ((wayList (w := w) (A := A) (B := B) hh (items := strValues l) hb hne).W.self 0 _ _ _ hW loop)
end
section
variable {w : World} {A : Around} {E : Value → Shared → Prop} {s₀ : Shared} {B : Heap} {L : Addr} {m : Str → Option Value} {U V U₁ U₂ : List (Addr × Cell)} {h : Heap} {k : Nat} {env : Env}
theorem texts_comp {Q : Flow → Shared → Prop} {y : Str} {py spos a1 a2 a3 p1 p2 p3 p4 p5 p6 p7 pos : Pos} {kk c0 n : Nat} {i0 : Expr} {scope : Scope} {R : Addr} {rv : List Value} {rows : List (Str × List Str)} (hh : A.handled = none) (hk : env.scope.kind = .function) (hy : env.kindOf y = some .local)
    (hsw : swapsWith (.ListComp (.BinOp (.BinOp (.Name "name" p1) .Add (.Constant (.str "=") c0 p2) p3) .Add (.Name "value" p4) p5) [⟨.Tuple [.Name "name" a1, .Name "values" a2] kk a3, i0, [], 0⟩, ⟨.Name "value" p6, .Name "values" p7, [], 0⟩] scope pos) (some (.Name y py)) spos.line env = pure true)
    (hclos : closureFor scope env = pure []) (hcell : ∀ y ∈ scope.names, y.2 ≠ .cell) (hkind : scope.kind = .function) (hnames : ∀ y ∈ scope.names, y.2 = .local → scope.names.lookup y.1 = some .local)
    (l1 : scope.names.lookup ("name" : Str) = some .local) (l2 : scope.names.lookup ("values" : Str) = some .local) (l3 : scope.names.lookup ("value" : Str) = some .local)
    (S : St B env.locals m U h) (hR : B.get? R = some { cls := .type "list", data := .seq rv.toArray n }) (r : RowsT B rv rows) (htl : (textsOf rows).length ≤ 10000) (hx : ∀ p ∈ rows, p.1.length ≤ 1000 ∧ ∀ v ∈ p.2, v.length ≤ 1000)
    (hv : ∀ Q' : Value → Shared → Prop, (∀ h' k', Kp h h' → Q' (.ref R) (Sh s₀ h' k')) → wpAny (model PW w) A (eval i0 env) Q' E (Sh s₀ h k))
    (hQ : ∀ B' h' k' D o, Kp B B' → B'.get? D = some o → txts (textsOf rows) o → St B' env.locals (fun z => if z = y then some (.ref D) else m z) U h' → Q .next (Sh s₀ h' k'))
    (hs0 : ∀ x, foldedSetIterable i0 env x = pure x := by intro _; rfl) :
    wpAny (model PW w) A (exec (.Assign [.Name y py] (.ListComp (.BinOp (.BinOp (.Name "name" p1) .Add (.Constant (.str "=") c0 p2) p3) .Add (.Name "value" p4) p5) [⟨.Tuple [.Name "name" a1, .Name "values" a2] kk a3, i0, [], 0⟩, ⟨.Name "value" p6, .Name "values" p7, [], 0⟩] scope pos) spos) env) Q E (Sh s₀ h k) := by
  have hrl := r.len
  refine comp2U (s₀ := s₀) (cl := []) hk hy hsw hclos hcell hkind hnames (hv _ fun h₁ k₁ K₁ => ?_) hs0
  have S₁ := S.mono K₁
  have hL : h₁.IsList R rv.toArray := ⟨_, S₁.old hR, rfl, n, rfl⟩
  refine wpAny_pyIter_list (s := Sh s₀ h₁ _) hL ?_
  have hne : R ≠ h₁.objs.size := Nat.ne_of_lt (Heap.lt_size (S₁.old hR))
  have S₂ := St.allocMid (U := []) S₁ (listIt R) (c := its (listIt R)) rfl
  refine ⟨h₁.objs.size, rv.length, _, B, m, [], U, listIt R, _, _, wayList hh (items := rv) hR hne, fun i ys B' U' => U' = [] ∧ ∃ l, ys = strValues l ∧ l.map (·.1) = textsOf (rows.take i), rfl, rfl, S₂, trivial, ⟨⟨_, Heap.get?_push_size _ rfl, rfl, rfl⟩, hL.push _⟩,
    .inr ⟨_, _, _, R, rfl, fun i h x => ⟨i, x.1⟩⟩, fun _ _ => ⟨rfl, [], rfl, rfl⟩, ?_, ?_⟩
  · intro E' i v ys B' m' U' oI' V h₂ k₂ D C cenv hcv hi hP hinv hB S₃
    obtain ⟨rfl, l, rfl, e1⟩ := hinv
    obtain ⟨p, hp, a, t, b, ob, rfl, ea, eb, hob⟩ := (r.keeps hB).get hP
    have kk' : cenv.scope.kind = .function := by rw [hcv]; exact hkind
    have c1 : cenv.kindOf "name" = some .local := by rw [hcv]; exact lookup_relabel_local l1
    have c2 : cenv.kindOf "values" = some .local := by rw [hcv]; exact lookup_relabel_local l2
    have c3 : cenv.kindOf "value" = some .local := by rw [hcv]; exact lookup_relabel_local l3
    have hpm := hx p (List.mem_of_getElem? hp)
    have hl1 : l.length = (textsOf (rows.take i)).length := by rw [← e1]; simp
    have hl2 := textsOf_take_len rows (i + 1)
    rw [textsOf_take hp, List.length_append, List.length_map] at hl2
    refine assign_nv hh kk' S₃ (S₃.old ea) c1 c2 fun h₄ k₄ S₄ => ?_
    have S₄' : St B' cenv.locals (fun z => if z = Str.ofString "values" then some (.ref b) else if z = Str.ofString "name" then some (.str p.1 t) else m' z) ([(h₁.objs.size, its oI')] ++ (D, lst (strValues l)) :: V) h₄ := S₄
    refine wpAny_mono (inner_texts (w := w) (E := E') (s₀ := s₀) (g0 := ⟨.Tuple [.Name "name" a1, .Name "values" a2] kk a3, i0, [], 0⟩) hh kk' S₄' eb hob (by simp [strValues]; omega) hpm.1 hpm.2 rfl rfl c1 c2 c3) (fun x' s₃ q => wpAny_mono q (fun it s₄ q => codeAny_mono q fun r s₅ q => ?_) fun _ _ e => e) fun _ _ e => e
    obtain ⟨rfl, l', m'', h₅, k₅, rfl, e2, S₅⟩ := q
    refine ⟨rfl, strValues (l ++ l'), B', m'', [], h₅, k₅, rfl, Kp.refl _, ?_, rfl, l ++ l', rfl, ?_⟩
    · have : strValues (l ++ l') = strValues l ++ strValues l' := by simp [strValues]
      rw [this]; exact S₅
    · rw [List.map_append, e1, e2, textsOf_take hp]
  · intro ys B' U' D h₂ k₂ hinv hB S₃ _
    obtain ⟨rfl, l, rfl, e1⟩ := hinv
    rw [hrl, List.take_length] at e1
    obtain ⟨oD, eD, cD⟩ := S₃.get (a := D) (c := lst (strValues l)) (by simp)
    have ht := txts_lst e1 cD
    have S₄ := S₃.recell (U₁ := []) eD ht
    obtain ⟨B₅, o', kB₅, e5, c5, S₅⟩ := St.give0 S₄
    exact hQ B₅ h₂ k₂ D o' (hB.trans kB₅) e5 c5 S₅
end
noncomputable def keepV (vs : List Str) : List Str := vs.filter fun v => decide (v.length ≠ 0)
noncomputable def fullOf (rows : List (Str × List Str)) : List (Str × List Str) := rows.map fun p => (p.1, keepV p.2)
section
variable {w : World} {A : Around} {E : Value → Shared → Prop} {s₀ : Shared} {B : Heap} {L : Addr} {m : Str → Option Value} {U V U₁ U₂ : List (Addr × Cell)} {h : Heap} {k : Nat} {env : Env}
theorem keep_comp {Q : Value → Shared → Prop} {p1 p2 p3 p4 pos : Pos} {scope : Scope} {b : Addr} {ob : Obj} {vs : List Str} (hh : A.handled = none) (hk : env.scope.kind = .function)
    (hclos : closureFor scope env = pure []) (hcell : ∀ y ∈ scope.names, y.2 ≠ .cell) (hkind : scope.kind = .function) (hnames : ∀ y ∈ scope.names, y.2 = .local → scope.names.lookup y.1 = some .local) (l3 : scope.names.lookup ("value" : Str) = some .local)
    (S : St B env.locals m U h) (hb : B.get? b = some ob) (hob : txts vs ob) (hn : vs.length ≤ 100000) (hvs : ∀ v ∈ vs, v.length ≤ 1000) (v2 : m "values" = some (.ref b)) (l2 : env.kindOf "values" = some .local)
    (hQ : ∀ B' h' k' D o, Kp B B' → B'.get? D = some o → txts (keepV vs) o → St B' env.locals m U h' → Q (.ref D) (Sh s₀ h' k')) :
    wpAny (model PW w) A (eval (.ListComp (.Name "value" p1) [⟨.Name "value" p2, .Name "values" p3, [.Name "value" p4], 0⟩] scope pos) env) Q E (Sh s₀ h k) := by
  have hs : sizeLine = 16777216 := sizeLine_eq
  obtain ⟨l, nl, hl, rfl⟩ := id hob
  have hlen : (strValues l).length = vs.length := by rw [← hl]; simp [strValues]
  refine compW (s₀ := s₀) (cl := []) hclos hcell hkind hnames ?_
  refine nm (v := .ref b) S hk l2 v2 ?_
  have hL : h.IsList b (strValues l).toArray := ⟨_, S.old hb, rfl, nl, rfl⟩
  refine wpAny_pyIter_list (s := Sh s₀ h _) hL ?_
  have hne : b ≠ h.objs.size := Nat.ne_of_lt (Heap.lt_size (S.old hb))
  have S₁ := St.allocMid (U := []) S (listIt b) (c := its (listIt b)) rfl
  refine ⟨h.objs.size, (strValues l).length, _, B, m, [], U, listIt b, _, _, wayList hh (items := strValues l) hb hne, fun i ys B' U' => U' = [] ∧ ∃ l', ys = strValues l' ∧ l'.map (·.1) = keepV (vs.take i), rfl, rfl, S₁, by omega, ⟨⟨_, Heap.get?_push_size _ rfl, rfl, rfl⟩, hL.push _⟩,
    .inl fun _ => rfl, fun _ _ => ⟨rfl, [], rfl, rfl⟩, ?_, ?_⟩
  · intro E' i v ys B' m' U' V h₂ k₂ C cenv hcv hi hP hinv hB S₃ _
    obtain ⟨rfl, l', rfl, e1⟩ := hinv
    obtain ⟨z, u, rfl, hz⟩ := strVal_get hP
    rw [hl] at hz
    have hzl := hvs z (List.mem_of_getElem? hz)
    have kk : cenv.scope.kind = .function := by rw [hcv]; exact hkind
    have c3 : cenv.kindOf "value" = some .local := by rw [hcv]; exact lookup_relabel_local l3
    refine wpAny_assign_Name (stn S₃ kk c3 fun h₃ k₃ S₄ => ?_)
    refine wpAny_tests_one (wpAny_isTrue_value (nm (v := .str z u) S₄ kk c3 (by simp) (truthy_s (by omega) ?_)))
    have et : keepV (vs.take (i + 1)) = keepV (vs.take i) ++ keepV [z] := by unfold keepV; rw [List.take_add_one, hz, List.filter_append]; rfl
    by_cases hz0 : z.length ≠ 0
    · rw [decide_eq_true hz0, if_pos rfl]
      refine nm (v := .str z u) S₄ kk c3 (by simp) ⟨B', _, [], h₃, _, rfl, Kp.refl _, S₄, rfl, l' ++ [(z, u)], by simp [strValues], ?_⟩
      rw [List.map_append, e1, et]
      have : keepV [z] = [z] := by simp [keepV, hz0]
      rw [this]; rfl
    · rw [decide_eq_false hz0, if_neg Bool.false_ne_true]
      refine ⟨B', _, [], h₃, _, rfl, Kp.refl _, S₄, rfl, l', rfl, ?_⟩
      rw [e1, et]
      have : keepV [z] = [] := by simp [keepV]; simpa using hz0
      rw [this, List.append_nil]
  · intro ys B' U' D h₂ k₂ hinv hB S₃ _
    obtain ⟨rfl, l', rfl, e1⟩ := hinv
    rw [hlen, List.take_length] at e1
    obtain ⟨oD, eD, cD⟩ := S₃.get (a := D) (c := lst (strValues l')) (by simp)
    have ht := txts_lst e1 cD
    have S₄ := S₃.recell (U₁ := []) eD ht
    obtain ⟨B₅, o', kB₅, e5, c5, S₅⟩ := St.give0 S₄
    exact hQ B₅ h₂ k₂ D o' (hB.trans kB₅) e5 c5 S₅
theorem full_comp {Q : Flow → Shared → Prop} {y : Str} {py spos a1 a2 a3 p0 p1 p2 p3 p4 p5 pos pos' : Pos} {kk c0 n : Nat} {i0 : Expr} {scope sc2 : Scope} {R : Addr} {rv : List Value} {rows : List (Str × List Str)} (hh : A.handled = none) (hk : env.scope.kind = .function) (hy : env.kindOf y = some .local)
    (hsw : swapsWith (.ListComp (.Tuple [.Name "name" p0, .ListComp (.Name "value" p1) [⟨.Name "value" p2, .Name "values" p3, [.Name "value" p4], 0⟩] sc2 pos'] c0 p5) [⟨.Tuple [.Name "name" a1, .Name "values" a2] kk a3, i0, [], 0⟩] scope pos) (some (.Name y py)) spos.line env = pure true)
    (hclos : closureFor scope env = pure []) (hcell : ∀ y ∈ scope.names, y.2 ≠ .cell) (hkind : scope.kind = .function) (hnames : ∀ y ∈ scope.names, y.2 = .local → scope.names.lookup y.1 = some .local)
    (l1 : scope.names.lookup ("name" : Str) = some .local) (l2 : scope.names.lookup ("values" : Str) = some .local)
    (hclos2 : ∀ e, closureFor sc2 e = pure []) (hcell2 : ∀ y ∈ sc2.names, y.2 ≠ .cell) (hkind2 : sc2.kind = .function) (hnames2 : ∀ y ∈ sc2.names, y.2 = .local → sc2.names.lookup y.1 = some .local) (l3 : sc2.names.lookup ("value" : Str) = some .local)
    (S : St B env.locals m U h) (hR : B.get? R = some { cls := .type "list", data := .seq rv.toArray n }) (r : RowsT B rv rows) (hlen : rows.length ≤ 1000) (hx : ∀ p ∈ rows, p.2.length ≤ 1000 ∧ ∀ v ∈ p.2, v.length ≤ 1000)
    (hv : ∀ Q' : Value → Shared → Prop, (∀ h' k', Kp h h' → Q' (.ref R) (Sh s₀ h' k')) → wpAny (model PW w) A (eval i0 env) Q' E (Sh s₀ h k))
    (hQ : ∀ B' h' k' D rv' n', Kp B B' → B'.get? D = some { cls := .type "list", data := .seq rv'.toArray n' } → RowsT B' rv' (fullOf rows) → St B' env.locals (fun z => if z = y then some (.ref D) else m z) U h' → Q .next (Sh s₀ h' k'))
    (hs0 : ∀ x, foldedSetIterable i0 env x = pure x := by intro _; rfl) :
    wpAny (model PW w) A (exec (.Assign [.Name y py] (.ListComp (.Tuple [.Name "name" p0, .ListComp (.Name "value" p1) [⟨.Name "value" p2, .Name "values" p3, [.Name "value" p4], 0⟩] sc2 pos'] c0 p5) [⟨.Tuple [.Name "name" a1, .Name "values" a2] kk a3, i0, [], 0⟩] scope pos) spos) env) Q E (Sh s₀ h k) := by
  have hs : sizeLine = 16777216 := sizeLine_eq
  have hrl := r.len
  refine compU (s₀ := s₀) (cl := []) hk hy hsw hclos hcell hkind hnames (hv _ fun h₁ k₁ K₁ => ?_) hs0
  have S₁ := S.mono K₁
  have hL : h₁.IsList R rv.toArray := ⟨_, S₁.old hR, rfl, n, rfl⟩
  refine wpAny_pyIter_list (s := Sh s₀ h₁ _) hL ?_
  have hne : R ≠ h₁.objs.size := Nat.ne_of_lt (Heap.lt_size (S₁.old hR))
  have S₂ := St.allocMid (U := []) S₁ (listIt R) (c := its (listIt R)) rfl
  refine ⟨h₁.objs.size, rv.length, _, B, m, [], U, listIt R, _, _, wayList hh (items := rv) hR hne, fun i ys B' U' => U' = [] ∧ RowsT B' ys ((fullOf rows).take i), rfl, rfl, S₂, by omega, ⟨⟨_, Heap.get?_push_size _ rfl, rfl, rfl⟩, hL.push _⟩,
    .inr ⟨_, _, _, R, rfl, fun i h x => ⟨i, x.1⟩⟩, fun _ _ => ⟨rfl, .nil⟩, ?_, ?_⟩
  · intro E' i v ys B' m' U' V h₂ k₂ C cenv hcv hi hP hinv hB S₃ _
    obtain ⟨rfl, hr⟩ := hinv
    obtain ⟨p, hp, a, t, b, ob, rfl, ea, eb, hob⟩ := (r.keeps hB).get hP
    have kk' : cenv.scope.kind = .function := by rw [hcv]; exact hkind
    have c1 : cenv.kindOf "name" = some .local := by rw [hcv]; exact lookup_relabel_local l1
    have c2 : cenv.kindOf "values" = some .local := by rw [hcv]; exact lookup_relabel_local l2
    have hpm := hx p (List.mem_of_getElem? hp)
    refine assign_nv hh kk' S₃ (S₃.old ea) c1 c2 fun h₄ k₄ S₄ => wpAny_tests_nil ?_
    rw [if_pos rfl]
    refine wpAny_Tuple_spliced (arg2 (nm (v := .str p.1 t) S₄ kk' c1 rfl ?_))
    refine keep_comp hh kk' (hclos2 _) hcell2 hkind2 hnames2 l3 S₄ eb hob (by omega) hpm.2 rfl c2 fun B₅ h₅ k₅ D₂ o₂ kB₅ e5 c5 S₅ => ?_
    refine ⟨by show 2 ≤ sizeLine; omega, ?_⟩
    have S₆ := S₅.alloc (tupO [.str p.1 t, .ref D₂]) (c := its _) rfl
    obtain ⟨B₇, o₇, kB₇, e7, c7, S₇⟩ := S₆.give0
    cases c7
    refine ⟨B₇, _, [], _, _, rfl, kB₅.trans kB₇, S₇, rfl, ?_⟩
    have hf : (fullOf rows)[i]? = some (p.1, keepV p.2) := by simp [fullOf, hp]
    rw [List.take_add_one, hf]
    exact (hr.keeps (kB₅.trans kB₇)).snoc ⟨_, t, D₂, o₂, rfl, e7, kB₇ _ _ e5, c5⟩
  · intro ys B' U' D h₂ k₂ hinv hB S₃ _
    obtain ⟨rfl, hr⟩ := hinv
    have hfl : (fullOf rows).length = rv.length := by simp [fullOf, hrl]
    rw [← hfl, List.take_length] at hr
    obtain ⟨B₅, o', kB₅, e5, ⟨n', rfl⟩, S₅⟩ := St.give0 S₃
    exact hQ B₅ h₂ k₂ D ys n' (hB.trans kB₅) e5 (hr.keeps kB₅) S₅
end
noncomputable def lastsOf (rows : List (Str × List Str)) : List (Str × Str) := rows.filterMap fun p => p.2.getLast?.map fun v => (p.1, lawOff v)
section
variable {w : World} {A : Around} {E : Value → Shared → Prop} {s₀ : Shared} {B : Heap} {L : Addr} {m : Str → Option Value} {U V U₁ U₂ : List (Addr × Cell)} {h : Heap} {k : Nat} {env : Env}
theorem lasts_comp {Q : Value → Shared → Prop} {a1 a2 a3 p0 p1 p2 p3 p4 p5 p6 p7 p8 p9 pos : Pos} {kk c0 c1 n : Nat} {scope : Scope} {R : Addr} {rv : List Value} {rows : List (Str × List Str)} (T : Top0 B) (hA : AOk 2 A) (ok : EOk env)
    (hclos : closureFor scope env = pure []) (hcell : ∀ y ∈ scope.names, y.2 ≠ .cell) (hkind : scope.kind = .function) (hnames : ∀ y ∈ scope.names, y.2 = .local → scope.names.lookup y.1 = some .local)
    (l1 : scope.names.lookup ("name" : Str) = some .local) (l2 : scope.names.lookup ("values" : Str) = some .local) (l3 : scope.names.lookup ("_law_off" : Str) = some .globalImplicit) (le : env.kindOf "full" = some .local)
    (S : St B env.locals m U h) (v1 : m "full" = some (.ref R)) (hR : B.get? R = some { cls := .type "list", data := .seq rv.toArray n }) (r : RowsT B rv rows) (hlen : rows.length ≤ 1000) (hx : ∀ p ∈ rows, p.2.length ≤ 1000 ∧ ∀ v ∈ p.2, v.length ≤ 1000)
    (hQ : ∀ B' h' k' D ys n', Kp B B' → h'.get? D = some { cls := .type "list", data := .seq ys.toArray n' } → PairsS h' ys (lastsOf rows) → St B' env.locals m U h' → Q (.ref D) (Sh s₀ h' k')) :
    wpAny (model PW w) A (eval (.ListComp (.Tuple [.Name "name" p0, .Call (.Name "_law_off" p1) [.Subscript (.Name "values" p2) (.UnaryOp .USub (.Constant (.int 1) c1 p3) p4) p5] [] p6] c0 p7) [⟨.Tuple [.Name "name" a1, .Name "values" a2] kk a3, .Name "full" p8, [.Name "values" p9], 0⟩] scope pos) env) Q E (Sh s₀ h k) := by
  have hs : sizeLine = 16777216 := sizeLine_eq
  have hh := hA.handled
  have hk := ok.kind
  have hrl := r.len
  refine compW (s₀ := s₀) (cl := []) hclos hcell hkind hnames (nm (v := .ref R) S hk le v1 ?_)
  have hL : h.IsList R rv.toArray := ⟨_, S.old hR, rfl, n, rfl⟩
  refine wpAny_pyIter_list (s := Sh s₀ h _) hL ?_
  have hne : R ≠ h.objs.size := Nat.ne_of_lt (Heap.lt_size (S.old hR))
  have S₂ := St.allocMid (U := []) S (listIt R) (c := its (listIt R)) rfl
  refine ⟨h.objs.size, rv.length, _, B, m, [], U, listIt R, _, _, wayList hh (items := rv) hR hne, fun i ys B' U' => U' = [] ∧ PairsS B' ys (lastsOf (rows.take i)), rfl, rfl, S₂, by omega, ⟨⟨_, Heap.get?_push_size _ rfl, rfl, rfl⟩, hL.push _⟩,
    .inr ⟨_, _, _, R, rfl, fun i h x => ⟨i, x.1⟩⟩, fun _ _ => ⟨rfl, .nil⟩, ?_, ?_⟩
  · intro E' i v ys B' m' U' V h₂ k₂ C cenv hcv hi hP hinv hB S₃ _
    obtain ⟨rfl, hr⟩ := hinv
    obtain ⟨p, hp, a, t, b, ob, rfl, ea, eb, hob⟩ := (r.keeps hB).get hP
    have kk' : cenv.scope.kind = .function := by rw [hcv]; exact hkind
    have c1 : cenv.kindOf "name" = some .local := by rw [hcv]; exact lookup_relabel_local l1
    have c2 : cenv.kindOf "values" = some .local := by rw [hcv]; exact lookup_relabel_local l2
    have c3 : cenv.kindOf "_law_off" = some .globalImplicit := by rw [hcv]; exact relabel_kind l3 (by decide)
    have okc : EOk cenv := ⟨kk', by rw [hcv]; exact ok.globals, by rw [hcv]; exact ok.builtins⟩
    have hpm := hx p (List.mem_of_getElem? hp)
    have et : lastsOf (rows.take (i + 1)) = lastsOf (rows.take i) ++ (p.2.getLast?.map fun v => (p.1, lawOff v)).toList := by
      unfold lastsOf
      rw [List.take_add_one, hp, List.filterMap_append]
      simp -iota only [Option.toList_some, List.filterMap_cons, List.filterMap_nil]
      rcases p.2.getLast? with _ | _ <;> rfl
    obtain ⟨l, nl, hl, rfl⟩ := id hob
    have hlen' : (strValues l).length = p.2.length := by rw [← hl]; simp [strValues]
    refine assign_nv hh kk' S₃ (S₃.old ea) c1 c2 fun h₄ k₄ S₄ => ?_
    have hLb : h₄.IsList b (strValues l).toArray := ⟨_, S₄.old eb, rfl, nl, rfl⟩
    refine wpAny_tests_one (wpAny_isTrue_value (nm (v := .ref b) S₄ kk' c2 rfl ?_))
    refine wpAny_truthy_list (s := Sh s₀ h₄ _) hLb (by rw [List.size_toArray, hlen']; have := hpm.1; have p63 : (2 : Int) ^ 63 = 9223372036854775808 := by decide
                                                       omega) ?_
    rcases List.eq_nil_or_concat p.2 with hp2 | ⟨vs, x, hp2⟩
    · have hl0 : l = [] := by
        have : l.length = 0 := by have := congrArg List.length hl; simpa [hp2] using this
        exact List.length_eq_zero_iff.mp this
      subst hl0
      show if (!(#[] : Array Value).isEmpty) = true then _ else _
      rw [if_neg (by simp)]
      rw [hp2] at et
      refine ⟨B', _, [], h₄, _, rfl, Kp.refl _, S₄, rfl, ?_⟩
      rw [et]; simpa using hr
    · rw [List.concat_eq_append] at hp2
      have hl2 : l.map (·.1) = vs ++ [x] := hl.trans hp2
      obtain ⟨l1, l2, rfl, h1, h2⟩ := List.map_eq_append_iff.mp hl2
      obtain ⟨q, r2, rfl, hq, hr2⟩ := List.map_eq_cons_iff.mp h2
      simp only [List.map_eq_nil_iff] at hr2
      subst hr2
      have ne : (!(strValues (l1 ++ [q])).toArray.isEmpty) = true := by simp [strValues]
      rw [ne, if_pos rfl]
      have el : strValues (l1 ++ [q]) = strValues l1 ++ [.str q.1 q.2] := by simp [strValues]
      have hxl := hpm.2 x (by rw [hp2]; simp)
      have hl1 : (strValues l1).length ≤ 1000 := by have := hpm.1; rw [hp2] at this; have e1 := congrArg List.length h1; simp at e1 this; simp [strValues]; omega
      have T₄ : Top0 h₄ := (T.keeps hB).keeps S₄.keep
      refine wpAny_Tuple_spliced (arg2 (nm (v := .str p.1 t) S₄ kk' c1 rfl ?_))
      refine callN (a := 257) (fd := lawFd 17 256) T₄ okc c3 (by decide) (arg1 (lastL (nm (v := .ref b) S₄ kk' c2 rfl ⟨b, strValues l1, .str q.1 q.2, _, h₄, _, rfl, rfl, S₄.old eb, ⟨nl, by rw [el]⟩, by omega, ?_⟩)))
      refine ⟨(T₄.fns (257, 17, 256) (by decide)).1, ?_⟩
      refine off_call T₄ (hA.le (by omega)) (by rw [hq]; omega) fun h₅ u k₅ K₅ => ?_
      refine ⟨by show 2 ≤ sizeLine; omega, ?_⟩
      have S₅ := S₄.mono K₅
      have S₆ := S₅.alloc (tupO [.str p.1 t, .str (lawOff q.1) u]) (c := its _) rfl
      obtain ⟨B₇, o₇, kB₇, e7, c7, S₇⟩ := S₆.give0
      cases c7
      refine ⟨B₇, _, [], _, _, rfl, kB₇, S₇, rfl, ?_⟩
      have eg : (p.2.getLast?.map fun v => (p.1, lawOff v)).toList = [(p.1, lawOff q.1)] := by rw [hp2, hq]; simp
      rw [et, eg]
      have hr' : PairsS B₇ ys (lastsOf (rows.take i)) := hr.imp fun v p ⟨a, t, u, e, g⟩ => ⟨a, t, u, e, kB₇ _ _ g⟩
      exact All2.snoc hr' ⟨_, t, u, rfl, e7⟩
  · intro ys B' U' D h₂ k₂ hinv hB S₃ _
    obtain ⟨rfl, hr⟩ := hinv
    rw [hrl, List.take_length] at hr
    obtain ⟨oD, eD, ⟨n', rfl⟩⟩ := S₃.get (a := D) (c := lst ys) (by simp)
    exact hQ B' h₂ k₂ D ys n' hB eD (hr.imp fun v p ⟨a, t, u, e, g⟩ => ⟨a, t, u, e, S₃.keep _ _ g⟩) S₃.drop
end
section
variable {w : World} {A : Around} {E : Value → Shared → Prop} {s₀ : Shared} {B : Heap} {L : Addr} {m : Str → Option Value} {U V U₁ U₂ : List (Addr × Cell)} {h h' : Heap} {k : Nat} {env : Env}
theorem sliceTail {value : Expr} {lower upper : Option Expr} {p : Pos} {o i : Value} {s : Shared} {Q : Value → Shared → Prop} (hT : s.TypeIs o "list") (h : wpAny (model PW w) A (getItem o i) Q E s) :
    wpAny (model PW w) A (PyProof.Rows.subscriptTail value (.Slice lower upper none p) o i) Q E s := by
  unfold PyProof.Rows.subscriptTail
  refine wpAny_bind ?_
  rw [getitemInPython_of_ne hT.not_modules]
  refine wpAny_bind (wpAny_specialOf hT slot_list_getitem.lookup ?_)
  have fin : wpAny (model PW w) A (operate [i, o] (getItem o i)) (fun r s₃ => wpAny (model PW w) A (letTemporaryGo value o r >>= fun _ => pure r) Q E s₃) E s :=
    wpAny_operating (wpAny_mono h (fun r s₃ h₃ => wpAny_bind (wpAny_letTemporaryGo (wpAny_pure h₃))) fun _ _ x => x)
  first
    | exact wpAny_pure (wpAny_bind fin)
    | exact wpAny_bind (wpAny_pure (wpAny_bind fin))
    | exact wpAny_bind fin
theorem list_slice {value : Expr} {lower upper : Option Expr} {p pos : Pos} {Q : Value → Shared → Prop}
    (hv : wpAny (model PW w) A (eval value env) (fun o s₁ => wpAny (model PW w) A (evalPart lower env) (fun vl s₂ => wpAny (model PW w) A (evalPart upper env) (fun vu s₃ =>
      ∃ l items lo hi h₃ k₃, s₃ = Sh s₀ h₃ k₃ ∧ o = .ref l ∧ h₃.IsList l items ∧ items.size ≤ sizeLine ∧ IsPart vl lo ∧ IsPart vu hi ∧
        ∀ h₄, Kp h₃ h₄ → Q (.ref h₄.objs.size) (Sh s₀ (h₄.push { cls := .type "list", data := .seq (slicePick items lo hi none) }) k₃)) E s₂) E s₁) E (Sh s₀ h k)) :
    wpAny (model PW w) A (eval (.Subscript value (.Slice lower upper none p) pos) env) Q E (Sh s₀ h k) := by
  refine PyProof.Rows.Subscript_ (wpAny_mono hv (fun o s₁ q => wpAny_Slice (wpAny_mono q (fun vl s₂ q => wpAny_mono q (fun vu s₃ q => ?_) fun _ _ e => e) fun _ _ e => e)) fun _ _ e => e)
  obtain ⟨l, items, lo, hi, h₃, k₃, rfl, rfl, hl, hsz, pl, pu, hQ⟩ := q
  rw [evalPart_none]
  refine wpAny_pure (sliceTail (s := Sh s₀ _ k₃) (hl.push _).typeIs (wpAny_getItem_list_slice (s := Sh s₀ _ k₃) (hl.push _) (Heap.IsSliceOf.new ..) pl pu .none (by simp) ?_ hsz))
  exact hQ _ (Kp.push _ _)
noncomputable def intConst (c : Int × Nat × Pos) : Expr := .Constant (.int c.1) c.2.1 c.2.2
theorem splicedInts {pos : Pos} : ∀ (cs : List (Int × Nat × Pos)) (k : Nat) (Q : List Value → Shared → Prop), (∀ l k', l.map (·.1) = cs.map (·.1) → Q (intVals l) (Sh s₀ h k')) →
    wpAny (model PW w) A (spliced (backTo pos (starEach (cs.map intConst) env))) Q E (Sh s₀ h k)
  | [], k, Q, hQ => spliced_nil (hQ [] k rfl)
  | c :: r, k, Q, hQ => by
    show wpAny _ _ (spliced ((false, eval (intConst c) env) :: backTo pos (starEach (r.map intConst) env))) _ _ _
    refine spliced_cons (c_int fun t => splicedInts r (k + 1) _ fun l k' e => ?_)
    exact hQ ((c.1, t) :: l) k' (by simp [e])
theorem listInts {elts : List Expr} {pos : Pos} {Q : Value → Shared → Prop} (cs : List (Int × Nat × Pos)) (he : elts = cs.map intConst) (hn : cs.length ≤ sizeLine)
    (hQ : ∀ o k', intsC (cs.map (·.1)) o → o.isFreed = false → Q (.ref h.objs.size) (Sh s₀ (h.push o) k')) :
    wpAny (model PW w) A (eval (.List elts pos) env) Q E (Sh s₀ h k) := by
  subst he
  refine wpAny_List_spliced (splicedInts cs k _ fun l k' e => ⟨?_, ?_⟩)
  · have : l.length = cs.length := by have := congrArg List.length e; simpa using this
    simp only [intVals, List.length_map]; omega
  · exact hQ (listO (intVals l)) k' ⟨l, 0, e, rfl⟩ rfl
theorem ints_from {value : Expr} {c : Nat} {p p1 pos : Pos} {Q : Value → Shared → Prop}
    (hv : wpAny (model PW w) A (eval value env) (fun v s₁ => ∃ D xs o h₁ k₁, v = .ref D ∧ s₁ = Sh s₀ h₁ k₁ ∧ h₁.get? D = some o ∧ intsC xs o ∧ xs.length ≤ 100000 ∧
      ∀ h₂ o₂ k₂, Kp h₁ h₂ → intsC (xs.drop 1) o₂ → o₂.isFreed = false → Q (.ref h₂.objs.size) (Sh s₀ (h₂.push o₂) k₂)) E (Sh s₀ h k)) :
    wpAny (model PW w) A (eval (.Subscript value (.Slice (some (.Constant (.int 1) c p1)) none none p) pos) env) Q E (Sh s₀ h k) := by
  refine list_slice (wpAny_mono hv (fun v s₁ q => ?_) fun _ _ e => e)
  obtain ⟨D, xs, o, h₁, k₁, rfl, rfl, e, ⟨l, n, rfl, rfl⟩, h2, hQ⟩ := q
  have h24 : sizeLine = 16777216 := sizeLine_eq
  rw [List.length_map] at h2
  refine wpAny_evalPart_some (c_int fun t => wpAny_evalPart_none ?_)
  refine ⟨D, (intVals l).toArray, some 1, none, h₁, _, rfl, rfl, ⟨_, e, rfl, n, rfl⟩, by simp [intVals]; omega, .int 1 t, .none, fun h₄ K => ?_⟩
  have ep : slicePick (intVals l).toArray (some 1) none none = (intVals (l.drop 1)).toArray := by
    refine (slicePick_from' (intVals l).toArray 1).trans ?_
    simp [intVals]
  rw [ep]
  exact hQ h₄ _ _ K ⟨l.drop 1, 0, by simp, rfl⟩ rfl
theorem ints_upto {value : Expr} {c b : Nat} {p p1 pos : Pos} {Q : Value → Shared → Prop}
    (hv : wpAny (model PW w) A (eval value env) (fun v s₁ => ∃ D l h₁ k₁, v = .ref D ∧ s₁ = Sh s₀ h₁ k₁ ∧ h₁.IsList D (intVals l).toArray ∧ l.length ≤ 100000 ∧
      ∀ h₂ o₂ k₂, Kp h₁ h₂ → intsC ((l.map (·.1)).take b) o₂ → o₂.isFreed = false → Q (.ref h₂.objs.size) (Sh s₀ (h₂.push o₂) k₂)) E (Sh s₀ h k)) :
    wpAny (model PW w) A (eval (.Subscript value (.Slice none (some (.Constant (.int (b : Nat)) c p1)) none p) pos) env) Q E (Sh s₀ h k) := by
  refine list_slice (wpAny_mono hv (fun v s₁ q => ?_) fun _ _ e => e)
  obtain ⟨D, l, h₁, k₁, rfl, rfl, hL, h2, hQ⟩ := q
  have h24 : sizeLine = 16777216 := sizeLine_eq
  refine wpAny_evalPart_none (wpAny_evalPart_some (c_int fun t => ?_))
  refine ⟨D, (intVals l).toArray, none, some (b : Nat), h₁, _, rfl, rfl, hL, by simp [intVals]; omega, .none, .int b t, fun h₄ K => ?_⟩
  have ep : slicePick (intVals l).toArray none (some (b : Nat)) none = (intVals (l.take b)).toArray := by
    refine (slicePick_upto' (intVals l).toArray b).trans ?_
    simp [intVals]
  rw [ep]
  exact hQ h₄ _ _ K ⟨l.take b, 0, by simp, rfl⟩ rfl
end
end Mine
end
section
open PySem PySem.W PySem.Calls
open Sem (wp)
namespace Mine
noncomputable def Sq (h h' : Heap) : Prop := ∀ a o vs n, h.get? a = some o → o.data = .seq vs n → h'.get? a = some o
theorem Kp.sq {h h' : Heap} (k : Kp h h') : Sq h h' := fun a o _ _ e _ => k a o e
theorem RowsR.sq {h h' : Heap} {rv : List Value} {rows : List (Str × Addr)} (x : RowsR h rv rows) (k : Sq h h') : RowsR h' rv rows := x.imp fun _ _ ⟨a, t, e, g⟩ => ⟨a, t, e, k _ _ _ _ g rfl⟩
theorem ToldR.sq {h h' : Heap} {pc : Value} {tv : List Value} {told : List TE} (x : ToldR h pc tv told) (k : Sq h h') : ToldR h' pc tv told := x.imp fun v e q => by
  cases e with
  | shut => exact q
  | refused => exact q
  | pair n y => obtain ⟨a, t, u, dd, e, g⟩ := q; exact ⟨a, t, u, dd, e, k _ _ _ _ g rfl⟩
theorem PairsS.sq {h h' : Heap} {vs : List Value} {ps : List (Str × Str)} (x : PairsS h vs ps) (k : Sq h h') : PairsS h' vs ps := x.imp fun _ _ ⟨a, t, u, e, g⟩ => ⟨a, t, u, e, k _ _ _ _ g rfl⟩
theorem txts_sq {h h' : Heap} {a : Addr} {o : Obj} {xs : List Str} (e : h.get? a = some o) (c : txts xs o) (k : Sq h h') : h'.get? a = some o := by
  obtain ⟨l, n, _, rfl⟩ := c; exact k _ _ _ _ e rfl
theorem ResAt.sq {h h' : Heap} {pc : Value} {d : Addr} {st : DS} {ans : List Nat} (x : ResAt h pc d st ans) (k : Sq h h') : ResAt h' pc d st ans := by
  obtain ⟨T, R, M, N, W, tv, rv, ms, n1, n2, n3, n4, n5, e0, e1, rT, e2, rR, e3, hm, m, e4, w1, w2, tw, ow, e5, e6, e7, e8⟩ := x
  exact ⟨T, R, M, N, W, tv, rv, ms, n1, n2, n3, n4, n5, k _ _ _ _ e0 rfl, k _ _ _ _ e1 rfl, rT.sq k, k _ _ _ _ e2 rfl, rR.sq k, k _ _ _ _ e3 rfl, hm, fun j b l a b' => by obtain ⟨o, e, c⟩ := m j b l a b'; exact ⟨o, txts_sq e c k, c⟩, k _ _ _ _ e4 rfl,
    w1, w2, tw, ow, k _ _ _ _ e5 rfl, k _ _ _ _ e6 rfl, txts_sq e7 e8 k, e8⟩
theorem ResAt.keeps {h h' : Heap} {pc : Value} {d : Addr} {st : DS} {ans : List Nat} (x : ResAt h pc d st ans) (k : Kp h h') : ResAt h' pc d st ans := x.sq k.sq
noncomputable def rowsOf (st : DS) : List (Str × List Str) := st.rows.map fun p => (p.1, (st.made[p.2]?).getD [])
theorem ResAt.rows {h : Heap} {pc : Value} {d : Addr} {st : DS} {ans : List Nat} (x : ResAt h pc d st ans) (hi : ∀ p ∈ st.rows, p.2 < st.made.length) :
    ∃ T R M N W rv n2, h.get? d = some (tupO [.ref T, .ref R, .ref M, .ref N, .ref W]) ∧ h.get? R = some { cls := .type "list", data := .seq rv.toArray n2 } ∧ RowsT h rv (rowsOf st) := by
  obtain ⟨T, R, M, N, W, tv, rv, ms, n1, n2, n3, n4, n5, e0, e1, rT, e2, rR, e3, hm, m, _⟩ := x
  refine ⟨T, R, M, N, W, rv, n2, e0, e2, forall₂_of_get (by have := rR.len; simpa [rowsA, rowsOf] using this) fun j v p hv hp => ?_⟩
  obtain ⟨q, hq, a, t, rfl, e⟩ := rR.get hv
  simp only [rowsOf, List.getElem?_map, Option.map_eq_some_iff] at hp
  obtain ⟨r, hr, rfl⟩ := hp
  simp only [rowsA, List.getElem?_map, hr, Option.map_some, Option.some.injEq] at hq
  subst hq
  have hlt := hi r (List.mem_of_getElem? hr)
  have g : ms[r.2]? = some ((ms[r.2]?).getD 0) := by rw [List.getElem?_eq_getElem (by omega)]; rfl
  have gl : st.made[r.2]? = some ((st.made[r.2]?).getD []) := by rw [List.getElem?_eq_getElem hlt]; rfl
  obtain ⟨o, eo, co⟩ := m _ _ _ g gl
  exact ⟨a, t, _, o, rfl, e, eo, co⟩
section
variable {w : World} {A : Around} {E : Value → Shared → Prop} {s₀ : Shared} {B : Heap} {L : Addr} {m : Str → Option Value} {U V U₁ U₂ : List (Addr × Cell)} {h h' : Heap} {k : Nat} {env : Env} {s : Shared}
variable {t1 t2 : Option Addr}
noncomputable def LU (t1 t2 : Option Addr) : List (Addr × Cell) := [(235, tabC (dPos facS) t1), (100, tabC (lPos lamE) t2)]
theorem St.sweep (S : St B L m (LU t1 t2) h) : ∃ B', Kp B B' ∧ Sq h B' ∧ St B' L m (LU t1 t2) h := by
  have S' : St B L m (LU t1 t2 ++ []) h := by rw [List.append_nil]; exact S
  obtain ⟨B', k1, _, v, S2⟩ := S'.settle
  refine ⟨B', k1, fun a o vs n e hd => v a o e fun q => ?_, S2⟩
  rcases List.mem_cons.mp q with rfl | q
  · obtain ⟨o', es, ep, e', hd', _⟩ := S.ns
    rw [e] at e'; cases e'; rw [hd] at hd'; cases hd'
  · simp only [LU, List.map_cons, List.map_nil, List.mem_cons, List.not_mem_nil, or_false] at q
    rcases q with rfl | rfl
    · obtain ⟨o', e', c⟩ := S.get (a := 235) (c := tabC (dPos facS) t1) (.head _)
      rw [e] at e'; cases e'; rw [show o = _ from c] at hd; cases hd
    · obtain ⟨o', e', c⟩ := S.get (a := 100) (c := tabC (lPos lamE) t2) (.tail _ (.head _))
      rw [e] at e'; cases e'; rw [show o = _ from c] at hd; cases hd
theorem St.landed0 (S : St B L m (LU t1 t2) h) (kb : Kp (hideAll h [L]) h') (u : h.UpToSlots h') : St B L m (LU t1 t2) h' := by
  refine ⟨u.ns S.ns, fun b o e => kb _ _ (hideAll_get _ (S.keep _ _ e) fun q => ?_), S.nl, fun p hp => ?_, S.nd⟩
  · rw [List.mem_singleton.mp q, S.nl] at e; cases e
  · obtain ⟨⟨o, e, c⟩, n1, n2⟩ := S.own p hp
    exact ⟨⟨o, kb _ _ (hideAll_get _ e fun q => n1 (List.mem_singleton.mp q)), c⟩, n1, n2⟩
theorem St.fly {A : Around} (S : St B L m U h) (hfr : A.frames = some [env]) (hk : env.scope.kind = .function) (hf : env.frame = some L) : Fly (hideAll h [L]) A [env] h :=
  ⟨hfr, kp_hideAll _ _, Heap.FunFrames.cons (by rw [hk]; decide) hf S.ns (hideAll_at (.head _)) trivial⟩
theorem St.hideL (S : St B L m U h) : Kp B (hideAll h [L]) := kp_hide S.keep fun a ha => by rw [List.mem_singleton.mp ha]; exact S.nl
theorem pairs_eq {vs vs' : List Value} {ps : List (Str × Str)} (r : PairsS s.heap vs ps) (r' : PairsS s.heap vs' ps) (hu : A.units < cLine) : All2 (fun x y => SeqAt.EqAt A s x y true) vs vs' := by
  refine All2.join r r' fun x y p _ a b => ?_
  obtain ⟨a, t, u, rfl, e⟩ := a
  obtain ⟨a', t', u', rfl, e'⟩ := b
  exact eqRef (eqT (vs := [.str p.1 t, .str p.2 u]) (ws := [.str p.1 t', .str p.2 u']) (isT e) (isT e') hu (.cons eqS (.cons eqS .nil)))
theorem rowsT_eq {rv rv' : List Value} {rows : List (Str × List Str)} (r : RowsT s.heap rv rows) (r' : RowsT s.heap rv' rows) (hA : AOk 3 A) : All2 (fun x y => SeqAt.EqAt A s x y true) rv rv' := by
  refine All2.join r r' fun x y p _ a b => ?_
  obtain ⟨a, t, b1, o, rfl, e, eb, c⟩ := a
  obtain ⟨a', t', b2, o', rfl, e', eb', c'⟩ := b
  exact eqRef (eqT (isT e) (isT e') hA.room (.cons eqS (.cons (eqRef (txts_eq eb c eb' c' hA.in1.room)) .nil)))
theorem ne_c {a b : Value} {Q : Value → Shared → Prop} (h : SeqAt.RcNeAt A s a b false) (hQ : Q (.bool false) s) : wpAny (model PW w) A (compareOp .NotEq a b) Q E s := h PW w E Q hQ
theorem eq_c {a b : Value} {Q : Value → Shared → Prop} (h : SeqAt.RcAt A s a b true) (hQ : Q (.bool true) s) : wpAny (model PW w) A (compareOp .Eq a b) Q E s := h PW w E Q hQ
end
noncomputable def lDrop (n : Nat) : List Stmt := (dBody (stmtAt 21)).drop n
noncomputable def cOfI : Expr → Int × Nat × Pos | .Constant (.int i) k p => (i, k, p) | _ => default
noncomputable def dfltE : List Expr := match bodyAt 21 0 with | .Assign _ (.Subscript (.BoolOp _ [_, .List es _] _) _ _) _ => es | _ => []
noncomputable def dfltC : List (Int × Nat × Pos) := dfltE.map cOfI
noncomputable def dflt : List Int := [0, 7, 3, 1, 9, 10, 14, 2, 2, 12, 13, 6, 11, 0]
noncomputable def numsOf (ns : List Int) : List Int := (if ns = [] then dflt else ns).take 14
theorem numsOf_ne (ns : List Int) : numsOf ns ≠ [] := by
  unfold numsOf
  split
  · decide
  · rename_i h; intro q
    rw [List.take_eq_nil_iff] at q
    rcases q with q | q
    · cases q
    · exact h q
theorem numsOf_len (ns : List Int) : (numsOf ns).length ≤ 14 := by unfold numsOf; rw [List.length_take]; omega
noncomputable def textOf (ns : List Int) : Str := lawHeader ((numsOf ns).drop 1)
noncomputable def shutOf (ns : List Int) : Int := ((numsOf ns).headD 0 + 2).fmod 4
theorem textOf_len (ns : List Int) : (textOf ns).length ≤ 86 := by
  unfold textOf lawHeader
  have hl := numsOf_len ns
  have hsum := StrLaws.sumLen_le (B := 6) (((numsOf ns).drop 1).map pieceOf) (fun y hy => by obtain ⟨z, _, rfl⟩ := List.mem_map.mp hy; exact pieceOf_len z)
  have h1 := StrLaws.join_length_le (Str.ofString "") (((numsOf ns).drop 1).map pieceOf)
  have h2 : (Str.ofString "").length = 0 := rfl
  have h3 : (Str.ofString "k=a, m=c").length = 8 := rfl
  rw [h2] at h1
  rw [List.length_map, List.length_drop] at hsum h1
  rw [Str.length_append, h3]
  omega
section
variable {w : World} {A : Around} {E : Value → Shared → Prop} {s₀ : Shared} {B : Heap} {L : Addr} {m : Str → Option Value} {U V U₁ U₂ : List (Addr × Cell)} {h h' : Heap} {k : Nat} {env : Env} {Pm : Params}
variable {t1 t2 : Option Addr}
theorem law_nums {Q : Flow → Shared → Prop} {a : Addr} {l : List (Int × Tok)} {ns : List Int} (ok : EOk env) (S : St B env.locals m (LU t1 t2) h) (v1 : m "script" = some (.ref a)) (ha : B.IsList a (intVals l).toArray) (hl : l.map (·.1) = ns) (hn : ns.length ≤ 1000)
    (l1 : env.kindOf "script" = some .local) (l2 : env.kindOf "numbers" = some .local)
    (hQ : ∀ B' h' k' D oD, Kp B B' → B'.get? D = some oD → intsC (numsOf ns) oD → St B' env.locals (fun z => if z = Str.ofString "numbers" then some (.ref D) else m z) (LU t1 t2) h' → Q .next (Sh s₀ h' k')) :
    Runs w A (exec (bodyAt 21 0) env) Q E (Sh s₀ h k) := by
  refine ⟨?_⟩
  have hk := ok.kind
  have hs : sizeLine = 16777216 := sizeLine_eq
  have p63 : (2 : Int) ^ 63 = 9223372036854775808 := by decide
  have hL : h.IsList a (intVals l).toArray := let ⟨o, e, r⟩ := ha; ⟨o, S.old e, r⟩
  have hll : (intVals l).length = ns.length := by rw [← hl]; simp [intVals]
  refine wpAny_Assign_Name ?_
  have fin : ∀ B₁ D (l₁ : List (Int × Tok)) h₁ k₁, Kp B B₁ → St B₁ env.locals m (LU t1 t2) h₁ → h₁.IsList D (intVals l₁).toArray → l₁.length ≤ 1000 → (l₁.map (·.1)).take 14 = numsOf ns →
      ∃ D' l' h₂ k₂, Value.ref D = .ref D' ∧ Sh s₀ h₁ k₁ = Sh s₀ h₂ k₂ ∧ h₂.IsList D' (intVals l').toArray ∧ l'.length ≤ 100000 ∧
        ∀ h₃ o₂ k₃, Kp h₂ h₃ → intsC ((l'.map (·.1)).take 14) o₂ → o₂.isFreed = false → wpAny (model PW w) A (storeName env "numbers" (.ref h₃.objs.size)) (fun _ => Q .next) E (Sh s₀ (h₃.push o₂) k₃) := by
    intro B₁ D l₁ h₁ k₁ kB₁ S₁ c1 hx1 hx2
    refine ⟨D, l₁, h₁, k₁, rfl, rfl, c1, by omega, fun h₃ o₂ k₃ K₃ c2 hf => ?_⟩
    rw [hx2] at c2
    have S₂ := (S₁.mono K₃).alloc o₂ (c := its o₂) rfl hf
    obtain ⟨B₄, o', kB₄, e4, c4, S₄⟩ := S₂.give0
    cases c4
    refine stn S₄ hk l2 fun h₅ k₅ S₅ => ?_
    exact hQ B₄ h₅ k₅ _ _ (kB₁.trans kB₄) e4 c2 S₅
  refine ints_upto (b := 14) ?_
  refine PyProof.Rows.BoolOp_or (nm (v := .ref a) S hk l1 v1 ?_)
  refine wpAny_truthy_list (s := Sh s₀ h _) hL (by rw [List.size_toArray, hll]; omega) ?_
  by_cases hns : ns = []
  · have e0 : (!(intVals l).toArray.isEmpty) = false := by
      have : intVals l = [] := List.length_eq_zero_iff.mp (by rw [hll, hns]; rfl)
      rw [this]; rfl
    rw [e0, if_neg Bool.false_ne_true]
    refine PyProof.Rows.BoolOp_one ?_
    refine listInts ?cs ?b1 ?b2 ?b3
    case cs => exact dfltC
    case b1 => rfl
    case b2 => show 14 ≤ sizeLine; omega
    intro o₁ k₁ hc hf
    have hc' : intsC dflt o₁ := hc
    have S₁ := S.alloc o₁ (c := its o₁) rfl hf
    obtain ⟨B₂, o', kB₂, e2, c2, S₂⟩ := S₁.give0
    cases c2
    obtain ⟨l₂, n₂, hl₂, rfl⟩ := id hc'
    have hlen₂ : l₂.length = 14 := by have := congrArg List.length hl₂; simpa [dflt] using this
    exact fin B₂ _ l₂ _ _ kB₂ S₂ ⟨_, S₂.old e2, rfl, n₂, rfl⟩ (by omega) (by unfold numsOf; rw [if_pos hns, hl₂])
  · have e0 : (!(intVals l).toArray.isEmpty) = true := by
      have : intVals l ≠ [] := fun q => hns (List.length_eq_zero_iff.mp (by rw [← hll, q]; rfl))
      simpa using this
    rw [e0, if_pos rfl]
    exact fin B _ l _ _ (Kp.refl _) S hL (by rw [← hl] at hn; simpa using hn) (by unfold numsOf; rw [if_neg hns, hl])
end
section
variable {P : Ctx → Prop} {w : World} {A : Around} {E : Value → Shared → Prop} {s₀ : Shared} {B : Heap} {L : Addr} {m : Str → Option Value} {U V U₁ U₂ : List (Addr × Cell)} {h h' : Heap} {k : Nat} {env : Env} {Pm : Params}
variable {t1 t2 : Option Addr}
theorem law_shut {Q : Flow → Shared → Prop} {D : Addr} {oD : Obj} {ns : List Int} (T : Top0 B) (hA : AOk 5 A) (ok : EOk env) (S : St B env.locals m (LU t1 t2) h) (v1 : m "numbers" = some (.ref D)) (hD : B.get? D = some oD) (hoD : intsC (numsOf ns) oD)
    (l1 : env.kindOf "numbers" = some .local) (l2 : env.kindOf "shut" = some .local) (l3 : env.kindOf "text" = some .local) (g1 : env.kindOf "_law_header" = some .globalImplicit)
    (hw : swappedStores (aTargets (bodyAt 21 1)) (aValue (bodyAt 21 1)) env = pure (some [Str.ofString "shut", Str.ofString "text"]))
    (hQ : ∀ B' h' k' t u, Kp B B' → St B' env.locals (fun z => if z = Str.ofString "shut" then some (.int (shutOf ns) t) else if z = Str.ofString "text" then some (.str (textOf ns) u) else m z) (LU t1 t2) h' → Q .next (Sh s₀ h' k')) :
    Runs w A (exec (bodyAt 21 1) env) Q E (Sh s₀ h k) := by
  refine ⟨?_⟩
  have hk := ok.kind
  have hs : sizeLine = 16777216 := sizeLine_eq
  have hnl := numsOf_len ns
  obtain ⟨l, nl, hl, rfl⟩ := id hoD
  have hL : h.IsList D (intVals l).toArray := ⟨_, S.old hD, rfl, nl, rfl⟩
  have hll : (intVals l).length = (numsOf ns).length := by rw [← hl]; simp [intVals]
  obtain ⟨n0, nr, hn0⟩ : ∃ n0 nr, numsOf ns = n0 :: nr := by
    cases e : numsOf ns with
    | nil => exact absurd e (numsOf_ne ns)
    | cons a r => exact ⟨a, r, rfl⟩
  obtain ⟨t0, hx⟩ : ∃ t0, (intVals l)[0]? = some (.int n0 t0) := by
    rw [hn0] at hl
    obtain ⟨q, r, rfl, hq, _⟩ := List.map_eq_cons_iff.mp hl
    exact ⟨q.2, by simp [intVals, hq]⟩
  refine PyProof.Rows.Assign_Tuple_swapped (names := [Str.ofString "shut", Str.ofString "text"]) ?_ (by rfl) hw
  refine wpAny_Tuple_spliced (arg2 ?_)
  refine wpAny_BinOp (wpAny_BinOp (ixL (nm (v := .ref D) S hk l1 v1 (c_int fun t => ⟨D, _, 0, t, 0, .int n0 t0, rfl, rfl, hL, by rw [List.size_toArray]; omega, ?_, by rw [List.getElem?_toArray]; exact hx, c_int fun _ => PyProof.Rows.add_int (s := Sh s₀ h _) (c_int fun _ => PyProof.Rows.mod_int (s := Sh s₀ h _) (by decide) ?_)⟩))))
  · unfold seqIndex?
    have hpos : 0 < (numsOf ns).length := by rw [hn0]; simp
    simp only [List.size_toArray, show ¬ ((0 : Int) < 0) by decide, if_false]
    rw [if_pos (by simp only [Bool.and_eq_true, decide_eq_true_eq]; omega)]
    rfl
  have T₁ := T.keeps S.keep
  refine callN (a := 223) (fd := lawFd 11 222) T₁ ok g1 (by decide) (arg1 (ints_from (nm (v := .ref D) S hk l1 v1 ⟨D, numsOf ns, _, h, _, rfl, rfl, S.old hD, hoD, by omega, fun h₂ o₂ k₂ K₂ c2 hf => ?_⟩)))
  have S₂ := (S.mono K₂).alloc o₂ (c := its o₂) rfl hf
  obtain ⟨B₃, o', kB₃, e3, c3, S₃⟩ := S₂.give0
  cases c3
  have T₃ : Top0 (h₂.push o₂) := (T.keeps kB₃).keeps S₃.keep
  refine ⟨(T₃.fns (223, 11, 222) (by decide)).1, ?_⟩
  refine header_call T₃ (hA.le (by omega)) (S₃.old e3) c2 (by simp; omega) fun h₄ k₄ u K₄ => ?_
  refine ⟨by show 2 ≤ sizeLine; omega, ?_⟩
  have S₄ := S₃.mono K₄
  refine wpAny_unpackItems_tuple (items := #[.int ((n0 + 2).fmod 4) _, .str (lawHeader ((numsOf ns).drop 1)) u]) hA.handled ⟨_, Heap.get?_push_size _ rfl, rfl, 0, rfl⟩ fun h₅ he => ?_
  have K₅ : Kp h₄ h₅ := fun b o e => he b o (Nat.ne_of_lt (Heap.lt_size (Heap.get?_push_of_some _ e))) (Heap.get?_push_of_some _ e)
  refine wpAny_assignInOrder_more (wpAny_bindName (stn (S₄.mono K₅) hk l3 fun h₆ k₆ S₆ => ?_))
  refine wpAny_assignInOrder_more (wpAny_bindName (stn S₆ hk l2 fun h₇ k₇ S₇ => ?_))
  refine wpAny_assignInOrder_none ?_
  have es : shutOf ns = (n0 + 2).fmod 4 := by unfold shutOf; rw [hn0]; rfl
  rw [es] at hQ
  exact hQ B₃ h₇ k₇ _ u kB₃ S₇
theorem law_items {Q : Flow → Shared → Prop} {x : Str} {u : Tok} (T : Top0 B) (hA : AOk 7 A) (ok : EOk env) (S : St B env.locals m (LU t1 t2) h) (v1 : m "text" = some (.str x u)) (hx : x.length ≤ 100) (hlaw : lawItems x = httpOf x)
    (l1 : env.kindOf "text" = some .local) (l2 : env.kindOf "due" = some .local) (l3 : env.kindOf "items" = some .local) (g1 : env.kindOf "_law_items" = some .globalImplicit) (g2 : env.kindOf "parse_http_list" = some .globalImplicit)
    (hQ : ∀ B' h' k' D I oD oI, Kp B B' → B'.get? D = some oD → txts (httpOf x) oD → B'.get? I = some oI → txts (httpOf x) oI → St B' env.locals (fun z => if z = Str.ofString "items" then some (.ref I) else if z = Str.ofString "due" then some (.ref D) else m z) (LU t1 t2) h' → wpG P (model PW w) A (execs (lDrop 5) env) Q E (Sh s₀ h' k')) :
    RunsG P w A (execs (lDrop 2) env) Q E (Sh s₀ h k) := by
  refine ⟨?_⟩
  have hk := ok.kind
  have hs : sizeLine = 16777216 := sizeLine_eq
  obtain ⟨⟨p1, p2, p3, hfh⟩, _⟩ := T.http
  have T₁ := T.keeps S.keep
  refine wpG_execs_cons (wpAny.g (wpAny_Assign_Name (callN (a := 233) (fd := lawFd 13 232) T₁ ok g1 (by decide) (arg1 (nm (v := .str x u) S hk l1 v1 ⟨(T₁.fns (233, 13, 232) (by decide)).1, ?_⟩)))))
  refine items_call T₁ (hA.le (by omega)) hx fun h₂ k₂ D oD K₂ nD eD hD => ?_
  rw [hlaw] at hD
  obtain ⟨B₃, kB₃, sq₃, S₃⟩ := (S.mono K₂).sweep
  have eD₃ := txts_sq eD hD sq₃
  refine stn S₃ hk l2 fun h₄ k₄ S₄ => ?_
  have T₄ := (T.keeps kB₃).keeps S₄.keep
  refine wpG_execs_cons (wpAny.g (wpAny_Assign_Name (callN (a := 218) (fd := httpFd p1 p2 p3) T₄ ok g2 (by decide) (arg1 (nm (v := .str x u) S₄ hk l1 (by exact v1) ⟨S₄.keep _ _ (kB₃ _ _ hfh), ?_⟩)))))
  refine http_call T₄ (hA.le (by omega)) (by omega) fun h₅ k₅ I oI K₅ nI eI hI => ?_
  obtain ⟨B₆, kB₆, sq₆, S₆⟩ := (S₄.mono K₅).sweep
  have eI₆ := txts_sq eI hI sq₆
  refine stn S₆ hk l3 fun h₇ k₇ S₇ => ?_
  refine wpG_execs_cons (wpAny.g (wpAny_If ?_))
  refine wpAny_isTrue_Compare1 (nm (v := .ref I) S₇ hk l3 rfl (nm (v := .ref D) S₇ hk l2 rfl (ne_c (txts_ne (S₇.old eI₆) hI (S₇.old (kB₆ _ _ eD₃)) hD hA.room) (truthy_b ?_))))
  refine wpAny_execs_nil ?_
  exact hQ B₆ h₇ _ D I oD oI (kB₃.trans kB₆) (kB₆ _ _ eD₃) hD eI₆ hI S₇
end
section
variable {P : Ctx → Prop} {w : World} {A : Around} {E : Value → Shared → Prop} {s₀ : Shared} {B : Heap} {L : Addr} {m : Str → Option Value} {U V U₁ U₂ : List (Addr × Cell)} {h h' : Heap} {k : Nat} {env : Env} {Pm : Params} {s : Shared}
variable {t1 t2 : Option Addr}
theorem callWith_functionG {pos : Pos} {a : Addr} {o : Obj} {fd : FuncData} {first : List Value} {args : List (Bool × Sem Value)} {Q : Value → Shared → Prop}
    (h : wpG P (model PW w) A (evalArgs (.ref a) true args []) (fun x s₁ => (s₁.heap.get? a = some o ∧ o.data = .func fd) ∧ wpG P (model PW w) A (call (.ref a) (first ++ x.pos) x.kw) Q E s₁) E s) :
    wpG P (model PW w) A (callWith pos (.ref a) first args []) Q E s := by
  unfold callWith
  refine wpG_bind (wpG_holding (wpG_mono h (fun x s₁ h₁ => wpG_standAt ?_) fun _ _ x => x))
  have tail : ∀ {t : Sem Value}, wpG P (model PW w) A t Q E s₁ → wpG P (model PW w) A (t >>= fun r => holding [r] point >>= fun _ => pure r) Q E s₁ :=
    fun ht => wpG_bind (wpG_mono ht (fun r s₂ hr => wpAny.g (wpAny_bind (wpAny_holding (wpAny_point (wpAny_pure hr))))) fun _ _ x => x)
  cases hs : args.any (·.1) <;> simp -iota only [List.any_nil, Bool.or_false] <;>
    refine wpG_bind (m := keeperOf (.ref a)) (wpAny.g ?_) <;> unfold keeperOf <;>
    refine wpAny_bind (wpAny_load h₁.1.1 ?_) <;> rw [h₁.1.2] <;> refine wpAny_pure ?_
  · first
      | refine wpG_ite ?_
      | skip
    split <;> first
      | exact tail h₁.2
      | exact tail (by unfold callMarked; exact wpG_keep h₁.2)
  · first
      | exact tail (by unfold callMarked; exact wpG_keep h₁.2)
      | exact tail h₁.2
theorem callN2G {f : Str} {np pos : Pos} {e1 e2 : Expr} {a : Addr} {fd : FuncData} {Q : Value → Shared → Prop} (T : Top0 h) (ok : EOk env) (hl : env.kindOf f = some .globalImplicit) (hx : (f, .ref a) ∈ gtab)
    (hv : wpAny (model PW w) A (eval e1 env) (fun v s₁ => wpAny (model PW w) A (eval e2 env) (fun u s₂ => s₂.heap.get? a = some (fnObj fd) ∧ wpG P (model PW w) A (call (.ref a) [v, u] []) Q E s₂) E s₁) E (Sh s₀ h k))
    (hs : starEach [e1, e2] env = [(false, eval e1 env), (false, eval e2 env)] := by rfl) (hd : (f == ("__debug__" : Str)) = false := by decide) :
    wpG P (model PW w) A (eval (.Call (.Name f np) [e1, e2] [] pos) env) Q E (Sh s₀ h k) := by
  rw [arm_eval_Call_Name', hs]
  refine wpG_bind (wpAny.g (ngl T ok hl hx ?_ hd))
  refine callWith_functionG (o := fnObj fd) (fd := fd) (evalArgs_plainG ?_)
  refine spliced_consG (wpAny.g (wpAny_mono hv (fun v s₁ q => ?_) fun _ _ e => e))
  refine spliced_consG (wpAny.g (wpAny_mono q (fun u s₂ q => ?_) fun _ _ e => e))
  exact wpAny.g (spliced_nil ⟨⟨q.1, rfl⟩, q.2⟩)
theorem law_read (D : Deep P) {Q : Flow → Shared → Prop} {I : Addr} {oI : Obj} {xs : List Str} {shut : Int} {ts : Tok} (hP : ∀ x ∈ xs, cutEq x = none → ∀ Γ, P Γ → Ctx.called Γ) (T : Top1 Pm B) (hA : AOk 13 A) (ok : EOk env) (hf : env.frame = some env.locals) (hfr : A.frames = some [env])
    (S : St B env.locals m (LU t1 t2) h) (ht1 : TabR B facQ t1) (ht2 : TabR B lamQ t2) (v1 : m "items" = some (.ref I)) (v2 : m "shut" = some (.int shut ts)) (hI : B.get? I = some oI) (hoI : txts xs oI) (hn : xs.length ≤ 1000) (hsz : ∀ x ∈ xs, x.length ≤ 1000)
    (l1 : env.kindOf "items" = some .local) (l2 : env.kindOf "shut" = some .local) (l3 : env.kindOf "told" = some .local) (g1 : env.kindOf "_law_read" = some .globalImplicit)
    (hQ : ∀ B' h' k' d t1' t2', Kp B B' → TabR B' facQ t1' → TabR B' lamQ t2' → ResAt B' (.ref 203) d (resD (kR shut) (sR shut) xs).2 (resD (kR shut) (sR shut) xs).1 →
      St B' env.locals (fun z => if z = Str.ofString "told" then some (.ref d) else m z) (LU t1' t2') h' → wpAny (model PW w) A (execs (lDrop 6) env) Q E (Sh s₀ h' k')) :
    RunsG P w A (execs (lDrop 5) env) Q E (Sh s₀ h k) := by
  refine ⟨?_⟩
  have hk := ok.kind
  have T₁ := T.keeps S.keep
  refine wpG_execs_cons (wpG_Assign_Name (callN2G (a := 238) (fd := lawFd 14 237) T₁.top ok g1 (by decide) (nm (v := .ref I) S hk l1 v1 (nm (v := .int shut ts) S hk l2 v2 ⟨(T₁.top.fns (238, 14, 237) (by decide)).1, ?_⟩))))
  refine read_call (Pm := Pm) D hP T hA S ht1 ht2 hfr (by rw [hk]; decide) hf hI hoI hn hsz fun B₂ h₂ k₂ d t1' t2' kB₂ tr1 tr2 hres S₂ => ?_
  refine stn S₂ hk l3 fun h₃ k₃ S₃ => ?_
  exact wpAny.g (hQ B₂ h₃ k₃ d t1' t2' kB₂ tr1 tr2 hres S₃)
end
end Mine
end
section
open PySem PySem.W PySem.Calls
open Sem (wp)
open PySem.SeqAt
namespace Mine
section
variable {w : World} {A : Around} {E : Value → Shared → Prop} {s₀ : Shared} {B : Heap} {L : Addr} {m : Str → Option Value} {U V U₁ U₂ : List (Addr × Cell)} {h h' : Heap} {k : Nat} {env : Env} {Pm : Params} {s : Shared}
variable {t1 t2 : Option Addr}
theorem kR_pos {shut : Int} (h : 0 ≤ shut) : kR shut = fun i : Nat => decide ((i : Int) < shut) := by
  funext i
  unfold kR
  rw [decide_eq_false (show ¬ shut < 0 by omega), Bool.or_false]
theorem str_ne {x : Str} {t u : Tok} : RcNeAt A s (.str x t) (.str x u) false := by
  have := RcNeAt.str_str (A := A) (s := s) x t x u
  rw [beq_self_eq_true] at this; exact this
theorem law_same {Q : Flow → Shared → Prop} {I D d : Addr} {oI oD : Obj} {xs : List Str} {shut : Int} {ts : Tok} (T : Top1 Pm B) (hA : AOk 13 A) (ok : EOk env) (hf : env.frame = some env.locals) (hfr : A.frames = some [env])
    (S : St B env.locals m (LU t1 t2) h) (v1 : m "items" = some (.ref I)) (v2 : m "shut" = some (.int shut ts)) (v3 : m "due" = some (.ref D)) (v4 : m "told" = some (.ref d)) (hI : B.get? I = some oI) (hoI : txts xs oI) (hD : B.get? D = some oD) (hoD : txts xs oD) (hn : xs.length ≤ 1000) (hsz : ∀ x ∈ xs, x.length ≤ 1000)
    (hsh : 0 ≤ shut) (hres : ResAt B (.ref 203) d (resD (kR shut) (sR shut) xs).2 (resD (kR shut) (sR shut) xs).1) (hi : ∀ p ∈ (resD (kR shut) (sR shut) xs).2.rows, p.2 < (resD (kR shut) (sR shut) xs).2.made.length) (ha : ∀ j ∈ (resD (kR shut) (sR shut) xs).1, j < (resD (kR shut) (sR shut) xs).2.made.length)
    (hkb : keqvRun xs [] = bareRun xs [])
    (l1 : env.kindOf "items" = some .local) (l2 : env.kindOf "shut" = some .local) (l3 : env.kindOf "due" = some .local) (l4 : env.kindOf "told" = some .local) (g1 : env.kindOf "_law_due" = some .globalImplicit) (g2 : env.kindOf "_law_dict" = some .globalImplicit) (g3 : env.kindOf "_law_bare" = some .globalImplicit)
    (hQ : ∀ h' k', St B env.locals m (LU t1 t2) h' → wpAny (model PW w) A (execs (lDrop 7) env) Q E (Sh s₀ h' k')) :
    Runs w A (execs (lDrop 6) env) Q E (Sh s₀ h k) := by
  refine ⟨?_⟩
  have hk := ok.kind
  have T₁ := T.keeps S.keep
  refine wpAny_execs_cons (wpAny_If (PyProof.Rows.isTrue_or ?_))
  refine wpAny_isTrue_Compare1 (nm (v := .ref d) S hk l4 v4 (callN (a := 250) (fd := lawFd 16 249) T₁.top ok g1 (by decide) (arg2 (nm (v := .ref D) S hk l3 v3 (nm (v := .int shut ts) S hk l2 v2 ⟨(T₁.top.fns (250, 16, 249) (by decide)).1, ?_⟩)))))
  refine due_call T₁.top (hA.le (by omega)) (S.old hD) hoD hn hsz fun h₂ k₂ d' K₂ nd hdue => ?_
  have eK : (fun i : Nat => decide ((i : Int) < shut)) = kR shut := (kR_pos hsh).symm
  have eS : (fun i : Nat => (i : Int) == shut) = sR shut := rfl
  rw [eK, eS] at hdue
  have S₂ := S.mono K₂
  refine ne_c (res_ne (s := Sh s₀ h₂ k₂) ((T.keeps S₂.keep).K) (hA.le (by omega)) hi ha (hres.keeps S₂.keep) hdue) (truthy_b ?_)
  rw [if_neg Bool.false_ne_true]
  refine PyProof.Rows.isTrue_or (wpAny_isTrue_Compare1 ?_)
  have T₂ := T.keeps S₂.keep
  refine callN (a := 271) (fd := lawFd 19 270) T₂.top ok g2 (by decide) (arg1 (nm (v := .ref I) S₂ hk l1 v1 ⟨(T₂.top.fns (271, 19, 270) (by decide)).1, ?_⟩))
  refine dict_call (T.top.keeps S₂.hideL) (hA.le (by omega)) (S₂.fly hfr hk hf) (S₂.old hI) hoI hn hsz (fun h₃ k₃ p ps vs o₃ n₃ e1 _ K₃ _ e3 ho₃ hp => ?_) (fun b h₃ k₃ t₃ e1 kq => ?_)
  · have S₃ := S₂.mono K₃
    have T₃ := T.keeps S₃.keep
    refine callN (a := 264) (fd := lawFd 18 263) T₃.top ok g3 (by decide) (arg1 (nm (v := .ref D) S₃ hk l3 v3 ⟨(T₃.top.fns (264, 18, 263) (by decide)).1, ?_⟩))
    refine bare_call T₃.top (hA.le (by omega)) (S₃.old hD) hoD hn hsz (fun h₄ k₄ p' ps' vs' o₄ n₄ e2 _ K₄ _ e4 ho₄ hp' => ?_) (fun b h₄ k₄ t₄ e2 K₄ => ?_)
    · rw [← hkb, e1] at e2
      cases e2
      subst ho₃ ho₄
      refine ne_c (s := Sh s₀ h₄ k₄) (neL (isL (K₄ _ _ e3)) (isL e4) hA.room (pairs_eq (s := Sh s₀ h₄ k₄) (hp.sq K₄.sq) hp' (AOk.in1 (n := 12) hA).room)) (truthy_b ?_)
      rw [if_neg Bool.false_ne_true]
      refine PyProof.Rows.isTrue_or_nil ?_
      exact wpAny_execs_nil (hQ h₄ k₄ (S₃.mono K₄))
    · rw [← hkb, e1] at e2; cases e2
  · have S₃ := S₂.landed0 kq.1 kq.2
    have T₃ := T.keeps S₃.keep
    refine callN (a := 264) (fd := lawFd 18 263) T₃.top ok g3 (by decide) (arg1 (nm (v := .ref D) S₃ hk l3 v3 ⟨(T₃.top.fns (264, 18, 263) (by decide)).1, ?_⟩))
    refine bare_call T₃.top (hA.le (by omega)) (S₃.old hD) hoD hn hsz (fun h₄ k₄ p' ps' vs' o₄ n₄ e2 _ K₄ _ e4 ho₄ hp' => ?_) (fun b' h₄ k₄ t₄ e2 K₄ => ?_)
    · rw [← hkb, e1] at e2; cases e2
    · rw [← hkb, e1] at e2
      cases e2
      refine ne_c (s := Sh s₀ h₄ k₄) str_ne (truthy_b ?_)
      rw [if_neg Bool.false_ne_true]
      refine PyProof.Rows.isTrue_or_nil ?_
      exact wpAny_execs_nil (hQ h₄ k₄ (S₃.mono K₄))
end
section
variable {w : World} {A : Around} {E : Value → Shared → Prop} {s₀ : Shared} {B : Heap} {L : Addr} {m : Str → Option Value} {U V U₁ U₂ : List (Addr × Cell)} {h h' : Heap} {k : Nat} {env : Env} {Pm : Params} {s : Shared}
variable {t1 t2 : Option Addr}
theorem tup1 {value : Expr} {c : Nat} {p pos : Pos} {Q : Value → Shared → Prop}
    (hv : wpAny (model PW w) A (eval value env) (fun v s₁ => ∃ d x0 x1 x2 x3 x4 h₁ k₁, v = .ref d ∧ s₁ = Sh s₀ h₁ k₁ ∧ h₁.get? d = some (tupO [x0, x1, x2, x3, x4]) ∧ Q x1 (Sh s₀ h₁ (k₁ + 1))) E (Sh s₀ h k)) :
    wpAny (model PW w) A (eval (.Subscript value (.Constant (.int 1) c p) pos) env) Q E (Sh s₀ h k) := by
  refine PyProof.Rows.Subscript_ (wpAny_mono hv (fun v s₁ q => ?_) fun _ _ e => e)
  obtain ⟨d, x0, x1, x2, x3, x4, h₁, k₁, rfl, rfl, e, hQ⟩ := q
  refine c_int fun t => ?_
  exact PyProof.Rows.item_tupleT (s := Sh s₀ h₁ _) (l := [x0, x1, x2, x3, x4]) (j := 1) ⟨_, e, rfl, 0, rfl⟩ (by decide) (by decide) rfl rfl hQ
structure TxtOk (ts : List Str) : Prop where
  n : ts.length ≤ 100
  sz : ∀ x ∈ ts, x.length ≤ 1000
  il : (httpOf (jnQ ts)).length ≤ 1000
  is : ∀ y ∈ httpOf (jnQ ts), y.length ≤ 1000
  kv : keqvRun (httpOf (jnQ ts)) [] = .ok (numbered ts)
  eq : ∀ x ∈ ts, cutEq x ≠ none
structure RowsOk (rows : List (Str × List Str)) : Prop where
  n : rows.length ≤ 1000
  sz : ∀ p ∈ rows, p.1.length ≤ 1000 ∧ p.2.length ≤ 1000 ∧ ∀ v ∈ p.2, v.length ≤ 1000
theorem law_texts {Q : Flow → Shared → Prop} {d : Addr} {st : DS} {ans : List Nat} (T : Top1 Pm B) (hA : AOk 13 A) (ok : EOk env) (hf : env.frame = some env.locals) (hfr : A.frames = some [env])
    (S : St B env.locals m (LU t1 t2) h) (v4 : m "told" = some (.ref d))
    (hres : ResAt B (.ref 203) d st ans) (hi : ∀ p ∈ st.rows, p.2 < st.made.length) (ro : RowsOk (rowsOf st)) (to : TxtOk (textsOf (rowsOf st)))
    (l1 : env.kindOf "texts" = some .local) (l2 : env.kindOf "back" = some .local) (l4 : env.kindOf "told" = some .local) (g1 : env.kindOf "_law_again" = some .globalImplicit)
    (hsw : swapOf (bodyAt 21 7) env = pure true)
    (hQ : ∀ B' h' k' D K oD oK m', Kp B B' → B'.get? D = some oD → txts (textsOf (rowsOf st)) oD → B'.get? K = some oK → txts (textsOf (rowsOf st)) oK → (∀ z : Str, z ≠ Str.ofString "texts" → z ≠ Str.ofString "back" → m' z = m z) → m' "texts" = some (.ref D) → m' "back" = some (.ref K) →
      St B' env.locals m' (LU t1 t2) h' → wpAny (model PW w) A (execs (lDrop 9) env) Q E (Sh s₀ h' k')) :
    Runs w A (execs (lDrop 7) env) Q E (Sh s₀ h k) := by
  refine ⟨?_⟩
  have hk := ok.kind
  have hh := hA.handled
  obtain ⟨T0, R, M, N, W, rv, n2, e0, eR, rR⟩ := hres.rows hi
  refine wpAny_execs_cons ?_
  refine texts_comp (w := w) (y := Str.ofString "texts") hh hk l1 hsw (closureFor_none (by decide)) (by decide) rfl (by decide) rfl rfl rfl S eR rR (by have := to.n; omega) (fun p hp => ⟨(ro.sz p hp).1, (ro.sz p hp).2.2⟩)
    (fun Q' hQ' => tup1 (nm (v := .ref d) S hk l4 v4 ⟨d, _, _, _, _, _, h, _, rfl, rfl, S.old e0, hQ' h _ (Kp.refl _)⟩)) fun B₂ h₂ k₂ D oD kB₂ eD hD S₂ => ?_
  have T₂ := (T.keeps kB₂).keeps S₂.keep
  refine wpAny_execs_cons (wpAny_Assign_Name (callN (a := 276) (fd := lawFd 20 275) T₂.top ok g1 (by decide) (arg1 (nm (v := .ref D) S₂ hk l1 rfl ⟨(T₂.top.fns (276, 20, 275) (by decide)).1, ?_⟩))))
  refine again_call T₂.top (hA.le (by omega)) (S₂.fly hfr hk hf) (S₂.old eD) hD to.n to.sz to.il to.is to.kv fun h₃ k₃ K oK K₃ nK eK hK => ?_
  obtain ⟨B₄, kB₄, sq₄, S₄⟩ := (S₂.mono K₃).sweep
  have eK₄ := txts_sq eK hK sq₄
  refine stn S₄ hk l2 fun h₅ k₅ S₅ => ?_
  exact hQ B₄ h₅ k₅ D K oD oK _ (kB₂.trans kB₄) (kB₄ _ _ eD) hD eK₄ hK (fun z z1 z2 => by rw [if_neg z2, if_neg z1]) rfl rfl S₅
theorem law_again {Q : Flow → Shared → Prop} {d D K : Addr} {oD oK : Obj} {st : DS} {ans : List Nat} (T : Top1 Pm B) (hA : AOk 13 A) (ok : EOk env) (hf : env.frame = some env.locals) (hfr : A.frames = some [env])
    (S : St B env.locals m (LU t1 t2) h) (ht1 : TabR B facQ t1) (ht2 : TabR B lamQ t2) (v1 : m "texts" = some (.ref D)) (v2 : m "back" = some (.ref K)) (v4 : m "told" = some (.ref d))
    (eD : B.get? D = some oD) (hD : txts (textsOf (rowsOf st)) oD) (eK : B.get? K = some oK) (hK : txts (textsOf (rowsOf st)) oK)
    (hres : ResAt B (.ref 203) d st ans) (hi : ∀ p ∈ st.rows, p.2 < st.made.length) (to : TxtOk (textsOf (rowsOf st)))
    (hi2 : ∀ p ∈ (resD (kR (-1)) (sR (-1)) (textsOf (rowsOf st))).2.rows, p.2 < (resD (kR (-1)) (sR (-1)) (textsOf (rowsOf st))).2.made.length) (hr2 : rowsOf (resD (kR (-1)) (sR (-1)) (textsOf (rowsOf st))).2 = rowsOf st)
    (l1 : env.kindOf "texts" = some .local) (l2 : env.kindOf "back" = some .local) (l4 : env.kindOf "told" = some .local) (g1 : env.kindOf "_law_read" = some .globalImplicit)
    (hQ : ∀ B' h' k' t1' t2', Kp B B' → St B' env.locals m (LU t1' t2') h' → wpAny (model PW w) A (execs (lDrop 10) env) Q E (Sh s₀ h' k')) :
    Runs w A (execs (lDrop 9) env) Q E (Sh s₀ h k) := by
  refine ⟨?_⟩
  have hk := ok.kind
  have hh := hA.handled
  have T₁ := T.keeps S.keep
  refine wpAny_execs_cons (wpAny_If (PyProof.Rows.isTrue_or ?_))
  refine wpAny_isTrue_Compare1 (nm (v := .ref K) S hk l2 v2 (nm (v := .ref D) S hk l1 v1 (ne_c (s := Sh s₀ h _) (txts_ne (S.old eK) hK (S.old eD) hD hA.room) (truthy_b ?_))))
  rw [if_neg Bool.false_ne_true]
  refine PyProof.Rows.isTrue_or (wpAny_isTrue_Compare1 (tup1 ?_))
  refine callN (a := 238) (fd := lawFd 14 237) T₁.top ok g1 (by decide) (arg2 (nm (v := .ref K) S hk l2 v2 (c_neg fun tm => ⟨(T₁.top.fns (238, 14, 237) (by decide)).1, ?_⟩)))
  refine wpG.any (read_call (Pm := Pm) deep_true (fun x hx q => absurd q (to.eq x hx)) T hA S ht1 ht2 hfr (by rw [hk]; decide) hf eK hK (by have := to.n; omega) to.sz fun B₂ h₂ k₂ d2 t1' t2' kB₂ tr1 tr2 hres2 S₂ => ?_)
  obtain ⟨T0, R, M, N, W, rv, n2, e0, eR, rR⟩ := (hres.keeps kB₂).rows hi
  obtain ⟨T0', R', M', N', W', rv', n2', e0', eR', rR'⟩ := hres2.rows hi2
  rw [hr2] at rR'
  refine ⟨d2, _, _, _, _, _, h₂, _, rfl, rfl, S₂.old e0', ?_⟩
  refine tup1 (nm (v := .ref d) S₂ hk l4 v4 ⟨d, _, _, _, _, _, h₂, _, rfl, rfl, S₂.old e0, ?_⟩)
  refine ne_c (s := Sh s₀ h₂ _) (neL (isL (S₂.old eR')) (isL (S₂.old eR)) hA.room (rowsT_eq (s := Sh s₀ h₂ _) (rR'.keeps S₂.keep) (rR.keeps S₂.keep) ((hA.le (n' := 4) (by omega)).in1))) (truthy_b ?_)
  rw [if_neg Bool.false_ne_true]
  refine PyProof.Rows.isTrue_or_nil ?_
  exact wpAny_execs_nil (hQ B₂ h₂ _ t1' t2' kB₂ S₂)
end
theorem keepV_len (vs : List Str) : (keepV vs).length ≤ vs.length := List.length_filter_le _ _
theorem RowsOk.full {rows : List (Str × List Str)} (r : RowsOk rows) : RowsOk (fullOf rows) := by
  refine ⟨by simp [fullOf]; exact r.n, fun p hp => ?_⟩
  obtain ⟨q, hq, rfl⟩ := List.mem_map.mp hp
  obtain ⟨a, b, c⟩ := r.sz q hq
  exact ⟨a, Nat.le_trans (keepV_len _) b, fun v hv => c v (List.mem_filter.mp hv).1⟩
section
variable {w : World} {A : Around} {E : Value → Shared → Prop} {s₀ : Shared} {B : Heap} {L : Addr} {m : Str → Option Value} {U V U₁ U₂ : List (Addr × Cell)} {h h' : Heap} {k : Nat} {env : Env} {Pm : Params} {s : Shared}
variable {t1 t2 : Option Addr}
theorem law_last {Q : Flow → Shared → Prop} {d : Addr} {st : DS} {ans : List Nat} (T : Top1 Pm B) (hA : AOk 13 A) (ok : EOk env) (hf : env.frame = some env.locals) (hfr : A.frames = some [env])
    (S : St B env.locals m (LU t1 t2) h) (v4 : m "told" = some (.ref d))
    (hres : ResAt B (.ref 203) d st ans) (hi : ∀ p ∈ st.rows, p.2 < st.made.length) (ro : RowsOk (rowsOf st)) (hn : (textsOf (fullOf (rowsOf st))).length ≤ 1000) (hsz : ∀ x ∈ textsOf (fullOf (rowsOf st)), x.length ≤ 1000)
    (hkf : keqvRun (textsOf (fullOf (rowsOf st))) [] = .ok (lastsOf (fullOf (rowsOf st))))
    (l1 : env.kindOf "full" = some .local) (l2 : env.kindOf "again" = some .local) (l4 : env.kindOf "told" = some .local) (g1 : env.kindOf "_law_dict" = some .globalImplicit)
    (hsw : swapOf (bodyAt 21 10) env = pure true) (hsw2 : swapOf (bodyAt 21 11) env = pure true)
    (hQ : ∀ B' h' k' m', Kp B B' → St B' env.locals m' (LU t1 t2) h' → Q (.ret (.bool true)) (Sh s₀ h' k')) :
    Runs w A (execs (lDrop 10) env) Q E (Sh s₀ h k) := by
  refine ⟨?_⟩
  have hk := ok.kind
  have hh := hA.handled
  have rf := ro.full
  obtain ⟨T0, R, M, N, W, rv, n2, e0, eR, rR⟩ := hres.rows hi
  refine wpAny_execs_cons ?_
  refine full_comp (w := w) (y := Str.ofString "full") hh hk l1 hsw (closureFor_none (by decide)) (by decide) rfl (by decide) rfl rfl (fun e => closureFor_none (by decide)) (by decide) rfl (by decide) rfl S eR rR ro.n (fun p hp => (ro.sz p hp).2)
    (fun Q' hQ' => tup1 (nm (v := .ref d) S hk l4 v4 ⟨d, _, _, _, _, _, h, _, rfl, rfl, S.old e0, hQ' h _ (Kp.refl _)⟩)) fun B₂ h₂ k₂ F rv₂ n₂ kB₂ eF rF S₂ => ?_
  refine wpAny_execs_cons ?_
  refine texts_comp (w := w) (y := Str.ofString "again") hh hk l2 hsw2 (closureFor_none (by decide)) (by decide) rfl (by decide) rfl rfl rfl S₂ eF rF (by omega) (fun p hp => ⟨(rf.sz p hp).1, (rf.sz p hp).2.2⟩)
    (fun Q' hQ' => nm (v := .ref F) S₂ hk l1 rfl (hQ' h₂ _ (Kp.refl _))) fun B₃ h₃ k₃ G oG kB₃ eG hG S₃ => ?_
  have T₃b := (T.keeps kB₂).keeps kB₃
  have T₃ := T₃b.keeps S₃.keep
  refine wpAny_execs_cons (wpAny_Return_some (wpAny_Compare1 ?_))
  refine callN (a := 271) (fd := lawFd 19 270) T₃.top ok g1 (by decide) (arg1 (nm (v := .ref G) S₃ hk l2 rfl ⟨(T₃.top.fns (271, 19, 270) (by decide)).1, ?_⟩))
  refine dict_call (T₃b.top.keeps S₃.hideL) (hA.le (by omega)) (S₃.fly hfr hk hf) (S₃.old eG) hG hn hsz (fun h₄ k₄ p ps vs o₄ n₄ e1 _ K₄ _ e4 ho₄ hp => ?_) (fun b h₄ k₄ t₄ e1 kq => ?_)
  · rw [hkf] at e1
    cases e1
    subst ho₄
    obtain ⟨B₅, kB₅, sq₅, S₅⟩ := (S₃.mono K₄).sweep
    have e5 := sq₅ _ _ _ _ e4 rfl
    have hp5 := hp.sq sq₅
    have kB35 := kB₃.trans kB₅
    refine lasts_comp (w := w) (R := F) ((T₃b.keeps kB₅).top) (hA.le (by omega)) ok (closureFor_none (by decide)) (by decide) rfl (by decide) rfl rfl rfl l1 S₅ rfl (kB35 _ _ eF) (rF.keeps kB35) rf.n (fun p hp => (rf.sz p hp).2) fun B₆ h₆ k₆ D ys n₆ kB₆ e6 hp6 S₆ => ?_
    refine eq_c (s := Sh s₀ h₆ k₆) (eqL (isL (S₆.old (kB₆ _ _ e5))) (isL e6) hA.room (pairs_eq (s := Sh s₀ h₆ k₆) (hp5.sq (kB₆.trans S₆.keep).sq) hp6 (AOk.in1 (n := 12) hA).room)) ?_
    exact hQ B₆ h₆ k₆ _ (((kB₂.trans kB₃).trans kB₅).trans kB₆) S₆
  · rw [hkf] at e1; cases e1
end
end Mine
end
section
open PySem PySem.W PySem.Calls
open Sem (wp)
namespace Mine
structure LawOk (ns : List Int) : Prop where
  law : lawItems (textOf ns) = httpOf (textOf ns)
  n : (httpOf (textOf ns)).length ≤ 1000
  sz : ∀ x ∈ httpOf (textOf ns), x.length ≤ 1000
  hi : ∀ p ∈ (resD (kR (shutOf ns)) (sR (shutOf ns)) (httpOf (textOf ns))).2.rows, p.2 < (resD (kR (shutOf ns)) (sR (shutOf ns)) (httpOf (textOf ns))).2.made.length
  ha : ∀ j ∈ (resD (kR (shutOf ns)) (sR (shutOf ns)) (httpOf (textOf ns))).1, j < (resD (kR (shutOf ns)) (sR (shutOf ns)) (httpOf (textOf ns))).2.made.length
  kb : keqvRun (httpOf (textOf ns)) [] = bareRun (httpOf (textOf ns)) []
  ro : RowsOk (rowsOf (resD (kR (shutOf ns)) (sR (shutOf ns)) (httpOf (textOf ns))).2)
  to : TxtOk (textsOf (rowsOf (resD (kR (shutOf ns)) (sR (shutOf ns)) (httpOf (textOf ns))).2))
  hi2 : ∀ p ∈ (resD (kR (-1)) (sR (-1)) (textsOf (rowsOf (resD (kR (shutOf ns)) (sR (shutOf ns)) (httpOf (textOf ns))).2))).2.rows, p.2 < (resD (kR (-1)) (sR (-1)) (textsOf (rowsOf (resD (kR (shutOf ns)) (sR (shutOf ns)) (httpOf (textOf ns))).2))).2.made.length
  hr2 : rowsOf (resD (kR (-1)) (sR (-1)) (textsOf (rowsOf (resD (kR (shutOf ns)) (sR (shutOf ns)) (httpOf (textOf ns))).2))).2 = rowsOf (resD (kR (shutOf ns)) (sR (shutOf ns)) (httpOf (textOf ns))).2
  fn : (textsOf (fullOf (rowsOf (resD (kR (shutOf ns)) (sR (shutOf ns)) (httpOf (textOf ns))).2))).length ≤ 1000
  fsz : ∀ x ∈ textsOf (fullOf (rowsOf (resD (kR (shutOf ns)) (sR (shutOf ns)) (httpOf (textOf ns))).2)), x.length ≤ 1000
  kf : keqvRun (textsOf (fullOf (rowsOf (resD (kR (shutOf ns)) (sR (shutOf ns)) (httpOf (textOf ns))).2))) [] = .ok (lastsOf (fullOf (rowsOf (resD (kR (shutOf ns)) (sR (shutOf ns)) (httpOf (textOf ns))).2)))
theorem shutOf_nn (ns : List Int) : 0 ≤ shutOf ns := Int.fmod_nonneg_of_pos _ (by decide)
section
variable {P : Ctx → Prop} {w : World} {A : Around} {E : Value → Shared → Prop} {s₀ : Shared} {B : Heap} {L : Addr} {m : Str → Option Value} {U V U₁ U₂ : List (Addr × Cell)} {h h' : Heap} {k : Nat} {env : Env} {Pm : Params} {s : Shared}
variable {t1 t2 : Option Addr}
theorem law_body (D : Deep P) {Q : Flow → Shared → Prop} {a : Addr} {l : List (Int × Tok)} {ns : List Int} (ok' : LawOk ns) (hP : ∀ Γ, P Γ → Ctx.called Γ) (T : Top1 Pm B) (hA : AOk 13 A) (ok : EOk env) (hf : env.frame = some env.locals) (hfr : A.frames = some [env])
    (S : St B env.locals m (LU t1 t2) h) (ht1 : TabR B facQ t1) (ht2 : TabR B lamQ t2) (v1 : m "script" = some (.ref a)) (ha : B.IsList a (intVals l).toArray) (ho : l.map (·.1) = ns) (hn : ns.length ≤ 1000)
    (hl : ∀ x ∈ ["script", "numbers", "shut", "text", "due", "items", "told", "texts", "back", "full", "again"].map Str.ofString, env.kindOf x = some .local)
    (hg : ∀ x ∈ ["_law_header", "_law_items", "parse_http_list", "_law_read", "_law_due", "_law_dict", "_law_bare", "_law_again"].map Str.ofString, env.kindOf x = some .globalImplicit)
    (hw : swappedStores (aTargets (bodyAt 21 1)) (aValue (bodyAt 21 1)) env = pure (some [Str.ofString "shut", Str.ofString "text"])) (hsw : swapOf (bodyAt 21 7) env = pure true) (hsw2 : swapOf (bodyAt 21 10) env = pure true) (hsw3 : swapOf (bodyAt 21 11) env = pure true)
    (hQ : ∀ B' h' k' t1' t2' m', Kp B B' → St B' env.locals m' (LU t1' t2') h' → Q (.ret (.bool true)) (Sh s₀ h' k')) :
    RunsG P w A (execs (dBody (stmtAt 21)) env) Q E (Sh s₀ h k) := by
  refine ⟨?_⟩
  have lo : ∀ x : String, Str.ofString x ∈ ["script", "numbers", "shut", "text", "due", "items", "told", "texts", "back", "full", "again"].map Str.ofString → env.kindOf (Str.ofString x) = some .local := fun x hx => hl _ hx
  have gl : ∀ x : String, Str.ofString x ∈ ["_law_header", "_law_items", "parse_http_list", "_law_read", "_law_due", "_law_dict", "_law_bare", "_law_again"].map Str.ofString → env.kindOf (Str.ofString x) = some .globalImplicit := fun x hx => hg _ hx
  refine wpG_execs_cons (wpAny.g ?_)
  obtain ⟨key⟩ := law_nums (w := w) (s₀ := s₀) (k := k) (A := A) (E := E) (ns := ns) (Q := fun f s' => match f with | .next => wpG P (model PW w) A (execs (lDrop 1) env) Q E s' | f => Q f s') ok S v1 ha ho hn (lo "script" (by decide)) (lo "numbers" (by decide))
    fun B₁ h₁ k₁ D₁ oD₁ kB₁ eD₁ hD₁ S₁ => by
      refine wpG_execs_cons (wpAny.g ?_)
      obtain ⟨key⟩ := law_shut (w := w) (s₀ := s₀) (k := k₁) (A := A) (E := E) (ns := ns) (Q := fun f s' => match f with | .next => wpG P (model PW w) A (execs (lDrop 2) env) Q E s' | f => Q f s') (T.keeps kB₁).top (hA.le (by omega)) ok S₁ rfl eD₁ hD₁ (lo "numbers" (by decide)) (lo "shut" (by decide)) (lo "text" (by decide)) (gl "_law_header" (by decide)) hw
        fun B₂ h₂ k₂ t u kB₂ S₂ => by
          have kB2 := kB₁.trans kB₂
          obtain ⟨key⟩ := law_items (P := P) (w := w) (s₀ := s₀) (k := k₂) (A := A) (E := E) (Q := Q) (T.keeps kB2).top (hA.le (by omega)) ok S₂ rfl (Nat.le_trans (textOf_len ns) (by decide)) ok'.law (lo "text" (by decide)) (lo "due" (by decide)) (lo "items" (by decide)) (gl "_law_items" (by decide)) (gl "parse_http_list" (by decide))
            fun B₃ h₃ k₃ D₃ I₃ oD oI kB₃ eD hD eI hI S₃ => by
              have kB3 := kB2.trans kB₃
              obtain ⟨key⟩ := law_read (Pm := Pm) (w := w) (s₀ := s₀) (k := k₃) (A := A) (E := E) (Q := Q) (shut := shutOf ns) (ts := t) D (fun x _ _ => hP) (T.keeps kB3) hA ok hf hfr S₃ (ht1.keeps kB3) (ht2.keeps kB3) rfl rfl eI hI ok'.n ok'.sz (lo "items" (by decide)) (lo "shut" (by decide)) (lo "told" (by decide)) (gl "_law_read" (by decide))
                fun B₄ h₄ k₄ d t1' t2' kB₄ tr1 tr2 hres S₄ => by
                  have kB4 := kB3.trans kB₄
                  obtain ⟨key⟩ := law_same (Pm := Pm) (w := w) (s₀ := s₀) (k := k₄) (A := A) (E := E) (Q := Q) (shut := shutOf ns) (ts := t) (T.keeps kB4) hA ok hf hfr S₄ rfl rfl rfl rfl (kB₄ _ _ eI) hI (kB₄ _ _ eD) hD ok'.n ok'.sz (shutOf_nn ns) hres ok'.hi ok'.ha ok'.kb (lo "items" (by decide)) (lo "shut" (by decide)) (lo "due" (by decide)) (lo "told" (by decide)) (gl "_law_due" (by decide)) (gl "_law_dict" (by decide)) (gl "_law_bare" (by decide))
                    fun h₅ k₅ S₅ => by
                      obtain ⟨key⟩ := law_texts (Pm := Pm) (w := w) (s₀ := s₀) (k := k₅) (A := A) (E := E) (Q := Q) (T.keeps kB4) hA ok hf hfr S₅ rfl hres ok'.hi ok'.ro ok'.to (lo "texts" (by decide)) (lo "back" (by decide)) (lo "told" (by decide)) (gl "_law_again" (by decide)) hsw
                        fun B₆ h₆ k₆ G K oG oK m₆ kB₆ eG hG eK hK hm w1 w2 S₆ => by
                          have kB6 := kB4.trans kB₆
                          obtain ⟨key⟩ := law_again (Pm := Pm) (w := w) (s₀ := s₀) (k := k₆) (A := A) (E := E) (Q := Q) (T.keeps kB6) hA ok hf hfr S₆ (tr1.keeps kB₆) (tr2.keeps kB₆) w1 w2 ((hm _ (by decide) (by decide)).trans rfl) eG hG eK hK (hres.keeps kB₆) ok'.hi ok'.to ok'.hi2 ok'.hr2 (lo "texts" (by decide)) (lo "back" (by decide)) (lo "told" (by decide)) (gl "_law_read" (by decide))
                            fun B₇ h₇ k₇ t1'' t2'' kB₇ S₇ => by
                              have kB7 := kB6.trans kB₇
                              obtain ⟨key⟩ := law_last (Pm := Pm) (w := w) (s₀ := s₀) (k := k₇) (A := A) (E := E) (Q := Q) (T.keeps kB7) hA ok hf hfr S₇ ((hm _ (by decide) (by decide)).trans rfl) (hres.keeps (kB₆.trans kB₇)) ok'.hi ok'.ro ok'.fn ok'.fsz ok'.kf (lo "full" (by decide)) (lo "again" (by decide)) (lo "told" (by decide)) (gl "_law_dict" (by decide)) hsw2 hsw3
                                fun B₈ h₈ k₈ m₈ kB₈ S₈ => hQ B₈ h₈ k₈ t1'' t2'' m₈ (kB7.trans kB₈) S₈
                              exact key
                          exact key
                      exact key
                  exact key
              exact key
          exact key
      exact key
  exact key
end
end Mine
end
section
open PySem PySem.W PySem.Calls
namespace Mine
noncomputable def qs (o : Str × Bool) (c : Nat) : Str × Bool := if o.2 then (o.1 ++ one c, false) else if c = 92 then (o.1, true) else (o.1 ++ one c, false)
noncomputable def qrun (l : List Nat) : Str × Bool := l.foldl qs (Str.ofString "", false)
theorem app_nil (x : Str) : x ++ Str.ofString "" = x := Str.ext' (by simp [Str.cps_append]; rfl)
theorem nil_app (x : Str) : Str.ofString "" ++ x = x := Str.ext' (by simp [Str.cps_append]; rfl)
theorem app_ass (x y z : Str) : x ++ y ++ z = x ++ (y ++ z) := Str.append_assoc x y z
theorem tl_app (x y : Str) : (x ++ y).cps.toList = x.cps.toList ++ y.cps.toList := by rw [Str.cps_append, Array.toList_append]
theorem run_q : ∀ (bit : List Nat) (res : List Str) (p : Str) (o : Str × Bool), 34 ∉ bit →
    bit.foldl stepH (res, p ++ o.1, o.2, true) = (res, p ++ (bit.foldl qs o).1, (bit.foldl qs o).2, true)
  | [], _, _, _, _ => rfl
  | c :: r, res, p, o, h => by
    have hc : ¬ c = 34 := fun e => h (e ▸ List.mem_cons_self ..)
    have e : stepH (res, p ++ o.1, o.2, true) c = (res, p ++ (qs o c).1, (qs o c).2, true) := by
      obtain ⟨o1, o2⟩ := o
      cases o2
      · by_cases h92 : c = 92
        · simp [stepH, qs, h92]
        · simp [stepH, qs, h92, hc, app_ass]
      · simp [stepH, qs, app_ass]
    rw [List.foldl_cons, List.foldl_cons, e]
    exact run_q r res p (qs o c) fun m => h (List.mem_cons_of_mem _ m)
theorem run_plain : ∀ (bit : List Nat) (res : List Str) (p : Str), 34 ∉ bit → 44 ∉ bit →
    bit.foldl stepH (res, p, false, false) = (res, p ++ ⟨bit.toArray⟩, false, false)
  | [], res, p, _, _ => by
    have : (⟨([] : List Nat).toArray⟩ : Str) = Str.ofString "" := rfl
    rw [this, app_nil]; rfl
  | c :: r, res, p, h, h2 => by
    have hc : ¬ c = 34 := fun e => h (e ▸ List.mem_cons_self ..)
    have hd : ¬ c = 44 := fun e => h2 (e ▸ List.mem_cons_self ..)
    have e : stepH (res, p, false, false) c = (res, p ++ one c, false, false) := by simp [stepH, hc, hd]
    rw [List.foldl_cons, e, run_plain r res (p ++ one c) (fun m => h (List.mem_cons_of_mem _ m)) (fun m => h2 (List.mem_cons_of_mem _ m)), app_ass]
    have : one c ++ (⟨r.toArray⟩ : Str) = ⟨(c :: r).toArray⟩ := Str.ext' (by simp [Str.cps_append, one])
    rw [this]
theorem mk_tl (x : Str) : (⟨x.cps.toList.toArray⟩ : Str) = x := Str.ext' (by simp)
theorem mem_join {sep : Str} : ∀ {l : List Str} {p : Str} {c : Nat}, p ∈ l → c ∈ p.cps.toList → c ∈ (Str.join sep l).cps.toList
  | [a], p, c, h, hc => by rw [List.mem_singleton.mp h] at hc; exact hc
  | a :: b :: r, p, c, h, hc => by
    have e : Str.join sep (a :: b :: r) = a ++ sep ++ Str.join sep (b :: r) := rfl
    rw [e, tl_app, tl_app]
    rcases List.mem_cons.mp h with rfl | h
    · exact List.mem_append_left _ (List.mem_append_left _ hc)
    · exact List.mem_append_right _ (mem_join h hc)
theorem onLast_snoc (f : Str → Str) (l : List Str) (x : Str) : onLast f (l ++ [x]) = l ++ [f x] := by
  unfold onLast
  rw [List.dropLast_concat]; simp
theorem run_u : ∀ (ps : List Str) (res : List Str) (p : Str), ps ≠ [] → (∀ q ∈ ps, 34 ∉ q.cps.toList ∧ 44 ∉ q.cps.toList) →
    ∃ res' p', (Str.join (Str.ofString ",") ps).cps.toList.foldl stepH (res, p, false, false) = (res', p', false, false) ∧ res' ++ [p'] = onLast (fun z => z ++ ps.headD (Str.ofString "")) (res ++ [p]) ++ ps.drop 1
  | [], _, _, h, _ => absurd rfl h
  | [a], res, p, _, h => by
    refine ⟨res, p ++ a, ?_, ?_⟩
    · have := run_plain a.cps.toList res p (h a (.head _)).1 (h a (.head _)).2
      rw [mk_tl] at this; exact this
    · rw [onLast_snoc]; simp
  | a :: b :: r, res, p, _, h => by
    obtain ⟨res', p', e1, e2⟩ := run_u (b :: r) (res ++ [p ++ a]) (Str.ofString "") (by simp) fun q hq => h q (List.mem_cons_of_mem _ hq)
    refine ⟨res', p', ?_, ?_⟩
    · have e : Str.join (Str.ofString ",") (a :: b :: r) = a ++ Str.ofString "," ++ Str.join (Str.ofString ",") (b :: r) := rfl
      have := run_plain a.cps.toList res p (h a (.head _)).1 (h a (.head _)).2
      rw [mk_tl] at this
      rw [e, tl_app, tl_app, List.foldl_append, List.foldl_append, this]
      exact e1
    · rw [e2, onLast_snoc, onLast_snoc, nil_app]; simp
theorem run_split (bit : Str) (res : List Str) (p : Str) (h : 34 ∉ bit.cps.toList) : ∃ res' p', bit.cps.toList.foldl stepH (res, p, false, false) = (res', p', false, false) ∧
    res' ++ [p'] = onLast (fun z => z ++ (Txt.split bit (Str.ofString ",")).headD (Str.ofString "")) (res ++ [p]) ++ (Txt.split bit (Str.ofString ",")).drop 1 := by
  have e := StrLaws.join_split bit (Str.ofString ",")
  have := run_u (Txt.split bit (Str.ofString ",")) res p split_ne fun q hq => ⟨fun m => h (e ▸ mem_join hq m), StrLaws.split_free bit 44 q hq⟩
  rw [e] at this; exact this
end Mine
end
section
open PySem PySem.W PySem.Calls
open Builtin Builtin.Str
namespace Mine
theorem qrun_snoc (l : List Nat) (c : Nat) : qrun (l ++ [c]) = qs (qrun l) c := by simp [qrun]
theorem qrun_odd : ∀ (n : Nat) (l : List Nat), l.length = n → (qrun l).2 = decide ((l.reverse.takeWhile bs.cps.contains).length % 2 = 1)
  | 0, l, h => by
    have : l = [] := List.eq_nil_of_length_eq_zero h
    subst this; rfl
  | n + 1, l, h => by
    have hne : l ≠ [] := by intro e; subst e; cases h
    have e := List.dropLast_concat_getLast hne
    generalize hc : l.getLast hne = c at e
    generalize hd : l.dropLast = d at e
    subst e
    have hl : d.length = n := by simpa using h
    have ih := qrun_odd n d hl
    rw [qrun_snoc, List.reverse_append]
    show _ = decide (((c :: d.reverse).takeWhile bs.cps.contains).length % 2 = 1)
    have hb : bs.cps.contains c = decide (c = 92) := by
      have : bs.cps = #[92] := rfl
      rw [this, Bool.eq_iff_iff]; simp
    rw [List.takeWhile_cons, hb]
    by_cases h92 : c = 92
    · rw [if_pos (by simpa using h92)]
      unfold qs
      cases hp : (qrun d).2
      · rw [hp] at ih
        have ih' := of_decide_eq_false ih.symm
        rw [if_neg (by simp), if_pos h92]
        simp only [List.length_cons]
        symm; rw [decide_eq_true_eq]; omega
      · rw [hp] at ih
        have ih' := of_decide_eq_true ih.symm
        rw [if_pos rfl]
        simp only [List.length_cons]
        symm; rw [decide_eq_false_iff_not]; omega
    · rw [if_neg (by simpa using h92)]
      unfold qs
      cases hp : (qrun d).2
      · rw [if_neg (by simp), if_neg h92]; rfl
      · rw [if_pos rfl]; rfl
theorem oddTail_eq (x : Str) : oddTail x = (qrun x.cps.toList).2 := by
  rw [qrun_odd _ _ rfl]
  have hr : ((x.length : Int) - ((Txt.rstripChars x bs).length : Int)) = ((x.cps.toList.reverse.takeWhile bs.cps.contains).length : Int) := by
    have hle : (x.cps.toList.reverse.takeWhile bs.cps.contains).length ≤ x.length := by
      have := (List.takeWhile_sublist bs.cps.contains (l := x.cps.toList.reverse)).length_le
      simpa [Str.length] using this
    unfold Txt.rstripChars Txt.stripBy
    have lo : stripLo bs.cps.contains false x = 0 := rfl
    have hi : stripHi bs.cps.contains true x 0 = x.length - (x.cps.toList.reverse.takeWhile bs.cps.contains).length := rfl
    split
    · rename_i h
      unfold stripSame at h
      rw [lo, hi] at h
      simp only [BEq.rfl, Bool.true_and, beq_iff_eq] at h
      omega
    · unfold PySem.stripped
      rw [lo, hi, StrLaws.sub_len _ _ _ (by omega)]
      omega
  unfold oddTail
  rw [hr]
  rw [Bool.eq_iff_iff, decide_eq_true_eq, beq_iff_eq]
  rw [Int.fmod_eq_emod_of_nonneg _ (by decide)]
  omega
noncomputable def NoDD (l : List Nat) : Prop := ∀ k, (l.drop k).take 2 ≠ [92, 92]
theorem NoDD.tail {c : Nat} {r : List Nat} (h : NoDD (c :: r)) : NoDD r := fun k => h (k + 1)
theorem NoDD.head {r : List Nat} (h : NoDD (92 :: r)) : r.head? ≠ some 92 := by
  intro e
  cases r with
  | nil => cases e
  | cons d r => simp only [List.head?_cons, Option.some.injEq] at e; subst e; exact h 0 rfl
noncomputable def rmL (l : List Nat) : List Nat := subC 92 [] l
theorem rm_eq (x : Str) : (Txt.replace x bs (Str.ofString "")).cps.toList = rmL x.cps.toList := replace_sub x (Str.ofString "") 92
noncomputable def mkS (l : List Nat) : Str := ⟨l.toArray⟩
theorem one_mk (c : Nat) (r : List Nat) : one c ++ mkS r = mkS (c :: r) := Str.ext' (by simp [Str.cps_append, one, mkS])
theorem mk_nil : mkS [] = Str.ofString "" := rfl
theorem rmL_92 (r : List Nat) : rmL (92 :: r) = rmL r := rfl
theorem rmL_cons {c : Nat} (h : ¬ c = 92) (r : List Nat) : rmL (c :: r) = c :: rmL r := by
  unfold rmL subC; rw [List.flatMap_cons, if_neg h]; rfl
theorem run_last : ∀ (p : List Nat) (o : Str) (e : Bool), (e = true → p.head? ≠ some 92) → NoDD p → (p.foldl qs (o, e)).1 = o ++ mkS (rmL p)
  | [], o, e, _, _ => (app_nil o).symm
  | c :: r, o, e, he, h => by
    by_cases h92 : c = 92
    · subst h92
      cases e with
      | true => exact absurd rfl (he rfl)
      | false => exact run_last r o true (fun _ => h.head) h.tail
    · rw [rmL_cons h92, ← one_mk, ← app_ass]
      have e1 : qs (o, e) c = (o ++ one c, false) := by unfold qs; cases e <;> simp [h92]
      rw [List.foldl_cons, e1]
      exact run_last r _ false (fun q => by cases q) h.tail
theorem run_part : ∀ (p : List Nat) (o : Str) (e : Bool), (e = true → (p ++ [92]).head? ≠ some 92) → NoDD (p ++ [92]) → p.foldl qs (o, e) = (o ++ mkS (rmL p), false)
  | [], o, e, he, _ => by
    cases e with
    | true => exact absurd rfl (he rfl)
    | false => rw [show rmL [] = [] from rfl, mk_nil, app_nil]; rfl
  | c :: r, o, e, he, h => by
    by_cases h92 : c = 92
    · subst h92
      cases e with
      | true => exact absurd rfl (he rfl)
      | false => exact run_part r o true (fun _ => NoDD.head (r := r ++ [92]) h) (NoDD.tail (r := r ++ [92]) h)
    · rw [rmL_cons h92, ← one_mk, ← app_ass]
      have e1 : qs (o, e) c = (o ++ one c, false) := by unfold qs; cases e <;> simp [h92]
      rw [List.foldl_cons, e1]
      exact run_part r _ false (fun q => by cases q) (NoDD.tail (r := r ++ [92]) h)
noncomputable def dd : Str := Str.ofString "\\\\"
theorem at_dd (x : Str) (k : Nat) : StrLaws.At x dd x.length k ↔ (x.cps.toList.drop k).take 2 = [92, 92] := by
  unfold StrLaws.At
  rw [StrLaws.subAt_eq]
  have e1 : dd.length = 2 := rfl
  have e2 : dd.cps.toList = [92, 92] := rfl
  rw [e1, e2, beq_iff_eq]
  constructor
  · exact fun h => h.2
  · intro h
    refine ⟨?_, h⟩
    have := congrArg List.length h
    simp only [List.length_take, List.length_drop, List.length_cons, List.length_nil, Array.length_toList] at this
    show k + 2 ≤ x.cps.size
    omega
theorem no_at {x : Str} {f : Nat} (h : ∀ k, f ≤ k → ¬ StrLaws.At x dd x.length k) : NoDD (x.cps.toList.drop f) := by
  intro k e
  rw [List.drop_drop] at e
  exact h (f + k) (by omega) ((at_dd x _).mpr e)
theorem plain_from (x : Str) : ∀ (cuts : List Nat) (a f : Nat) (o : Str), StrLaws.ChainG x dd x.length a cuts f → (∀ k, f ≤ k → ¬ StrLaws.At x dd x.length k) →
    ((x.cps.toList.drop a).foldl qs (o, false)).1 = o ++ Str.join bs ((StrLaws.partsFrom x 2 a cuts).map fun b => Txt.replace b bs (Str.ofString ""))
  | [], a, f, o, h, hn => by
    have ef : f = a := h
    subst ef
    rw [run_last _ o false (fun q => by cases q) (no_at hn)]
    congr 1
    apply Str.ext'
    apply Array.ext'
    show rmL _ = (Txt.replace (strSub x f x.length) bs (Str.ofString "")).cps.toList
    rw [rm_eq, StrLaws.strSub_toList]
    congr 1
    rw [List.take_of_length_le]
    simp [Str.length]
  | c :: r, a, f, o, h, hn => by
    obtain ⟨hac, hat, hno, hr⟩ := h
    have h2 := (at_dd x c).mp hat
    have ih := plain_from x r (c + 2) f ((o ++ mkS (rmL ((x.cps.toList.drop a).take (c - a)))) ++ one 92) hr hn
    obtain ⟨p, q, ep⟩ := StrLaws.partsFrom_ne x 2 (c + 2) r
    have e1 : x.cps.toList.drop a = (x.cps.toList.drop a).take (c - a) ++ (92 :: 92 :: x.cps.toList.drop (c + 2)) := by
      conv => lhs; rw [← List.take_append_drop (c - a) (x.cps.toList.drop a)]
      congr 1
      rw [List.drop_drop, show a + (c - a) = c by omega]
      conv => lhs; rw [← List.take_append_drop 2 (x.cps.toList.drop c), h2]
      rw [List.drop_drop]; rfl
    have hlen : ((x.cps.toList.drop a).take (c - a)).length = c - a := by
      have := hat.1
      have e3 : dd.length = 2 := rfl
      rw [e3] at this
      simp only [List.length_take, List.length_drop, Array.length_toList]
      unfold Str.length at this
      omega
    have hnd : NoDD ((x.cps.toList.drop a).take (c - a) ++ [92]) := by
      intro k e
      have hk : k + 2 ≤ c - a + 1 := by
        have := congrArg List.length e
        simp only [List.length_take, List.length_drop, List.length_append, List.length_cons, List.length_nil, hlen] at this
        omega
      refine hno (a + k) (by omega) (by omega) ((at_dd x _).mpr ?_)
      rw [← List.drop_drop, e1]
      have e4 : (x.cps.toList.drop a).take (c - a) ++ (92 :: 92 :: x.cps.toList.drop (c + 2)) = ((x.cps.toList.drop a).take (c - a) ++ [92]) ++ (92 :: x.cps.toList.drop (c + 2)) := by simp
      have h3 := List.take_append_drop 2 ((x.cps.toList.drop a |>.take (c - a) |>.append [92]).drop k)
      rw [e4, List.drop_append_of_le_length (by simp only [List.length_append, hlen, List.length_cons, List.length_nil]; omega), List.take_append_of_le_length (by simp only [List.length_drop, List.length_append, hlen, List.length_cons, List.length_nil]; omega)]
      exact e
    rw [e1, List.foldl_append, run_part _ o false (fun q => by cases q) hnd]
    show ((x.cps.toList.drop (c + 2)).foldl qs ((o ++ mkS (rmL ((x.cps.toList.drop a).take (c - a)))) ++ one 92, false)).1 = _
    rw [ih]
    show _ = o ++ Str.join bs (Txt.replace (strSub x a c) bs (Str.ofString "") :: (StrLaws.partsFrom x 2 (c + 2) r).map fun b => Txt.replace b bs (Str.ofString ""))
    rw [ep]
    show _ = o ++ ((Txt.replace (strSub x a c) bs (Str.ofString "") ++ bs) ++ Str.join bs ((p :: q).map fun b => Txt.replace b bs (Str.ofString "")))
    rw [app_ass, app_ass, app_ass]
    congr 1
    have e5 : mkS (rmL ((x.cps.toList.drop a).take (c - a))) = Txt.replace (strSub x a c) bs (Str.ofString "") := by
      apply Str.ext'
      apply Array.ext'
      show rmL _ = (Txt.replace (strSub x a c) bs (Str.ofString "")).cps.toList
      rw [rm_eq, StrLaws.strSub_toList]
    rw [e5]; rfl
theorem lawPlain_eq (x : Str) : lawPlain x = (qrun x.cps.toList).1 := by
  obtain ⟨f, hG, hn⟩ := StrLaws.occ_tight x dd (by decide)
  have key := plain_from x _ 0 f (Str.ofString "") hG hn
  rw [List.drop_zero, nil_app] at key
  have lone : NoDD x.cps.toList → (Str.join bs ([x].map fun b => Txt.replace b bs (Str.ofString ""))) = (qrun x.cps.toList).1 := by
    intro h
    have h1 := run_last x.cps.toList (Str.ofString "") false (fun q => by cases q) h
    unfold qrun
    rw [h1, nil_app]
    apply Str.ext'
    apply Array.ext'
    show (Txt.replace x bs (Str.ofString "")).cps.toList = rmL _
    rw [rm_eq]
  unfold lawPlain
  show Str.join bs ((Txt.split x dd).map fun b => Txt.replace b bs (Str.ofString "")) = _
  unfold Txt.split
  split
  · rename_i hc
    refine lone fun k e => ?_
    rw [Bool.or_eq_true, decide_eq_true_eq, decide_eq_true_eq] at hc
    have hA := (at_dd x k).mpr e
    rcases hc with h | h
    · have := hA.1; omega
    · have ek : strKind dd = strKind ⟨#[92]⟩ := by decide +kernel
      refine absurd ?_ (StrLaws.kind_free x 92 (ek ▸ h))
      have : (92 : Nat) ∈ (x.cps.toList.drop k).take 2 := by rw [e]; exact .head _
      exact List.mem_of_mem_drop (List.mem_of_mem_take this)
  · split
    · rename_i he
      have e0 : occurrences x dd 0 x.length (x.length + 1) = [] := List.isEmpty_iff.mp he
      rw [e0] at hG
      have ef : f = 0 := hG
      subst ef
      refine lone ?_
      have := no_at hn
      rwa [List.drop_zero] at this
    · rw [StrLaws.partsBetween_eq]
      exact key.symm
end Mine
end
section
open PySem PySem.W PySem.Calls
namespace Mine
noncomputable def Alike (s : List Str × Option Str) (t : HS) : Prop := match s.2 with
  | none => ∃ res part, s.1 = res ++ [part] ∧ t = (res, part, false, false)
  | some ins => ∃ res part, s.1 = res ++ [part] ∧ t = (res, part ++ (qt ++ lawPlain ins), oddTail ins, true)
theorem qt_one : qt = one 34 := rfl
theorem onLast_app (f : Str → Str) (l : List Str) (hl : l ≠ []) (g : Str → Str) : onLast g (onLast f l) = onLast (fun z => g (f z)) l := by
  have e := last_split hl
  rw [e, onLast_snoc, onLast_snoc, onLast_snoc]
theorem alike_step {s : List Str × Option Str} {t : HS} (h : Alike s t) (bit : Str) (hb : 34 ∉ bit.cps.toList) : Alike (stepI s bit) (bit.cps.toList.foldl stepH (stepH t 34)) := by
  obtain ⟨rows, o⟩ := s
  cases o with
  | none =>
    obtain ⟨res, part, e, rfl⟩ := h
    show Alike (rows, some bit) _
    have e1 : stepH (res, part, false, false) 34 = (res, (part ++ qt) ++ (Str.ofString "", false).1, (Str.ofString "", false).2, true) := by
      simp only [app_nil]; rfl
    rw [e1, run_q _ _ _ _ hb]
    refine ⟨res, part, e, ?_⟩
    rw [lawPlain_eq, oddTail_eq, ← app_ass]; rfl
  | some ins =>
    obtain ⟨res, part, e, rfl⟩ := h
    show Alike (if oddTail ins then (rows, some (ins ++ (qt ++ bit))) else _) _
    cases ho : oddTail ins
    · rw [if_neg (by simp)]
      have e1 : stepH (res, part ++ (qt ++ lawPlain ins), false, true) 34 = (res, (part ++ (qt ++ lawPlain ins)) ++ qt, false, false) := rfl
      rw [e1]
      obtain ⟨res', p', e2, e3⟩ := run_split bit res ((part ++ (qt ++ lawPlain ins)) ++ qt) hb
      rw [e2]
      refine ⟨res', p', ?_, rfl⟩
      rw [e3]
      rw [show rows = res ++ [part] from e]
      rw [onLast_snoc, onLast_snoc]
      simp only [app_ass]
    · rw [if_pos rfl]
      have hq : (qrun ins.cps.toList).2 = true := by rw [← oddTail_eq]; exact ho
      have e1 : stepH (res, part ++ (qt ++ lawPlain ins), true, true) 34 = (res, (part ++ qt) ++ (qs (qrun ins.cps.toList) 34).1, (qs (qrun ins.cps.toList) 34).2, true) := by
        rw [lawPlain_eq]
        unfold qs; rw [hq]
        simp [stepH, app_ass]
      rw [e1, run_q _ _ _ _ hb]
      refine ⟨res, part, e, ?_⟩
      have e2 : qrun (ins ++ (qt ++ bit)).cps.toList = bit.cps.toList.foldl qs (qs (qrun ins.cps.toList) 34) := by
        unfold qrun
        rw [tl_app, tl_app, List.foldl_append]; rfl
      rw [lawPlain_eq, oddTail_eq, e2, app_ass]
theorem alike_run : ∀ (bits : List Str) (s : List Str × Option Str) (t : HS), Alike s t → (∀ b ∈ bits, 34 ∉ b.cps.toList) →
    Alike (bits.foldl stepI s) ((bits.flatMap fun b => 34 :: b.cps.toList).foldl stepH t)
  | [], _, _, h, _ => h
  | b :: r, s, t, h, hb => by
    rw [List.foldl_cons, List.flatMap_cons, List.foldl_append]
    exact alike_run r _ _ (alike_step h b (hb b (.head _))) fun c hc => hb c (List.mem_cons_of_mem _ hc)
theorem join_flat : ∀ (a : Str) (r : List Str), (Str.join qt (a :: r)).cps.toList = a.cps.toList ++ r.flatMap fun b => 34 :: b.cps.toList
  | a, [] => (List.append_nil _).symm
  | a, b :: r => by
    have e : Str.join qt (a :: b :: r) = a ++ qt ++ Str.join qt (b :: r) := rfl
    rw [e, tl_app, tl_app, join_flat b r, List.flatMap_cons]
    show _ ++ [34] ++ _ = _
    simp
theorem law_http (x : Str) : lawItems x = httpOf x := by
  have hA : Alike (runI x) (runH x.cps.toList) := by
    have e := StrLaws.join_split x qt
    have hne := split_ne (x := x) (y := qt)
    have hf := StrLaws.split_free x 34
    unfold runI
    generalize hp : Txt.split x qt = ps at e hne
    have hf : ∀ p ∈ ps, 34 ∉ p.cps.toList := fun p h => hf p (by rw [← hp] at h; exact h)
    cases ps with
    | nil => exact absurd rfl hne
    | cons a r =>
      rw [← e, join_flat]
      unfold runH
      rw [List.foldl_append]
      refine alike_run r _ _ ?_ fun b hb => hf b (List.mem_cons_of_mem _ hb)
      obtain ⟨res', p', e2, e3⟩ := run_split a [] (Str.ofString "") (hf a (.head _))
      rw [e2]
      refine ⟨res', p', ?_, rfl⟩
      rw [e3]
      show Txt.split a (Str.ofString ",") = onLast _ ([] ++ [Str.ofString ""]) ++ _
      rw [onLast_snoc, nil_app]
      have := split_ne (x := a) (y := Str.ofString ",")
      cases hs : Txt.split a (Str.ofString ",") with
      | nil => exact absurd hs this
      | cons b q => rfl
  have key : ∃ res part esc q, endI (runI x) = res ++ [part] ∧ runH x.cps.toList = (res, part, esc, q) := by
    unfold Alike at hA
    unfold endI
    cases h2 : (runI x).2 with
    | none =>
      rw [h2] at hA
      obtain ⟨res, part, e, e'⟩ := hA
      exact ⟨res, part, _, _, e, e'⟩
    | some ins =>
      rw [h2] at hA
      obtain ⟨res, part, e, e'⟩ := hA
      exact ⟨res, _, _, _, by dsimp only; rw [e, onLast_snoc], e'⟩
  obtain ⟨res, part, esc, q, e1, e2⟩ := key
  unfold lawItems httpOf
  simp only [e1, e2]
  congr 1
  rw [List.dropLast_concat]
  have : (res ++ [part]).getLastD (Str.ofString "") = part := by simp
  rw [this]
  by_cases hp : part.length = 0
  · have : part = Str.ofString "" := by
      apply Str.ext'
      exact Array.eq_empty_of_size_eq_zero hp
    subst this
    rfl
  · rw [if_neg hp, if_neg]
    intro h
    have := eq_of_beq h
    subst this
    exact hp rfl
end Mine
end
section
open PySem PySem.W PySem.Calls
open Builtin Builtin.Str
namespace Mine
theorem ls_ext {a b : Str} (h : a.cps.toList = b.cps.toList) : a = b := Str.ext' (Array.ext' h)
theorem eq_tl : (Str.ofString "=").cps.toList = [61] := rfl
theorem cut_none {x : Str} (h : cutEq x = none) : 61 ∉ x.cps.toList := by
  unfold cutEq at h
  rcases StrLaws.occ_head x (Str.ofString "=") 1 (Nat.le_refl 1) with ⟨_, hh⟩ | ⟨i, r, e, _⟩
  · intro hm
    obtain ⟨j, hj⟩ := List.getElem?_of_mem hm
    exact hh j ((StrLaws.subAt_one x 61 j).mpr hj)
  · rw [e] at h; cases h
theorem cut_some {x : Str} {p : Str × Str} (h : cutEq x = some p) : x = (p.1 ++ Str.ofString "=") ++ p.2 ∧ 61 ∉ p.1.cps.toList := by
  unfold cutEq at h
  rcases StrLaws.occ_head x (Str.ofString "=") 1 (Nat.le_refl 1) with ⟨e, _⟩ | ⟨i, r, e, ha, hno⟩
  · rw [e] at h; cases h
  · rw [e] at h
    simp only [Option.some.injEq] at h
    subst h
    have hi : x.cps.toList[i]? = some 61 := (StrLaws.subAt_one x 61 i).mp ha
    have hlt := (List.getElem?_eq_some_iff.mp hi).1
    constructor
    · apply ls_ext
      rw [tl_app, tl_app, StrLaws.strSub_toList, StrLaws.strSub_toList, eq_tl, List.drop_zero, Nat.sub_zero]
      rw [List.take_of_length_le (l := x.cps.toList.drop (i + 1)) (by simp [Str.length])]
      have h1 : x.cps.toList.take i ++ [61] = x.cps.toList.take (i + 1) := by rw [List.take_add_one, hi]; rfl
      rw [h1, List.take_append_drop]
    · rw [StrLaws.strSub_toList]
      intro hm
      obtain ⟨j, hj⟩ := List.getElem?_of_mem hm
      rw [List.drop_zero, Nat.sub_zero] at hj
      have hjl : j < i := by
        have := (List.getElem?_eq_some_iff.mp hj).1
        rw [List.length_take] at this; omega
      rw [List.getElem?_take_of_lt hjl] at hj
      exact hno j hjl ((StrLaws.subAt_one x 61 j).mpr hj)
theorem cut_app {x v : Str} (h : 61 ∉ x.cps.toList) : cutEq ((x ++ Str.ofString "=") ++ v) = some (x, v) := by
  cases hc : cutEq ((x ++ Str.ofString "=") ++ v) with
  | none =>
    have := cut_none hc
    rw [tl_app, tl_app, eq_tl] at this
    exact absurd (List.mem_append_left _ (List.mem_append_right _ (.head _))) this
  | some p =>
    obtain ⟨e, hn⟩ := cut_some hc
    have e' := congrArg (fun z : Str => z.cps.toList) e
    simp only [tl_app, eq_tl, List.append_assoc, List.singleton_append] at e'
    have key : ∀ a b c d : List Nat, 61 ∉ a → 61 ∉ c → a ++ 61 :: b = c ++ 61 :: d → a = c ∧ b = d := by
      intro a
      induction a with
      | nil =>
        intro b c d _ hc h
        cases c with
        | nil => simpa using h
        | cons z c => simp only [List.nil_append, List.cons_append, List.cons.injEq] at h; exact absurd (h.1 ▸ List.mem_cons_self ..) hc
      | cons y a ih =>
        intro b c d ha hc h
        cases c with
        | nil => simp only [List.nil_append, List.cons_append, List.cons.injEq] at h; exact absurd (h.1 ▸ List.mem_cons_self ..) ha
        | cons z c =>
          simp only [List.cons_append, List.cons.injEq] at h
          obtain ⟨h1, h2⟩ := ih b c d (fun m => ha (List.mem_cons_of_mem _ m)) (fun m => hc (List.mem_cons_of_mem _ m)) h.2
          exact ⟨by rw [h.1, h1], h2⟩
    obtain ⟨h1, h2⟩ := key _ _ _ _ h hn e'
    rw [ls_ext h1, ls_ext h2]
theorem cut_len {x : Str} {p : Str × Str} (h : cutEq x = some p) : p.1.length ≤ x.length ∧ p.2.length ≤ x.length := by
  have := congrArg Str.length (cut_some h).1
  rw [len_append, len_append] at this
  omega
noncomputable def stripL (g : Nat → Bool) (l : List Nat) : List Nat := ((l.dropWhile g).reverse.dropWhile g).reverse
theorem drop_take (g : Nat → Bool) : ∀ l : List Nat, l.drop (l.takeWhile g).length = l.dropWhile g
  | [] => rfl
  | c :: r => by
    rw [List.takeWhile_cons, List.dropWhile_cons]
    split
    · exact drop_take g r
    · rfl
theorem tw_len (g : Nat → Bool) (l : List Nat) : (l.takeWhile g).length ≤ l.length := (List.takeWhile_sublist g).length_le
theorem strip_tl (x : Str) : (Txt.strip x).cps.toList = stripL Unicode.isSpace x.cps.toList := by
  have main : ((x.cps.toList.drop (stripLo Unicode.isSpace true x)).take (stripHi Unicode.isSpace true x (stripLo Unicode.isSpace true x) - stripLo Unicode.isSpace true x)) = stripL Unicode.isSpace x.cps.toList := by
    unfold stripL stripHi stripLo
    rw [if_pos rfl, if_pos rfl, drop_take]
    generalize hd : x.cps.toList.dropWhile Unicode.isSpace = d
    have hl : d.length + (x.cps.toList.takeWhile Unicode.isSpace).length = x.length := by
      rw [← hd, ← drop_take, List.length_drop]
      have := tw_len Unicode.isSpace x.cps.toList
      simp only [Array.length_toList] at this ⊢
      unfold Str.length
      omega
    rw [← drop_take Unicode.isSpace d.reverse, List.drop_reverse, List.reverse_reverse]
    congr 1
    omega
  unfold Txt.strip Txt.stripBy
  split
  · rename_i h
    unfold stripSame at h
    rw [Bool.and_eq_true, beq_iff_eq, beq_iff_eq] at h
    rw [← main, h.1]
    rw [h.1] at h
    rw [h.2, List.drop_zero, List.take_of_length_le (by simp [Str.length])]
  · unfold PySem.stripped
    rw [StrLaws.strSub_toList]; exact main
noncomputable def Firm (g : Nat → Bool) (l : List Nat) : Prop := (∀ c, l.head? = some c → g c = false) ∧ ∀ c, l.getLast? = some c → g c = false
theorem dw_head (g : Nat → Bool) : ∀ (l : List Nat) (c : Nat), (l.dropWhile g).head? = some c → g c = false
  | [], c, h => by cases h
  | d :: r, c, h => by
    rw [List.dropWhile_cons] at h
    split at h
    · exact dw_head g r c h
    · rename_i hd
      simp only [List.head?_cons, Option.some.injEq] at h
      subst h
      cases hg : g d
      · rfl
      · exact absurd hg hd
theorem dw_same {g : Nat → Bool} {l : List Nat} (h : ∀ c, l.head? = some c → g c = false) : l.dropWhile g = l := by
  cases l with
  | nil => rfl
  | cons d r => rw [List.dropWhile_cons, if_neg (by rw [h d rfl]; simp)]
theorem stripL_same {g : Nat → Bool} {l : List Nat} (h : Firm g l) : stripL g l = l := by
  unfold stripL
  rw [dw_same h.1, dw_same (l := l.reverse) (fun c hc => h.2 c (by rwa [List.head?_reverse] at hc)), List.reverse_reverse]
theorem stripL_firm (g : Nat → Bool) (l : List Nat) : Firm g (stripL g l) := by
  unfold stripL
  constructor
  · intro c hc
    have hd := dw_head g l
    generalize l.dropWhile g = d at hc hd
    refine hd c ?_
    rw [← drop_take g d.reverse, List.drop_reverse, List.reverse_reverse] at hc
    cases d with
    | nil => simp at hc
    | cons a r =>
      cases hn : ((a :: r).length - ((a :: r).reverse.takeWhile g).length) with
      | zero => rw [hn] at hc; simp at hc
      | succ n => rw [hn] at hc; simpa using hc
  · intro c hc
    rw [List.getLast?_reverse] at hc
    exact dw_head g _ c hc
theorem strip_strip (x : Str) : Txt.strip (Txt.strip x) = Txt.strip x := by
  apply ls_ext
  rw [strip_tl (Txt.strip x), strip_tl x, stripL_same (stripL_firm _ _)]
theorem strip_firm {x : Str} (h : Firm Unicode.isSpace x.cps.toList) : Txt.strip x = x := by
  apply ls_ext
  rw [strip_tl x, stripL_same h]
theorem stripL_sub (g : Nat → Bool) (l : List Nat) : (stripL g l).Sublist l := by
  unfold stripL
  have h1 := (List.dropWhile_sublist g (l := (l.dropWhile g).reverse)).reverse
  rw [List.reverse_reverse] at h1
  exact h1.trans (List.dropWhile_sublist g)
theorem strip_len (x : Str) : (Txt.strip x).length ≤ x.length := by
  have := (stripL_sub Unicode.isSpace x.cps.toList).length_le
  rw [← strip_tl] at this
  exact this
theorem strip_free {x : Str} {c : Nat} (h : c ∉ x.cps.toList) : c ∉ (Txt.strip x).cps.toList := by
  rw [strip_tl]; exact fun m => h ((stripL_sub _ _).subset m)
theorem off_same {v : Str} (h : v.length ≠ 0) : keqvV v = lawOff v := by
  have hl : 1 ≤ v.length := by omega
  have hl' : 1 ≤ v.cps.toList.length := by simpa [Str.length] using hl
  have h1 : Txt.slice v none (some 1) = Txt.item v 0 := by
    show StrLaws.sliceText v none (some 1) = _
    rw [StrLaws.sliceText_to ⟨by decide, by omega⟩]
    unfold Txt.item Txt.charAt
    obtain ⟨n, hn⟩ := StrLaws.some_at (x := v) (i := 0) (by decide) (by omega)
    rw [StrLaws.at_nonneg (by decide) hn]
    apply ls_ext
    show (v.cps.toList.drop 0).take 1 = [n]
    have hn' : v.cps.toList[0]? = some n := by simpa using hn
    cases hv : v.cps.toList with
    | nil => rw [hv] at hn'; cases hn'
    | cons a r => rw [hv] at hn'; simp at hn'; subst hn'; rfl
  have h2 : Txt.slice v (some (-1)) none = Txt.item v (-1) := by
    show StrLaws.sliceText v (some (-1)) none = _
    rw [StrLaws.sliceText_neg_lo v none (by decide) (by omega), StrLaws.sliceText_from ⟨by omega, by simp [Str.length] <;> omega⟩]
    unfold Txt.item Txt.charAt
    have e : ((-1 : Int) + (v.length : Int)).toNat = v.length - 1 := by omega
    have hlt : v.length - 1 < v.cps.toList.length := by simp only [Array.length_toList]; unfold Str.length; unfold Str.length at hl; omega
    have hn : v.cps[((-1 : Int) + (v.length : Int)).toNat]? = some v.cps.toList[v.length - 1] := by
      rw [e]; rw [← List.getElem?_eq_getElem hlt]; simp
    rw [StrLaws.at_neg (by decide) (by omega) hn]
    apply ls_ext
    show (v.cps.toList.drop ((-1 : Int) + (v.length : Int)).toNat).take _ = [v.cps.toList[v.length - 1]]
    rw [e, List.drop_eq_getElem_cons hlt]
    have e2 : v.length - 1 + 1 = v.cps.toList.length := by simp only [Array.length_toList]; unfold Str.length; unfold Str.length at hl; omega
    rw [e2, List.drop_length]
    have e3 : ((v.cps.toList.length : Int) - ((-1 : Int) + (v.length : Int))).toNat = 1 := by simp only [Array.length_toList]; unfold Str.length; omega
    rw [e3]; rfl
  unfold keqvV lawOff
  rw [h1, h2]
  have e4 : (Txt.item v 0 ++ Txt.item v (-1) == Str.ofString "\"\"") = (Txt.item v 0 == qt && Txt.item v (-1) == qt) := by
    unfold Txt.item
    rw [Bool.eq_iff_iff, Bool.and_eq_true, beq_iff_eq, beq_iff_eq, beq_iff_eq]
    constructor
    · intro h
      have := congrArg (fun z : Str => z.cps.toList) h
      simp only [tl_app] at this
      have h3 : [(Txt.charAt v 0).getD 0] ++ [(Txt.charAt v (-1)).getD 0] = [34, 34] := this
      simp only [List.cons_append, List.nil_append, List.cons.injEq, and_true] at h3
      rw [h3.1, h3.2]; exact ⟨rfl, rfl⟩
    · rintro ⟨ha, hb⟩
      rw [ha, hb]; rfl
  rw [e4]
theorem keqv_bare : ∀ (xs : List Str) (acc : List (Str × Str)), keqvRun xs acc = bareRun xs acc
  | [], _ => rfl
  | x :: r, acc => by
    unfold keqvRun bareRun
    cases cutEq x with
    | none => rfl
    | some p =>
      dsimp only
      split
      · rfl
      · rename_i h
        rw [off_same h]; exact keqv_bare r _
end Mine
end
section
open PySem PySem.W PySem.Calls
namespace Mine
noncomputable abbrev Rows := List (Str × List Str)
noncomputable def pairR (kept : Bool) (R : Rows) (x v : Str) : Rows :=
  if R.any (fun p => p.1 == x) then R.map (fun p => if p.1 == x then (p.1, p.2 ++ [v]) else p) else if kept then R ++ [(x, [v])] else R
noncomputable def itemR (kept : Bool) (R : Rows) (item : Str) : Rows := match cutEq item with
  | none => R
  | some p => pairR kept R (Txt.strip p.1) (Txt.strip p.2)
noncomputable def runR (K : Nat → Bool) : Nat → List Str → Rows → Rows
  | _, [], R => R
  | i, x :: r, R => runR K (i + 1) r (itemR (K i) R x)
structure Wf (st : DS) : Prop where
  idx : ∀ p ∈ st.rows, p.2 < st.made.length
  un : ∀ p ∈ st.rows, ∀ q ∈ st.rows, p.1 = q.1 → p = q
  ui : ∀ p ∈ st.rows, ∀ q ∈ st.rows, p.2 = q.2 → p = q
theorem Wf.zero : Wf ⟨[], [], []⟩ := ⟨fun _ h => (nomatch h), fun _ h => (nomatch h), fun _ h => (nomatch h)⟩
theorem Wf.tell {st : DS} (h : Wf st) (e : TE) : Wf (tellD st e) := ⟨h.idx, h.un, h.ui⟩
theorem any_find {rows : List (Str × Nat)} {x : Str} : (rows.any fun p => p.1 == x) = (rows.find? fun p => p.1 == x).isSome := by
  induction rows with
  | nil => rfl
  | cons a r ih =>
    rw [List.any_cons, List.find?_cons, ih]
    cases a.1 == x <;> rfl
theorem rows_any (st : DS) (x : Str) : ((rowsOf st).any fun p => p.1 == x) = (st.rows.any fun p => p.1 == x) := by
  unfold rowsOf; rw [List.any_map]; rfl
theorem modify_last {α : Type} (f : α → α) (a : α) : ∀ l : List α, (l ++ [a]).modify l.length f = l ++ [f a]
  | [] => rfl
  | b :: r => by
    show b :: (r ++ [a]).modify r.length f = _
    rw [modify_last f a r]; rfl
theorem pair_rows {st : DS} (h : Wf st) (kept : Bool) (x v : Str) : rowsOf (pairD kept st x v) = pairR kept (rowsOf st) x v ∧ Wf (pairD kept st x v) := by
  have e0 : (tellD st (.pair x v)).rows = st.rows := rfl
  cases hf : st.rows.find? fun p => p.1 == x with
  | some q =>
    have hq : q ∈ st.rows := List.mem_of_find?_eq_some hf
    have hx : q.1 = x := by have := List.find?_some hf; simpa using this
    have e1 : pairD kept st x v = ⟨st.rows, st.made.modify q.2 (· ++ [v]), st.told ++ [.pair x v]⟩ := by
      unfold pairD getV; rw [e0, hf]; rfl
    rw [e1]
    refine ⟨?_, ⟨fun p hp => by simp only [List.length_modify]; exact h.idx p hp, h.un, h.ui⟩⟩
    unfold pairR
    rw [rows_any, any_find, hf]
    simp only [Option.isSome_some, if_true]
    unfold rowsOf
    rw [List.map_map]
    refine List.map_congr_left fun p hp => ?_
    simp only [Function.comp]
    by_cases hpx : p.1 = x
    · have : p = q := h.un p hp q hq (hpx.trans hx.symm)
      subst this
      rw [if_pos (by simpa using hpx)]
      rw [List.getElem?_modify, List.getElem?_eq_getElem (h.idx p hp)]
      simp
    · rw [if_neg (by simpa using hpx)]
      have hne : ¬ q.2 = p.2 := fun e => hpx ((congrArg Prod.fst (h.ui q hq p hp e)).symm.trans hx)
      rw [List.getElem?_modify]
      simp [hne]
  | none =>
    have hno : ∀ p ∈ st.rows, ¬ p.1 = x := fun p hp e => by
      have := List.find?_eq_none.mp hf p hp
      exact this (by simpa using e)
    have e1 : pairD kept st x v = ⟨if kept then st.rows ++ [(x, st.made.length)] else st.rows, st.made ++ [[v]], st.told ++ [.pair x v]⟩ := by
      unfold pairD getV; rw [e0, hf]
      simp only [addV, tellD]
      congr 1
      exact modify_last _ _ _
    rw [e1]
    have hold : ∀ p ∈ st.rows, ((st.made ++ [[v]])[p.2]?).getD [] = (st.made[p.2]?).getD [] := fun p hp => by rw [List.getElem?_append_left (h.idx p hp)]
    constructor
    · unfold pairR
      rw [rows_any, any_find, hf]
      simp only [Option.isSome_none, Bool.false_eq_true, if_false]
      unfold rowsOf
      cases kept
      · simp only [Bool.false_eq_true, if_false]
        exact List.map_congr_left fun p hp => by rw [hold p hp]
      · simp only [if_true, List.map_append]
        congr 1
        · exact List.map_congr_left fun p hp => by rw [hold p hp]
        · simp
    · cases kept
      · exact ⟨fun p hp => by have := h.idx p hp; simp only [List.length_append]; omega, h.un, h.ui⟩
      · refine ⟨fun p hp => ?_, fun p hp q hq e => ?_, fun p hp q hq e => ?_⟩
        · simp only [if_true] at hp
          simp only [List.length_append, List.length_cons, List.length_nil]
          rcases List.mem_append.mp hp with hp | hp
          · have := h.idx p hp; omega
          · rw [List.mem_singleton.mp hp]; simp
        · simp only [if_true] at hp hq
          rcases List.mem_append.mp hp with hp | hp <;> rcases List.mem_append.mp hq with hq | hq
          · exact h.un p hp q hq e
          · rw [List.mem_singleton.mp hq] at e; exact absurd e (hno p hp)
          · rw [List.mem_singleton.mp hp] at e; exact absurd e.symm (hno q hq)
          · rw [List.mem_singleton.mp hp, List.mem_singleton.mp hq]
        · simp only [if_true] at hp hq
          rcases List.mem_append.mp hp with hp | hp <;> rcases List.mem_append.mp hq with hq | hq
          · exact h.ui p hp q hq e
          · rw [List.mem_singleton.mp hq] at e; have := h.idx p hp; simp only at e; omega
          · rw [List.mem_singleton.mp hp] at e; have := h.idx q hq; simp only at e; omega
          · rw [List.mem_singleton.mp hp, List.mem_singleton.mp hq]
theorem step_rows {st : DS} (h : Wf st) (kept shut : Bool) (item : Str) : rowsOf (stepD kept shut st item) = itemR kept (rowsOf st) item ∧ Wf (stepD kept shut st item) := by
  have main : ∀ st1 : DS, Wf st1 → rowsOf st1 = rowsOf st → rowsOf (match cutEq item with
      | none => tellD st1 .refused
      | some p => pairD kept st1 (Txt.strip p.1) (Txt.strip p.2)) = itemR kept (rowsOf st) item ∧ Wf (match cutEq item with
      | none => tellD st1 .refused
      | some p => pairD kept st1 (Txt.strip p.1) (Txt.strip p.2)) := by
    intro st1 h1 e1
    unfold itemR
    cases cutEq item with
    | none => exact ⟨e1, h1.tell _⟩
    | some p =>
      dsimp only
      rw [← e1]
      exact pair_rows h1 kept _ _
  unfold stepD
  cases shut with
  | true => exact main _ (h.tell _) rfl
  | false => exact main _ h rfl
theorem run_rows (K S : Nat → Bool) : ∀ (xs : List Str) (i : Nat) (st : DS), Wf st → rowsOf (runD K S i xs st) = runR K i xs (rowsOf st) ∧ Wf (runD K S i xs st)
  | [], _, _, h => ⟨rfl, h⟩
  | x :: r, i, st, h => by
    obtain ⟨e, h1⟩ := step_rows h (K i) (S i) x
    have := run_rows K S r (i + 1) _ h1
    rw [e] at this
    exact this
theorem ans_rows : ∀ (xs : List Str) (st : DS), Wf st → (ansD xs st).2.rows = st.rows ∧ (∃ ex, (ansD xs st).2.made = st.made ++ ex) ∧ ∀ j ∈ (ansD xs st).1, j < (ansD xs st).2.made.length
  | [], st, _ => ⟨rfl, ⟨[], (List.append_nil _).symm⟩, fun _ h => (nomatch h)⟩
  | x :: r, st, h => by
    have hg : (getV st x false).2.rows = st.rows ∧ (∃ ex, (getV st x false).2.made = st.made ++ ex) ∧ (getV st x false).1 < (getV st x false).2.made.length := by
      unfold getV
      split
      · rename_i p hp
        exact ⟨rfl, ⟨[], (List.append_nil _).symm⟩, h.idx p (List.mem_of_find?_eq_some hp)⟩
      · exact ⟨rfl, ⟨[[]], rfl⟩, by simp⟩
    obtain ⟨g1, ⟨ex, g2⟩, g3⟩ := hg
    have hw : Wf (getV st x false).2 := ⟨fun p hp => by rw [g1] at hp; rw [g2, List.length_append]; have := h.idx p hp; omega, by rw [g1]; exact h.un, by rw [g1]; exact h.ui⟩
    obtain ⟨i1, ⟨ex2, i2⟩, i3⟩ := ans_rows r _ hw
    have e : ansD (x :: r) st = ((getV st x false).1 :: (ansD r (getV st x false).2).1, (ansD r (getV st x false).2).2) := rfl
    rw [e]
    refine ⟨i1.trans g1, ⟨ex ++ ex2, by dsimp only; rw [i2, g2, List.append_assoc]⟩, fun j hj => ?_⟩
    rcases List.mem_cons.mp hj with rfl | hj
    · dsimp only; rw [i2, List.length_append]; omega
    · exact i3 j hj
theorem res_rows (K S : Nat → Bool) (xs : List Str) : rowsOf (resD K S xs).2 = runR K 0 xs [] ∧ (∀ p ∈ (resD K S xs).2.rows, p.2 < (resD K S xs).2.made.length) ∧ ∀ j ∈ (resD K S xs).1, j < (resD K S xs).2.made.length := by
  obtain ⟨e, h⟩ := run_rows K S xs 0 ⟨[], [], []⟩ Wf.zero
  have h0 : rowsOf ⟨[], [], []⟩ = [] := rfl
  rw [h0] at e
  have ht := h.tell .shut
  obtain ⟨a1, ⟨ex, a2⟩, a3⟩ := ans_rows ansNames _ ht
  have er : (resD K S xs).2.rows = (runD K S 0 xs ⟨[], [], []⟩).rows := a1
  have em : (resD K S xs).2.made = ((runD K S 0 xs ⟨[], [], []⟩).made ++ ex) ++ [[Str.ofString "new"]] := congrArg (· ++ [[Str.ofString "new"]]) a2
  refine ⟨?_, fun p hp => ?_, fun j hj => ?_⟩
  · rw [← e]
    unfold rowsOf
    rw [er, em, List.append_assoc]
    exact List.map_congr_left fun p hp => by rw [List.getElem?_append_left (h.idx p hp)]
  · rw [er] at hp
    rw [em, List.length_append, List.length_append]
    have := h.idx p hp; omega
  · have := a3 j hj
    have e2 : (resD K S xs).2.made = (ansD ansNames (tellD (runD K S 0 xs ⟨[], [], []⟩) .shut)).2.made ++ [[Str.ofString "new"]] := rfl
    rw [e2, List.length_append]; omega
noncomputable def NameOk (N : Nat) (x : Str) : Prop := x.length ≤ N ∧ Txt.strip x = x ∧ 61 ∉ x.cps.toList
noncomputable def ValOk (N : Nat) (v : Str) : Prop := v.length ≤ N ∧ Txt.strip v = v
noncomputable def cnt (R : Rows) : Nat := (R.map fun p => p.2.length).sum
theorem cnt_texts : ∀ R : Rows, (textsOf R).length = cnt R
  | [] => rfl
  | p :: r => by
    have ih := cnt_texts r
    unfold textsOf cnt at ih ⊢
    rw [List.flatMap_cons, List.length_append, ih, List.length_map, List.map_cons, List.sum_cons]
structure GR (N n : Nat) (R : Rows) : Prop where
  nd : (R.map Prod.fst).Nodup
  ok : ∀ p ∈ R, p.2 ≠ [] ∧ NameOk N p.1 ∧ ∀ v ∈ p.2, ValOk N v
  ct : cnt R ≤ n
noncomputable def putR (x v : Str) (p : Str × List Str) : Str × List Str := if p.1 == x then (p.1, p.2 ++ [v]) else p
theorem putR_fst (x v : Str) (p : Str × List Str) : (putR x v p).1 = p.1 := by unfold putR; split <;> rfl
theorem putR_not {x v : Str} : ∀ {R : Rows}, x ∉ R.map Prod.fst → R.map (putR x v) = R
  | [], _ => rfl
  | p :: r, h => by
    rw [List.map_cons, putR_not (R := r) fun m => h (List.mem_cons_of_mem _ m)]
    have : ¬ p.1 = x := fun e => h (e ▸ List.mem_cons_self ..)
    unfold putR
    rw [if_neg (by simpa using this)]
theorem putR_cnt {x v : Str} : ∀ {R : Rows}, (R.map Prod.fst).Nodup → cnt (R.map (putR x v)) ≤ cnt R + 1
  | [], _ => Nat.zero_le _
  | p :: r, h => by
    rw [List.map_cons, List.nodup_cons] at h
    by_cases e : p.1 = x
    · rw [List.map_cons, putR_not (R := r) (e ▸ h.1)]
      unfold cnt putR
      rw [if_pos (by simpa using e)]
      simp only [List.map_cons, List.sum_cons, List.length_append, List.length_cons, List.length_nil]
      omega
    · have ih := putR_cnt (x := x) (v := v) h.2
      rw [List.map_cons]
      have e2 : putR x v p = p := by unfold putR; rw [if_neg (by simpa using e)]
      rw [e2]
      unfold cnt at ih ⊢
      rw [List.map_cons, List.sum_cons, List.map_cons, List.sum_cons]
      omega
theorem any_names {R : Rows} {x : Str} : (R.any fun p => p.1 == x) = true ↔ x ∈ R.map Prod.fst := by
  rw [List.any_eq_true, List.mem_map]
  constructor
  · rintro ⟨p, hp, e⟩; exact ⟨p, hp, eq_of_beq e⟩
  · rintro ⟨p, hp, e⟩; exact ⟨p, hp, by simpa using e⟩
theorem pair_gr {N n : Nat} {R : Rows} (h : GR N n R) (kept : Bool) {x v : Str} (hx : NameOk N x) (hv : ValOk N v) : GR N (n + 1) (pairR kept R x v) := by
  unfold pairR
  split
  · show GR N (n + 1) (R.map (putR x v))
    refine ⟨?_, fun p hp => ?_, Nat.le_trans (putR_cnt h.nd) (Nat.succ_le_succ h.ct)⟩
    · rw [List.map_map]
      have : (Prod.fst ∘ putR x v) = (Prod.fst : Str × List Str → Str) := funext fun p => putR_fst x v p
      rw [this]; exact h.nd
    · obtain ⟨q, hq, rfl⟩ := List.mem_map.mp hp
      obtain ⟨a, b, c⟩ := h.ok q hq
      unfold putR
      split
      · refine ⟨by simp, b, fun w hw => ?_⟩
        rcases List.mem_append.mp hw with hw | hw
        · exact c w hw
        · rw [List.mem_singleton.mp hw]; exact hv
      · exact ⟨a, b, c⟩
  · rename_i hn
    split
    · have hn' : x ∉ R.map Prod.fst := fun m => hn (any_names.mpr m)
      refine ⟨?_, fun p hp => ?_, ?_⟩
      · rw [List.map_append, List.nodup_append]
        refine ⟨h.nd, by simp, fun a ha b hb => ?_⟩
        have : b = x := by simpa using hb
        subst this
        intro e; exact hn' (e ▸ ha)
      · rcases List.mem_append.mp hp with hp | hp
        · exact h.ok p hp
        · rw [List.mem_singleton.mp hp]
          exact ⟨by simp, hx, fun w hw => by rw [List.mem_singleton.mp hw]; exact hv⟩
      · have := h.ct
        unfold cnt at this ⊢
        rw [List.map_append, List.sum_append]
        simp only [List.map_cons, List.map_nil, List.sum_cons, List.sum_nil, List.length_cons, List.length_nil]
        omega
    · exact ⟨h.nd, h.ok, Nat.le_succ_of_le h.ct⟩
theorem item_gr {N n : Nat} {R : Rows} (h : GR N n R) (kept : Bool) {x : Str} (hx : x.length ≤ N) : GR N (n + 1) (itemR kept R x) := by
  unfold itemR
  cases hc : cutEq x with
  | none => exact ⟨h.nd, h.ok, Nat.le_succ_of_le h.ct⟩
  | some p =>
    have hl := cut_len hc
    have h1 := strip_len p.1
    have h2 := strip_len p.2
    exact pair_gr h kept ⟨by omega, strip_strip _, strip_free (cut_some hc).2⟩ ⟨by omega, strip_strip _⟩
theorem run_gr {N : Nat} (K : Nat → Bool) : ∀ (xs : List Str) (i n : Nat) (R : Rows), GR N n R → (∀ x ∈ xs, x.length ≤ N) → GR N (n + xs.length) (runR K i xs R)
  | [], _, _, _, h, _ => h
  | x :: r, i, n, R, h, hx => by
    have := run_gr K r (i + 1) (n + 1) _ (item_gr h (K i) (hx x (.head _))) fun y hy => hx y (List.mem_cons_of_mem _ hy)
    rw [show n + (x :: r).length = n + 1 + r.length by simp; omega]
    exact this
theorem GR.zero (N : Nat) : GR N 0 [] := ⟨List.nodup_nil, fun _ h => (nomatch h), Nat.le_refl _⟩
theorem GR.len {N n : Nat} {R : Rows} (h : GR N n R) : R.length ≤ n := by
  refine Nat.le_trans ?_ h.ct
  have hok := fun p hp => (h.ok p hp).1
  clear h
  induction R with
  | nil => exact Nat.zero_le _
  | cons p r ih =>
    have := ih fun q hq => hok q (List.mem_cons_of_mem _ hq)
    have h1 : 1 ≤ p.2.length := List.length_pos_iff.mpr (hok p (.head _))
    unfold cnt at this ⊢
    rw [List.map_cons, List.sum_cons, List.length_cons]
    omega
theorem mem_cnt {R : Rows} {p : Str × List Str} (h : p ∈ R) : p.2.length ≤ cnt R := by
  unfold cnt
  induction R with
  | nil => cases h
  | cons a r ih =>
    rw [List.map_cons, List.sum_cons]
    rcases List.mem_cons.mp h with rfl | h
    · omega
    · have := ih h; omega
theorem GR.rowsOk {N n : Nat} {R : Rows} (h : GR N n R) (hN : N ≤ 1000) (hn : n ≤ 1000) : RowsOk R := by
  refine ⟨Nat.le_trans h.len hn, fun p hp => ?_⟩
  obtain ⟨_, b, c⟩ := h.ok p hp
  have := mem_cnt hp
  have := h.ct
  exact ⟨Nat.le_trans b.1 hN, by omega, fun v hv => Nat.le_trans (c v hv).1 hN⟩
noncomputable def textR (x v : Str) : Str := (x ++ Str.ofString "=") ++ v
theorem textsOf_cons (p : Str × List Str) (r : Rows) : textsOf (p :: r) = p.2.map (textR p.1) ++ textsOf r := rfl
theorem runR_app (K : Nat → Bool) : ∀ (a b : List Str) (i : Nat) (R : Rows), runR K i (a ++ b) R = runR K (i + a.length) b (runR K i a R)
  | [], _, _, _ => rfl
  | x :: r, b, i, R => by
    show runR K (i + 1) (r ++ b) _ = _
    rw [runR_app K r b (i + 1)]
    rw [show i + 1 + r.length = i + (x :: r).length by simp; omega]; rfl
theorem item_text {N : Nat} (kept : Bool) (R : Rows) {x v : Str} (hx : NameOk N x) (hv : ValOk N v) : itemR kept R (textR x v) = pairR kept R x v := by
  unfold itemR textR
  rw [cut_app hx.2.2]
  dsimp only
  rw [hx.2.1, hv.2]
theorem putR_last {x v : Str} {Acc : Rows} {l : List Str} (kept : Bool) (h : x ∉ Acc.map Prod.fst) : pairR kept (Acc ++ [(x, l)]) x v = Acc ++ [(x, l ++ [v])] := by
  unfold pairR
  rw [if_pos (any_names.mpr (by simp))]
  show (Acc ++ [(x, l)]).map (putR x v) = _
  rw [List.map_append, putR_not h]
  simp [putR]
theorem run_same {N : Nat} (K : Nat → Bool) {x : Str} (hx : NameOk N x) {Acc : Rows} (h : x ∉ Acc.map Prod.fst) : ∀ (vs : List Str) (i : Nat) (l : List Str), (∀ v ∈ vs, ValOk N v) →
    runR K i (vs.map (textR x)) (Acc ++ [(x, l)]) = Acc ++ [(x, l ++ vs)]
  | [], _, l, _ => by rw [List.append_nil]; rfl
  | v :: vs, i, l, hv => by
    show runR K (i + 1) (vs.map (textR x)) (itemR (K i) (Acc ++ [(x, l)]) (textR x v)) = _
    rw [item_text _ _ hx (hv v (.head _)), putR_last _ h, run_same K hx h vs (i + 1) (l ++ [v]) fun w hw => hv w (List.mem_cons_of_mem _ hw)]
    simp
theorem kR_neg (i : Nat) : kR (-1) i = true := by simp [kR]
theorem run_back {N : Nat} : ∀ (R Acc : Rows) (i : Nat), ((Acc ++ R).map Prod.fst).Nodup → (∀ p ∈ R, p.2 ≠ [] ∧ NameOk N p.1 ∧ ∀ v ∈ p.2, ValOk N v) →
    runR (kR (-1)) i (textsOf R) Acc = Acc ++ R
  | [], Acc, _, _, _ => (List.append_nil _).symm
  | (x, vs) :: r, Acc, i, nd, ok => by
    obtain ⟨h1, h2, h3⟩ := ok (x, vs) (.head _)
    cases vs with
    | nil => exact absurd rfl h1
    | cons v vs =>
      have hx : x ∉ Acc.map Prod.fst := by
        intro m
        rw [List.map_append, List.nodup_append] at nd
        exact nd.2.2 x m x (by simp) rfl
      rw [textsOf_cons, runR_app]
      have e1 : runR (kR (-1)) i ((v :: vs).map (textR x)) Acc = Acc ++ [(x, v :: vs)] := by
        show runR (kR (-1)) (i + 1) (vs.map (textR x)) (itemR (kR (-1) i) Acc (textR x v)) = _
        rw [item_text _ _ h2 (h3 v (.head _)), kR_neg]
        have e2 : pairR true Acc x v = Acc ++ [(x, [v])] := by
          unfold pairR
          rw [if_neg (fun q => hx (any_names.mp q)), if_pos rfl]
        rw [e2, run_same _ h2 hx vs (i + 1) [v] fun w hw => h3 w (List.mem_cons_of_mem _ hw)]
        rfl
      rw [e1, run_back r (Acc ++ [(x, v :: vs)]) _ (by rw [List.append_assoc]; exact nd) fun p hp => ok p (List.mem_cons_of_mem _ hp)]
      rw [List.append_assoc]; rfl
theorem putS_last {x u v : Str} {acc : List (Str × Str)} (h : x ∉ acc.map Prod.fst) : putS (acc ++ [(x, u)]) x v = acc ++ [(x, v)] := by
  unfold putS
  rw [if_pos (by simp)]
  rw [List.map_append]
  congr 1
  · conv => rhs; rw [← List.map_id acc]
    refine List.map_congr_left fun p hp => ?_
    rw [if_neg (fun e => h (List.mem_map.mpr ⟨p, hp, e⟩))]; rfl
  · simp
theorem putS_new {x v : Str} {acc : List (Str × Str)} (h : x ∉ acc.map Prod.fst) : putS acc x v = acc ++ [(x, v)] := by
  unfold putS
  rw [if_neg]
  intro q
  rw [List.any_eq_true] at q
  obtain ⟨p, hp, e⟩ := q
  exact h (List.mem_map.mpr ⟨p, hp, by simpa using e⟩)
theorem keqv_text {x v : Str} (hx : 61 ∉ x.cps.toList) (hv : v.length ≠ 0) (rest : List Str) (acc : List (Str × Str)) : keqvRun (textR x v :: rest) acc = keqvRun rest (putS acc x (lawOff v)) := by
  conv => lhs; unfold keqvRun
  unfold textR
  rw [cut_app hx]
  dsimp only
  rw [if_neg hv, off_same hv]
theorem keqv_same {x : Str} (hx : 61 ∉ x.cps.toList) {acc : List (Str × Str)} (h : x ∉ acc.map Prod.fst) (rest : List Str) : ∀ (ws : List Str) (u : Str), (∀ w ∈ ws, w.length ≠ 0) →
    keqvRun (ws.map (textR x) ++ rest) (acc ++ [(x, u)]) = keqvRun rest (acc ++ [(x, (ws.getLast?.map lawOff).getD u)])
  | [], u, _ => rfl
  | w :: ws, u, hw => by
    show keqvRun (textR x w :: (ws.map (textR x) ++ rest)) _ = _
    rw [keqv_text hx (hw w (.head _)), putS_last h, keqv_same hx h rest ws (lawOff w) fun z hz => hw z (List.mem_cons_of_mem _ hz)]
    rw [List.getLast?_cons]
    cases ws.getLast? <;> rfl
theorem keqv_full {N : Nat} : ∀ (R : Rows) (acc : List (Str × Str)), (acc.map Prod.fst ++ R.map Prod.fst).Nodup → (∀ p ∈ R, NameOk N p.1) → keqvRun (textsOf (fullOf R)) acc = .ok (acc ++ lastsOf (fullOf R))
  | [], acc, _, _ => by rw [show lastsOf (fullOf []) = [] from rfl, List.append_nil]; rfl
  | (x, vs) :: r, acc, nd, ok => by
    have hx := (ok (x, vs) (.head _)).2.2
    have ht : textsOf (fullOf ((x, vs) :: r)) = (keepV vs).map (textR x) ++ textsOf (fullOf r) := rfl
    have hl : lastsOf (fullOf ((x, vs) :: r)) = (((keepV vs).getLast?.map fun v => (x, lawOff v)).toList) ++ lastsOf (fullOf r) := by
      unfold lastsOf fullOf
      rw [List.map_cons, List.filterMap_cons]
      dsimp only
      cases (keepV vs).getLast? <;> rfl
    have hn : x ∉ acc.map Prod.fst := by
      intro m
      rw [List.nodup_append] at nd
      exact nd.2.2 x m x (by simp) rfl
    have hk : ∀ w ∈ keepV vs, w.length ≠ 0 := fun w hw => by
      have := (List.mem_filter.mp hw).2
      simpa using this
    rw [ht, hl]
    cases hws : keepV vs with
    | nil =>
      refine keqv_full r acc ?_ fun p hp => ok p (List.mem_cons_of_mem _ hp)
      rw [List.map_cons, List.nodup_append, List.nodup_cons] at nd
      rw [List.nodup_append]
      exact ⟨nd.1, nd.2.1.2, fun a ha b hb => nd.2.2 a ha b (List.mem_cons_of_mem _ hb)⟩
    | cons w ws =>
      rw [hws] at hk
      show keqvRun (textR x w :: (ws.map (textR x) ++ textsOf (fullOf r))) acc = _
      rw [keqv_text hx (hk w (.head _)), putS_new hn, keqv_same hx hn _ ws _ fun z hz => hk z (List.mem_cons_of_mem _ hz)]
      rw [keqv_full r _ (by rw [List.map_append, List.append_assoc]; exact nd) fun p hp => ok p (List.mem_cons_of_mem _ hp)]
      rw [List.getLast?_cons, List.append_assoc]
      cases ws.getLast? <;> rfl
end Mine
end
section
open PySem PySem.W PySem.Calls
open Builtin Builtin.Str
namespace Mine
noncomputable def escL (l : List Nat) : List Nat := subC 34 [92, 34] (subC 92 [92, 92] l)
theorem esc_tl (x : Str) : (esc x).cps.toList = escL x.cps.toList := by
  unfold esc escL
  have h1 := replace_sub (Txt.replace x (Str.ofString "\\") (Str.ofString "\\\\")) (Str.ofString "\\\"") 34
  have h2 := replace_sub x (Str.ofString "\\\\") 92
  have e1 : (⟨#[92]⟩ : Str) = Str.ofString "\\" := by rfl
  have e2 : (⟨#[34]⟩ : Str) = Str.ofString "\"" := by rfl
  rw [e1] at h2
  rw [e2] at h1
  rw [h1, h2]; rfl
theorem escL_cons (d : Nat) (r : List Nat) : escL (d :: r) = (if d = 92 then [92, 92] else if d = 34 then [92, 34] else [d]) ++ escL r := by
  unfold escL
  by_cases h : d = 92
  · subst h; rfl
  · by_cases h2 : d = 34
    · subst h2; rfl
    · rw [if_neg h, if_neg h2]
      unfold subC
      rw [List.flatMap_cons, if_neg h, List.flatMap_append, List.flatMap_cons, if_neg h2]; rfl
theorem run_esc : ∀ (l : List Nat) (res : List Str) (p : Str), (escL l).foldl stepH (res, p, false, true) = (res, p ++ mkS l, false, true)
  | [], res, p => by rw [mk_nil, app_nil]; rfl
  | d :: r, res, p => by
    rw [escL_cons, List.foldl_append]
    have e : (if d = 92 then [92, 92] else if d = 34 then [92, 34] else [d]).foldl stepH (res, p, false, true) = (res, p ++ one d, false, true) := by
      by_cases h : d = 92
      · subst h; rfl
      · by_cases h2 : d = 34
        · subst h2; rfl
        · rw [if_neg h, if_neg h2]
          simp [stepH, h, h2]
    rw [e, run_esc r, app_ass, one_mk]
noncomputable def rawQ (k : Nat) (x : Str) : Str := ((decS k ++ Str.ofString "=") ++ ((qt ++ x) ++ qt))
noncomputable def digit (c : Nat) : Bool := decide (48 ≤ c) && decide (c ≤ 57)
theorem decs : ∀ k ∈ List.range 100, (decS k).cps.toList ≠ [] ∧ ∀ c ∈ (decS k).cps.toList, digit c = true := by decide +kernel
theorem decs_inj : ((List.range 100).map decS).Nodup := by decide +kernel
theorem dec_ne {k : Nat} (h : k < 100) : (decS k).cps.toList ≠ [] := (decs k (List.mem_range.mpr h)).1
theorem dec_dig {k : Nat} (h : k < 100) {c : Nat} (hc : c ∈ (decS k).cps.toList) : 48 ≤ c ∧ c ≤ 57 := by
  have := (decs k (List.mem_range.mpr h)).2 c hc
  simpa [digit] using this
theorem dec_inj {j k : Nat} (hj : j < k) (hk : k < 100) : decS j ≠ decS k := by
  have := decs_inj
  rw [List.nodup_iff_pairwise_ne, List.pairwise_iff_getElem] at this
  have h := this j k (by simpa using Nat.lt_trans hj hk) (by simpa using hk) hj
  simpa using h
theorem run_row {k : Nat} (hk : k < 100) (x : Str) (res : List Str) : (rowQ k x).cps.toList.foldl stepH (res, Str.ofString "", false, false) = (res, rawQ k x, false, false) := by
  unfold rowQ
  have e : (Str.ofString "=\"").cps.toList = [61, 34] := rfl
  have e2 : (Str.ofString "\"").cps.toList = [34] := rfl
  rw [tl_app, tl_app, tl_app, e, e2, List.foldl_append, List.foldl_append, List.foldl_append, esc_tl]
  have h1 := run_plain (decS k).cps.toList res (Str.ofString "") (fun m => by have := dec_dig hk m; omega) (fun m => by have := dec_dig hk m; omega)
  rw [mk_tl, nil_app] at h1
  rw [h1]
  have h2 : [61, 34].foldl stepH (res, decS k, false, false) = (res, (decS k ++ Str.ofString "=") ++ qt, false, true) := rfl
  rw [h2, run_esc]
  unfold mkS
  rw [mk_tl]
  show (res, (((decS k ++ Str.ofString "=") ++ qt) ++ x) ++ qt, false, false) = _
  unfold rawQ
  simp only [app_ass]
theorem run_rowsQ : ∀ (ts : List Str) (i : Nat) (res : List Str), ts ≠ [] → i + ts.length ≤ 100 →
    ∃ res' p', (Str.join (Str.ofString ",") ((ts.zipIdx i).map fun p => rowQ p.2 p.1)).cps.toList.foldl stepH (res, Str.ofString "", false, false) = (res', p', false, false) ∧ p'.length ≠ 0 ∧
      res' ++ [p'] = res ++ (ts.zipIdx i).map fun p => rawQ p.2 p.1
  | [], _, _, h, _ => absurd rfl h
  | [a], i, res, _, hi => by
    have hi' : i < 100 := by simp at hi; omega
    refine ⟨res, rawQ i a, run_row hi' a res, ?_, rfl⟩
    unfold rawQ
    rw [len_append, len_append]
    have : (Str.ofString "=").length = 1 := rfl
    omega
  | a :: b :: r, i, res, _, hi => by
    have hi' : i < 100 := by simp at hi; omega
    obtain ⟨res', p', e1, hp, e2⟩ := run_rowsQ (b :: r) (i + 1) (res ++ [rawQ i a]) (by simp) (by simp at hi ⊢; omega)
    refine ⟨res', p', ?_, hp, ?_⟩
    · have e : Str.join (Str.ofString ",") (((a :: b :: r).zipIdx i).map fun p => rowQ p.2 p.1) = rowQ i a ++ Str.ofString "," ++ Str.join (Str.ofString ",") (((b :: r).zipIdx (i + 1)).map fun p => rowQ p.2 p.1) := rfl
      rw [e, tl_app, tl_app, List.foldl_append, List.foldl_append, run_row hi']
      exact e1
    · rw [e2, List.append_assoc]; rfl
theorem head_app {a b : List Nat} {c : Nat} (h : a ≠ []) (hc : (a ++ b).head? = some c) : c ∈ a := by
  cases a with
  | nil => exact absurd rfl h
  | cons d r => simp at hc; subst hc; exact .head _
theorem digit_space : ∀ c ∈ List.range 58, 48 ≤ c → Unicode.isSpace c = false := by decide +kernel
theorem quote_space : Unicode.isSpace 34 = false := by decide +kernel
theorem raw_strip {k : Nat} (hk : k < 100) (x : Str) : Txt.strip (rawQ k x) = rawQ k x := by
  apply strip_firm
  unfold rawQ
  rw [tl_app, tl_app, tl_app, tl_app]
  constructor
  · intro c hc
    rw [List.append_assoc] at hc
    have hm := head_app (dec_ne hk) hc
    obtain ⟨h1, h2⟩ := dec_dig hk hm
    exact digit_space c (List.mem_range.mpr (by omega)) h1
  · intro c hc
    have e : qt.cps.toList = [34] := rfl
    rw [e] at hc
    rw [← List.append_assoc, List.getLast?_concat] at hc
    cases hc; exact quote_space
theorem http_jn {ts : List Str} (hn : ts.length ≤ 100) : httpOf (jnQ ts) = ts.zipIdx.map fun p => rawQ p.2 p.1 := by
  have hs : ∀ y ∈ ts.zipIdx.map (fun p => rawQ p.2 p.1), Txt.strip y = y := by
    intro y hy
    obtain ⟨p, hp, rfl⟩ := List.mem_map.mp hy
    refine raw_strip ?_ _
    have := (List.mem_zipIdx' hp).1
    omega
  have hm : (ts.zipIdx.map fun p => rawQ p.2 p.1).map Txt.strip = ts.zipIdx.map fun p => rawQ p.2 p.1 := by
    conv => rhs; rw [← List.map_id (ts.zipIdx.map fun p => rawQ p.2 p.1)]
    exact List.map_congr_left hs
  cases ts with
  | nil => rfl
  | cons a r =>
    obtain ⟨res, p, e, hp, e2⟩ := run_rowsQ (a :: r) 0 [] (by simp) (by omega)
    rw [List.nil_append] at e2
    have e3 : runH (jnQ (a :: r)).cps.toList = (res, p, false, false) := e
    unfold httpOf
    rw [e3]
    dsimp only
    rw [if_neg hp, e2, hm]
theorem keqv_quoted (x : Str) : keqvV ((qt ++ x) ++ qt) = x := by
  have ht : ((qt ++ x) ++ qt).cps.toList = 34 :: (x.cps.toList ++ [34]) := by rw [tl_app, tl_app]; rfl
  generalize hv : (qt ++ x) ++ qt = v at ht
  have hlen : v.length = x.length + 2 := by
    have := congrArg List.length ht
    simp only [Array.length_toList, List.length_cons, List.length_append, List.length_nil] at this
    show v.cps.size = x.cps.size + 2
    omega
  have i0 : Txt.item v 0 = qt := by
    unfold Txt.item Txt.charAt
    have hn : v.cps[(0 : Int).toNat]? = some 34 := by
      rw [← Array.getElem?_toList, ht]; rfl
    rw [StrLaws.at_nonneg (by decide) hn]; rfl
  have i1 : Txt.item v (-1) = qt := by
    unfold Txt.item Txt.charAt
    have e : ((-1 : Int) + (v.length : Int)).toNat = x.cps.toList.length + 1 := by
      simp only [Array.length_toList]; have : x.length = x.cps.size := rfl; omega
    have hn : v.cps[((-1 : Int) + (v.length : Int)).toNat]? = some 34 := by
      rw [← Array.getElem?_toList, ht, e, List.getElem?_cons_succ, List.getElem?_append_right (Nat.le_refl _), Nat.sub_self]; rfl
    rw [StrLaws.at_neg (by decide) (by omega) hn]; rfl
  unfold keqvV
  rw [i0, i1]
  rw [if_pos (by decide)]
  show StrLaws.sliceText v (some 1) (some (-1)) = x
  rw [StrLaws.sliceText_neg_hi v _ (by decide) (by omega), StrLaws.sliceText_plain ⟨by decide, by omega, by simp only [Array.length_toList]; have : v.length = v.cps.size := rfl; omega⟩]
  apply ls_ext
  show (v.cps.toList.drop 1).take _ = _
  rw [ht]
  have e : ((-1 : Int) + (v.length : Int) - 1).toNat = x.cps.toList.length := by simp only [Array.length_toList]; have : x.length = x.cps.size := rfl; omega
  rw [e, List.drop_succ_cons, List.drop_zero, List.take_left' rfl]
theorem keqv_num : ∀ (ts : List Str) (i : Nat) (acc : List (Str × Str)), i + ts.length ≤ 100 → (∀ p ∈ acc, ∃ j, j < i ∧ p.1 = decS j) →
    keqvRun ((ts.zipIdx i).map fun p => rawQ p.2 p.1) acc = .ok (acc ++ (ts.zipIdx i).map fun p => (decS p.2, p.1))
  | [], _, acc, _, _ => by rw [show (([] : List Str).zipIdx _).map (fun p => (decS p.2, p.1)) = [] from rfl, List.append_nil]; rfl
  | a :: r, i, acc, hi, hacc => by
    have hi' : i < 100 := by simp at hi; omega
    have h61 : 61 ∉ (decS i).cps.toList := fun m => by have := dec_dig hi' m; omega
    have hc : cutEq (rawQ i a) = some (decS i, (qt ++ a) ++ qt) := cut_app h61
    have hl : ((qt ++ a) ++ qt).length ≠ 0 := by
      rw [len_append]
      have : qt.length = 1 := rfl
      omega
    rw [List.zipIdx_cons, List.map_cons, List.map_cons]
    dsimp only
    unfold keqvRun
    rw [hc]
    dsimp only
    rw [if_neg hl, keqv_quoted]
    have hn : decS i ∉ acc.map Prod.fst := by
      intro m
      obtain ⟨p, hp, e⟩ := List.mem_map.mp m
      obtain ⟨j, hj, e2⟩ := hacc p hp
      exact dec_inj hj hi' (e2.symm.trans e)
    rw [putS_new hn]
    rw [keqv_num r (i + 1) _ (by simp at hi; omega) fun p hp => ?_]
    · rw [List.append_assoc]; rfl
    · rcases List.mem_append.mp hp with hp | hp
      · obtain ⟨j, hj, e⟩ := hacc p hp; exact ⟨j, by omega, e⟩
      · rw [List.mem_singleton.mp hp]; exact ⟨i, by omega, rfl⟩
theorem txt_ok {ts : List Str} (hn : ts.length ≤ 100) (hs : ∀ x ∈ ts, x.length ≤ 500) (he : ∀ x ∈ ts, cutEq x ≠ none) : TxtOk ts := by
  refine ⟨hn, fun x hx => Nat.le_trans (hs x hx) (by decide), ?_, fun y hy => ?_, ?_, he⟩
  · rw [http_jn hn]; simp; omega
  · rw [http_jn hn] at hy
    obtain ⟨p, hp, rfl⟩ := List.mem_map.mp hy
    obtain ⟨h1, h2⟩ := List.mem_zipIdx' hp
    have h3 : p.1.length ≤ 500 := hs _ (h2 ▸ List.getElem_mem _)
    have h4 := decS_len p.2
    unfold rawQ
    rw [len_append, len_append, len_append, len_append]
    have e1 : (Str.ofString "=").length = 1 := rfl
    have e2 : qt.length = 1 := rfl
    omega
  · rw [http_jn hn]
    exact keqv_num ts 0 [] (by omega) fun p hp => (nomatch hp)
end Mine
end
section
open PySem PySem.W PySem.Calls PyProof.Rows
open Sem (wp)
namespace Mine
noncomputable abbrev callerC : Code := .builtin "claim.caller" {}
noncomputable abbrev AtCaller : Ctx → Prop := fun Γ => Γ.code = callerC
theorem called_enter {Γ : Ctx} {c : Code} {hd : Option Value} {p : Pos} (h : AtCaller Γ) : Ctx.called (Γ.enter c hd p) := ⟨(Γ.code, p), List.mem_cons_self .., by rw [h]; rfl⟩
section
variable {M : Model} {A : Around} {E : Value → Shared → Prop} {s : Shared}
theorem wpG_fromCaller {f : Value} {pos : List Value} {kw : List (Str × Value)} {Q : Value → Shared → Prop}
    (hc : codeG Ctx.called M A (.call f ⟨pos, kw⟩) (fun r s' => match r with | .ok (.ret v) => Q v s' | .ok _ => False | .error e => E e s') s) : wpG AtCaller M A (call f pos kw) Q E s := fun Γ p hΓ hP => by
  show wp M Γ (runValue _) _ _ p s
  rw [Sem.wp_runValue]
  exact hc _ p rfl (hΓ.enter _ none p (by intro x; cases x)) (called_enter hP)
end
theorem ends_caller {prog : Program} {w : World} {t : Sem PySem.Fin} {s : Shared} {R : Result → Shared → Prop} (hreg : s.asleep)
    (h : wpG AtCaller (model prog w) callerA t (fun fin s' => ∃ f, fin = .done f ∧ (R (.ok f) s' ∧ leftWithCleanup s'.gens = false)) (fun e s' => R (.error e) s' ∧ leftWithCleanup s'.gens = false) s) :
    ∃ n r s' s'', runN (denote table) prog w n s ⟨t, callerC, default, []⟩ = .halted (outcomeOf r) s' ∧
      schedN (denote table) prog w n (.single s ⟨t, callerC, default, []⟩) = .halted (outcomeOf r) s' ∧ s'.forget = s''.forget ∧ R r s'' := by
  have h' : Sem.wp (model prog w) ⟨callerC, none, none, [], none⟩ t (Sem.finPost (model prog w) ⟨callerC, none, none, [], none⟩ fun r s' => R r s' ∧ leftWithCleanup s'.gens = false) (fun e _ s' => R (.error e) s' ∧ leftWithCleanup s'.gens = false) default s := by
    refine Sem.wp_mono (model prog w) _ t (fun fin p' s' h' => ?_) (fun _ _ _ h' => h') default s (h _ default caller_in rfl)
    obtain ⟨f, rfl, hf⟩ := h'
    exact hf
  obtain ⟨n, r, s₁, s₂, hs, hn, hfo, hR⟩ := wp_halts_full (M := model prog w) (R := R) hreg h'
  exact ⟨n, r, s₂, s₁, hn, hs, hfo, hR⟩
theorem from_caller {c : ClaimW} {tree : List Value → Sem PySem.Fin} {w : World} {s : Shared} {free : Addr → Prop} {gens : Prop} {kept : Heap → Prop} (hz : s.asleep) (hgens : s.gens = #[])
    (hspec : ∀ args, c.pre args = true → WData.layableAll args = true → ∀ ord : List DictEntry → List DictEntry, (∀ l, (ord l).Perm l) →
      ∃ vs s₁, layAllW c.records (classAt s.heap) w.params ord args s = some (vs, s₁) ∧
        wpG AtCaller (model c.prog w) callerA (tree vs) (fun fin s' => ∃ f, fin = .done f ∧ (c.Ends s args vs s₁ (.ok f) s' ∧ s'.os = s.os ∧ AllBare s'.gens ∧ kept s'.heap))
          (fun e s' => c.Ends s args vs s₁ (.error e) s' ∧ s'.os = s.os ∧ AllBare s'.gens ∧ kept s'.heap) s₁) :
    c.CallFrom (fun vs => ⟨tree vs, callerC, default, []⟩) w free gens kept s := by
  intro args hpre hlay ord hord
  refine Classical.byContradiction fun hn => ?_
  obtain ⟨vs, s₁, hlaid, hcode⟩ := hspec args hpre hlay ord hord
  have hal := layAllW_rest _ _ _ hlaid
  obtain ⟨k, r, s', s'', hrun, hsched, hfo, hcase, hos, hkp⟩ := ends_caller (prog := c.prog) (w := w) (t := tree vs) (s := s₁)
    (R := fun r s' => c.Ends s args vs s₁ r s' ∧ s'.os = s.os ∧ kept s'.heap) (Shared.asleep_of_life hal.2.2.2 hz)
    (wpG_mono hcode (fun fin s' q => by obtain ⟨f, e, h1, h2, h3, h4⟩ := q; exact ⟨f, e, ⟨h1, h2, h4⟩, leftWithCleanup_false_of_bare h3⟩)
      (fun e s' q => by obtain ⟨h1, h2, h3, h4⟩ := q; exact ⟨⟨h1, h2, h4⟩, leftWithCleanup_false_of_bare h3⟩))
  obtain ⟨eh, _, _, eo, _⟩ := Shared.forget_eq hfo
  have hcase := hcase.congr eh
  have hkp : kept s'.heap := by rw [eh]; exact hkp
  rw [← eo] at hos
  have hlife : s'.heap.life = s.heap.life := (runN_life _ _ _ hrun).trans hal.2.2.2
  refine hn ⟨vs, s₁, hlaid, k, _, s', hsched, ?_, (fun _ i x hx => by rw [hgens] at hx; simp at hx), hkp, by rw [hlife], Shared.rest_eq hos⟩
  clear hn
  refine Classical.byContradiction fun hn => ?_
  rcases hcase with ⟨v, rfl, d1, d2, d3, d4, d5⟩ | ⟨e, ob, cls, rfl, d1, d2, d3, d4, d5⟩
  · exact hn (.inl ⟨v, rfl, d1, d2, d3, fun b o y _ => d4 b o y, d5⟩)
  · exact hn (.inr ⟨e, ob, cls, rfl, d1, d2, d3, d4, fun b o y _ => d5 b o y⟩)
theorem open_caller {r : RowW} {q : Program} {loose defs kps : List Str} {writes : Bool} {Xt : Shared → Bool} {XP : (Str → Option Value) → Heap → Prop} {α : Type} {Yf : Shared → α} {Ya : World → α} {YP : World → Heap → Prop} {N : Nat}
    (left : LeftO r.prog q loose Xt Yf Ya N) (hY : ∀ w s, Yf s = Ya w → YP w s.heap) (hYk : ∀ w h h', YP w h → (∀ b o, h.get? b = some o → h'.get? b = some o) → YP w h') (hX : ∀ s, Xt s = true → XP (s.heap.nsMap mainGlobals) s.heap) (hXk : ∀ mg h h', XP mg h → (∀ b o, h.get? b = some o → h'.get? b = some o) → XP mg h')
    (hRf : ∀ s, Xt s = true → RecFacts r.records s.heap) (hwr : (!writes || r.records.isEmpty) = true) (ok : (chainsOk q && opensWell r.prog && (frees r && r.within.isEmpty)) = true) (hb : r.prog.bare) (hw : r.promised)
    (pin : ∀ w s, s.heap.isNs mainGlobals = true → Ground q loose [] XP w s (s.heap.nsMap mainGlobals) (s.heap.nsMap builtinsNs) s.heap → ∀ n ∈ defs, isTheDefsW r.prog s.heap n)
    (call : ∀ (w : World) (s₀ s₁ : Shared) (mg mb : Str → Option Value), Ground q loose r.records XP w s₀ mg mb s₁.heap → YP w s₁.heap → ∀ (args : List WData) (vs : List Value) (as : List Addr),
      r.claim.pre args = true → WData.layableAll args = true → Laid r.records w s₀ s₁ args vs as → sysModules < s₀.heap.objs.size → ∃ f, mg r.name = some f ∧
        wpG AtCaller (model r.prog w) callerA (PySem.call f vs) (fun v s' => GoodWG r.claim (classAt s₀.heap) (ExcName.means s₀.heap) args s₁ (.ok (.ret v)) s')
          (fun e s' => GoodWG r.claim (classAt s₀.heap) (ExcName.means s₀.heap) args s₁ (.error e) s') s₁) : r.claim.HoldsOpenBy (callStub r.name) defs kps writes := by
  obtain ⟨ok, k5⟩ := Bool.and_eq_true_iff.mp ok
  obtain ⟨hch, o1⟩ := Bool.and_eq_true_iff.mp ok
  obtain ⟨k5, k6⟩ := Bool.and_eq_true_iff.mp k5
  obtain ⟨hsame, hu, ha, hap, hm⟩ := frees_parts k5
  refine ⟨⟨hb, o1, by show r.makers.map _ = []; rw [hm]; rfl⟩, hw.witness, fun w => ⟨(left.behind hX hch w).1, fun s' hs' => ?_⟩⟩
  obtain ⟨s₀, hf, hg0, s, hT, hz, hgens, hg, G00, y⟩ := (left.behind (XP := fun mg h => XP mg h ∧ RecFacts r.records h) (fun s hs => ⟨hX s hs, hRf s hs⟩) hch w).2 s' hs'
  have G0 : Ground q loose [] XP w s (s.heap.nsMap mainGlobals) (s.heap.nsMap builtinsNs) s.heap := ⟨G00.T, G00.B, G00.D, G00.TE, G00.TD, G00.W, G00.X.1, G00.cls, G00.has, G00.apart, G00.once, G00.K⟩
  have RF := G00.X.2
  have hT' := hT
  refine ⟨s₀, hf, hg0, s, hT, pin w s hg G0, RF.1, RF.2.1, ?_⟩
  have hgens : s.gens = #[] := Array.eq_empty_of_size_eq_zero (beq_iff_eq.mp hgens)
  have G : Ground q loose r.records XP w s _ _ s.heap := RF.ground G0
  refine from_caller (c := r.claim) hz hgens fun args hpre hlay ord hord => ?_
  obtain ⟨⟨vs, s₁⟩, hlaid⟩ := Option.isSome_iff_exists.mp (layAllW_isSome (P := w.params) (ord := ord) G.has args r.args s (pre_splitW hpre).1)
  have keeps := layAllW_keeps _ _ _ hlaid
  have hal := layAllW_rest _ _ _ hlaid
  obtain ⟨as, hrd, hin, hold⟩ := reads_layAllW hord _ _ _ hlaid hlay s₁.heap (fun _ _ e => e)
  have L : Laid r.records w s s₁ args vs as := ⟨⟨ord, hord, hlaid⟩, hrd, hin, hold, keeps, hal.1.trans hgens, hal.2.2.1⟩
  have G₁ := G.keeps hXk keeps
  obtain ⟨f, hf, h⟩ := call w s s₁ _ _ G₁ (hYk _ _ _ (hY w s y) keeps) args vs as hpre hlay L G.low
  have hi := ident_freeW hu ha hap
  have hwi : r.claim.within = [] := List.isEmpty_iff.mp k6
  refine ⟨vs, s₁, hlaid, wpG_bind (wpAny.g (wpAny_nsGet G₁.T.g ?_))⟩
  rw [hf]
  refine wpG_bind (wpG_mono h (fun v s' g => ?_) fun e s' g => ?_)
  · have z := g.laid (c := r.claim) hsame hwi hi L
    exact wpG_pure ⟨_, rfl, z.1, z.2.1, z.2.2, fun q => ⟨namesKept_of hT' hg kps keeps g.2.1.old, noTable hwr q⟩⟩
  · have z := g.laid (c := r.claim) hsame hwi hi L
    exact ⟨z.1, z.2.1, z.2.2, fun q => ⟨namesKept_of hT' hg kps keeps g.2.1.old, noTable hwr q⟩⟩
theorem ns_some_of {K : Frag} {h : Heap} {N : Addr} {mg : Str → Option Value} {n : Str} {v : Value} (X : K.In h) (G : h.Ns N mg) (e : nsIn K N n = some (some v)) : mg n = some v := by
  obtain ⟨o, es, ep, ho, hd, _, hf⟩ := G
  unfold nsIn at e
  split at e
  · rename_i c d es' n' sl q
    have := X _ _ q
    rw [ho] at this
    cases this
    cases hd
    split at e
    · rename_i en he
      cases e
      rw [← hf]
      unfold nsFind findBy
      rw [← Array.find?_toList, he]
      rfl
    · split at e <;> cases e
  · cases e
theorem ns_hide {h : Heap} {a : Addr} {m : Str → Option Value} {l : List Addr} (n : h.Ns a m) (ha : a ∉ l) : (hideAll h l).Ns a m := let ⟨o, es, ep, e, r⟩ := n; ⟨o, es, ep, hideAll_get _ e ha, r⟩
theorem k_hide {P : Params} {h : Heap} {l : List Addr} (X : (K0 P).In h) (hl : ∀ a ∈ l, (K0 P).lookup a = none) : (K0 P).In (hideAll h l) := fun a o e => hideAll_get _ (X a o e) fun q => by rw [hl a q] at e; cases e
theorem g_all (P : Params) : ∀ p ∈ gtab, nsIn (K0 P) 3 p.1 = some (some p.2) := by
  intro p hp
  simp only [gtab, List.mem_cons, List.not_mem_nil, or_false] at hp
  rcases hp with rfl | rfl | rfl | rfl | rfl | rfl | rfl | rfl | rfl | rfl | rfl | rfl | rfl | rfl <;> kernel_rfl
theorem b_none (P : Params) : ∀ p ∈ btab, nsIn (K0 P) 3 p.1 = some none := by
  intro p hp
  simp only [btab, List.mem_cons, List.not_mem_nil, or_false] at hp
  rcases hp with rfl | rfl | rfl | rfl | rfl | rfl | rfl | rfl | rfl | rfl | rfl | rfl | rfl <;> kernel_rfl
theorem b_boot : ∀ p ∈ btab, bootBuiltins p.1 = some p.2 ∧ p.1 ≠ Str.ofString "__name__" := by
  intro p hp
  simp only [btab, List.mem_cons, List.not_mem_nil, or_false] at hp
  rcases hp with rfl | rfl | rfl | rfl | rfl | rfl | rfl | rfl | rfl | rfl | rfl | rfl | rfl <;> exact ⟨by kernel_rfl, by decide⟩
theorem f_all (P : Params) : ∀ p ∈ ftab, (K0 P).lookup p.1 = some (fnObj (lawFd p.2.1 p.2.2)) := by
  intro p hp
  simp only [ftab, List.mem_cons, List.not_mem_nil, or_false] at hp
  rcases hp with rfl | rfl | rfl | rfl | rfl | rfl | rfl | rfl | rfl | rfl <;> kernel_rfl
noncomputable def codeNamed (K : Frag) (c : Addr) (q : Str) : Bool := match K.lookup c with
  | some ⟨_, _, .fields vs, _⟩ => (match (vs[1]? : Option Value) with | some (.str x _) => x == q | _ => false)
  | _ => false
theorem code_of {K : Frag} {h : Heap} {c : Addr} {q : Str} (X : K.In h) (e : codeNamed K c q = true) : h.CodeRec (.ref c) q := by
  unfold codeNamed at e
  split at e
  · rename_i a b vs d hl
    split at e
    · rename_i x t hx
      rw [beq_iff_eq] at e
      subst e
      exact ⟨c, _, vs, t, rfl, X _ _ hl, rfl, hx⟩
    · cases e
  · cases e
theorem c_all (P : Params) : ∀ p ∈ ftab, codeNamed (K0 P) p.2.2 (dName (stmtAt p.2.1)) = true := by
  intro p hp
  simp only [ftab, List.mem_cons, List.not_mem_nil, or_false] at hp
  rcases hp with rfl | rfl | rfl | rfl | rfl | rfl | rfl | rfl | rfl | rfl <;> kernel_rfl
theorem c_212 (P : Params) : codeNamed (K0 P) 212 (dName (stmtAt 8)) = true := by kernel_rfl
theorem c_217 (P : Params) : codeNamed (K0 P) 217 (dName (stmtAt 9)) = true := by kernel_rfl
noncomputable def docOf : Option Obj → Tok × Str × Tok
  | some ⟨_, _, .func fd, _⟩ => (match fd.doc, fd.pyModule with | .str d t, .str _ mt => (t, d, mt) | _, _ => (0, Str.ofString "", 0))
  | _ => (0, Str.ofString "", 0)
theorem k_213 {P : Params} {h : Heap} (X : (K0 P).In h) : ∃ t d mt, h.get? 213 = some (fnObj (keqvFd t d mt)) := ⟨(docOf ((K0 P).lookup 213)).1, (docOf ((K0 P).lookup 213)).2.1, (docOf ((K0 P).lookup 213)).2.2, X _ _ (by kernel_rfl)⟩
theorem k_218 {P : Params} {h : Heap} (X : (K0 P).In h) : ∃ t d mt, h.get? 218 = some (fnObj (httpFd t d mt)) := ⟨(docOf ((K0 P).lookup 218)).1, (docOf ((K0 P).lookup 218)).2.1, (docOf ((K0 P).lookup 218)).2.2, X _ _ (by kernel_rfl)⟩
theorem k_tabs (P : Params) : ∀ a ∈ [235, 100], (K0 P).lookup a = none := by
  intro a ha
  simp only [List.mem_cons, List.not_mem_nil, or_false] at ha
  rcases ha with rfl | rfl <;> kernel_rfl
theorem top1_of {P : Params} {loose' : List Str} {mean : ExcName → Option Value} {mg mb : Str → Option Value} {h : Heap} (X : (K0 P).In h) (T : Top q loose' mean mg mb h) (e1 : h.get? 100 = some (tabObj #[])) (e2 : h.get? 235 = some (tabObj #[])) : Top1 P (hideAll h [235, 100]) := by
  have X' := k_hide X (k_tabs P)
  have g' := ns_hide (l := [235, 100]) T.g (by decide)
  have b' := ns_hide (l := [235, 100]) T.b (by decide)
  refine ⟨⟨?_, ⟨mg, mb, g', b', fun p hp => ns_some_of X' g' (g_all P p hp), fun p hp => ⟨ns_none_of X' g' (b_none P p hp), ?_⟩⟩, fun p hp => ⟨X' _ _ (f_all P p hp), code_of X' (c_all P p hp)⟩, ⟨k_213 X', code_of X' (c_212 P)⟩, ⟨k_218 X', code_of X' (c_217 P)⟩⟩, X', mg, g', ?_⟩
  · obtain ⟨mc, e, r⟩ := T.nolimit
    exact ⟨mc, ns_hide e (by decide), r⟩
  · obtain ⟨e1, e2⟩ := b_boot p hp
    rw [T.builtins p.1 e2, e1]
  · obtain ⟨bm, ob, b1, b2, b3, b4, b5, b6⟩ := T.bmain
    have n100 : bm ≠ 100 := fun q => by rw [q, e1] at b3; cases b3; cases b4
    have n235 : bm ≠ 235 := fun q => by rw [q, e2] at b3; cases b3; cases b4
    have n3 : bm ≠ mainGlobals := fun q => by
      obtain ⟨o, es, ep, e, hd, _⟩ := T.g
      rw [q, e] at b3; cases b3; rw [hd] at b6; cases b6
    have gb : (hideAll h [235, 100]).get? bm = some ob := hideAll_get _ b3 (by simp only [List.mem_cons, List.not_mem_nil, or_false, not_or]; exact ⟨n235, n100⟩)
    exact ⟨⟨bm, ob, b1, b2, n3, n100, gb, b4, b5, b6⟩, ⟨bm, ob, b1, b2, n3, n235, gb, b4, b5, b6⟩⟩
theorem codeTab_of {K : Frag} {h : Heap} {c Pl : Addr} (X : K.In h) (e : codeHdIn K c Pl = true) : isCodeTable h Pl := by
  obtain ⟨o, vs, _, _, _, _, _, _, _, h1, h2, h3, h4, _⟩ := codeHd_of_K X e
  exact ⟨c, o, vs, h1, h2, h3, h4⟩
theorem tab_was {h : Heap} {Pl : Addr} {o : Obj} {pos : Pos} {t : Option Addr} (e : h.get? Pl = some o) (c : tabC pos t o) : ∃ more : Array Value, h.get? Pl = some { tabObj #[] with data := .fields (#[] ++ more) } := by
  have c' : o = _ := c
  subst c'
  exact ⟨_, by rw [e, Array.empty_append]⟩
theorem caller_ok : AOk 14 callerA := ⟨by decide, by decide, rfl⟩
theorem law_code {w : World} {s₁ : Shared} {fa a : Addr} {o : Obj} {l : List (Int × Tok)} {pm cd doc : Value} {ns : List Int} (X : (K0 w.params).In s₁.heap) (e1 : s₁.heap.get? 100 = some (tabObj #[])) (e2 : s₁.heap.get? 235 = some (tabObj #[]))
    (T : Top1 w.params (hideAll s₁.heap [235, 100])) (ho : s₁.heap.get? fa = some o) (hd : o.data = .func { docDef (dName (stmtAt 21)) (dArgs (stmtAt 21)) (dBody (stmtAt 21)) (dScope (stmtAt 21)) pm cd doc with defaults := .none, kwdefaults := .none })
    (hcd : s₁.heap.CodeRec cd (dName (stmtAt 21))) (ha : s₁.heap.IsList a (intVals l).toArray) (hoa : l.map (·.1) = ns) (hn : ns.length ≤ 1000) (ok : LawOk ns) :
    codeG Ctx.called (model PW w) callerA (.call (.ref fa) ⟨[.ref a], []⟩) (fun r s' => r = .ok (.ret (.bool true)) ∧ ∃ h' k', s' = Sh s₁ h' k' ∧ OldK s₁.heap h') s₁ := by
  have Th := T.keeps (kp_hideAll s₁.heap [235, 100])
  refine codeG_call_def deep_called (s := s₁) (fd := { docDef (dName (stmtAt 21)) (dArgs (stmtAt 21)) (dBody (stmtAt 21)) (dScope (stmtAt 21)) pm cd doc with defaults := .none, kwdefaults := .none }) (body := dBody (stmtAt 21)) (binds := [(("script" : Str), .ref a)]) (by decide) ho hd Th.top.nolimit hcd rfl (by with_unfolding_all rfl)
    (show ∀ x ∈ (dScope (stmtAt 21)).names, x.2 ≠ .cell from by decide) (PyProof.Rows.locs (by rfl)) (fun h₀ hns hkp => ?_) rfl rfl rfl
  have S₀ : St s₁.heap (callEnv { docDef (dName (stmtAt 21)) (dArgs (stmtAt 21)) (dBody (stmtAt 21)) (dScope (stmtAt 21)) pm cd doc with defaults := .none, kwdefaults := .none } s₁.heap.objs.size fa).locals (fun x => [(("script" : Str), Value.ref a)].reverse.lookup x) [] h₀ :=
    ⟨hns, hkp, get_none_of_ge (Nat.le_refl _), fun p hp => (nomatch hp), List.nodup_nil⟩
  have own : ∀ p ∈ LU none none, ∃ o, s₁.heap.get? p.1 = some o ∧ p.2 o := fun p hp => by
    simp only [LU, List.mem_cons, List.not_mem_nil, or_false] at hp
    rcases hp with rfl | rfl
    · exact ⟨_, e2, rfl⟩
    · exact ⟨_, e1, rfl⟩
  have S₁ := S₀.lendN (LU none none) own (by decide)
  have haB : (hideAll s₁.heap [235, 100]).IsList a (intVals l).toArray := by
    obtain ⟨oa, ha, hc, r⟩ := ha
    refine ⟨oa, hideAll_get _ ha fun q => ?_, hc, r⟩
    simp only [List.mem_cons, List.not_mem_nil, or_false] at q
    rcases q with rfl | rfl
    · rw [e2] at ha; cases ha; cases hc
    · rw [e1] at ha; cases ha; cases hc
  obtain ⟨key⟩ := law_body (Pm := w.params) (w := w) (s₀ := s₁) (k := s₁.toks + 1) (A := callerA.deeper (callEnv { docDef (dName (stmtAt 21)) (dArgs (stmtAt 21)) (dBody (stmtAt 21)) (dScope (stmtAt 21)) pm cd doc with defaults := .none, kwdefaults := .none } s₁.heap.objs.size fa))
    (Q := fun f s' => (Except.ok (Flow.ret (match f with | .ret v => v | _ => .none)) : Result) = .ok (.ret (.bool true)) ∧ ∃ h' k', s' = Sh s₁ h' k' ∧ OldK s₁.heap h')
    (E := fun e s' => wpAny (model PW w) (callerA.deeper (callEnv { docDef (dName (stmtAt 21)) (dArgs (stmtAt 21)) (dBody (stmtAt 21)) (dScope (stmtAt 21)) pm cd doc with defaults := .none, kwdefaults := .none } s₁.heap.objs.size fa)) (leaving (callEnv { docDef (dName (stmtAt 21)) (dArgs (stmtAt 21)) (dBody (stmtAt 21)) (dScope (stmtAt 21)) pm cd doc with defaults := .none, kwdefaults := .none } s₁.heap.objs.size fa) e)
      (fun _ s'' => (Except.error e : Result) = .ok (.ret (.bool true)) ∧ ∃ h' k', s'' = Sh s₁ h' k' ∧ OldK s₁.heap h') (fun e' s'' => (Except.error e' : Result) = .ok (.ret (.bool true)) ∧ ∃ h' k', s'' = Sh s₁ h' k' ∧ OldK s₁.heap h') s')
    deep_called ok (fun _ h => h) T caller_ok.deeper ⟨rfl, rfl, rfl⟩ rfl (Around.frames_deeper rfl) S₁ trivial trivial rfl haB hoa hn
    (by intro x hx; simp only [List.map_cons, List.map_nil, List.mem_cons, List.not_mem_nil, or_false] at hx; rcases hx with rfl | rfl | rfl | rfl | rfl | rfl | rfl | rfl | rfl | rfl | rfl <;> rfl)
    (by intro x hx; simp only [List.map_cons, List.map_nil, List.mem_cons, List.not_mem_nil, or_false] at hx; rcases hx with rfl | rfl | rfl | rfl | rfl | rfl | rfl | rfl <;> rfl)
    rfl rfl rfl rfl fun B' h' k' t1' t2' m' kB S' => by
      refine ⟨rfl, h', k', rfl, ?_⟩
      have both : ∀ b o, s₁.heap.get? b = some o → asItWas s₁.heap h' b o ∧ ∃ o', h'.get? b = some o' := fun b o e => by
        by_cases hb : b ∈ [235, 100]
        · simp only [List.mem_cons, List.not_mem_nil, or_false] at hb
          rcases hb with rfl | rfl
          · obtain ⟨o', e', c⟩ := S'.get (a := 235) (c := tabC (dPos facS) t1') (.head _)
            rw [e2] at e; cases e
            obtain ⟨more, hm⟩ := tab_was e' c
            exact ⟨.inr (.inl ⟨codeTab_of X hd_237, rfl, #[], more, rfl, hm⟩), o', e'⟩
          · obtain ⟨o', e', c⟩ := S'.get (a := 100) (c := tabC (lPos lamE) t2') (.tail _ (.head _))
            rw [e1] at e; cases e
            obtain ⟨more, hm⟩ := tab_was e' c
            exact ⟨.inr (.inl ⟨codeTab_of X hd_104, rfl, #[], more, rfl, hm⟩), o', e'⟩
        · have := S'.keep _ _ (kB _ _ (hideAll_get _ e hb))
          exact ⟨.inl this, o, this⟩
      exact ⟨fun b o e => (both b o e).1, fun b o e => (both b o e).2⟩
  exact key
noncomputable abbrev lw : OpenLaw := PySem.Challenge.rw_in0188_01
theorem said : lw.wellSaid = true := by kernel_rfl
theorem bare_ : lw.row.toRowW.prog.bare := ⟨rfl, rfl, rfl, rfl, rfl, by decide +kernel⟩
theorem looks_ok : (chainsOk q && opensWell lw.row.toRowW.prog && (frees lw.row.toRowW && lw.row.toRowW.within.isEmpty)) = true := by kernel_rfl
theorem prom : lw.row.toRowW.promised := ⟨[.list [.int 0]], by decide +kernel, by decide +kernel⟩
theorem law_def : ∃ d, defOf q (Str.ofString "law") = some (d, []) ∧ d.name = dName (stmtAt 21) ∧ d.params = dArgs (stmtAt 21) ∧ d.body = dBody (stmtAt 21) ∧ d.scope = dScope (stmtAt 21) := by
  have h : (defOf q (Str.ofString "law")).map (fun p => (p.2, p.1.name, p.1.params, p.1.body, p.1.scope)) = some ([], dName (stmtAt 21), dArgs (stmtAt 21), dBody (stmtAt 21), dScope (stmtAt 21)) := by kernel_rfl
  obtain ⟨⟨d, l⟩, e, g⟩ := Option.map_eq_some_iff.mp h
  simp only [Prod.mk.injEq] at g
  obtain ⟨g1, g2⟩ := g
  exact ⟨d, g1 ▸ e, g2⟩
theorem law_the : lw.row.toRowW.prog.theDef (Str.ofString "law") = some (dArgs (stmtAt 21), dBody (stmtAt 21), dScope (stmtAt 21)) := by rfl
theorem args_of {args : List WData} (h : WShape.hasAll [] args [.list .int] = true) : ∃ xs, args = [.list xs] ∧ WShape.hasItems [] xs .int = true := by
  obtain ⟨d, r, rfl, h1, h2⟩ := hasAllW_cons h
  cases r with
  | cons a b => exact (Bool.false_ne_true h2).elim
  | nil =>
    cases d with
    | list xs => exact ⟨xs, rfl, (Bool.or_false _).symm.trans h1⟩
    | _ => exact (Bool.false_ne_true h1).elim
theorem int_of {cl : Str → Option Addr} {h : Heap} {v : Value} {x : WData} {as : List Addr} (hx : WShape.has [] x .int = true) (r : ReadsW [] cl h v x as) : ∃ i t, v = .int i t := by
  cases r with
  | int i t => exact ⟨i, t, rfl⟩
  | _ => exact (Bool.false_ne_true hx).elim
theorem ints_of {cl : Str → Option Addr} {h : Heap} {xs : List WData} : ∀ {vs : List Value} {as : List Addr}, WShape.hasItems [] xs .int = true → ReadsAllW [] cl h vs xs as → ∃ l, vs = intVals l ∧ l.length = xs.length := by
  induction xs with
  | nil => intro _ _ _ r; cases r; exact ⟨[], rfl, rfl⟩
  | cons x xs ih =>
    intro _ _ hx r
    have hx' := Bool.and_eq_true_iff.mp hx
    cases r with
    | cons r1 r2 =>
      obtain ⟨l, rfl, e2⟩ := ih hx'.2 r2
      obtain ⟨i, t, rfl⟩ := int_of hx'.1 r1
      exact ⟨(i, t) :: l, rfl, congrArg (· + 1) e2⟩
noncomputable def preF (o : Option Bool) : Bool := match (match (match o.map WData.bool with | some (.bool b) => some (WData.bool !b) | _ => none) with | some (.bool false) => some (WData.bool false) | some (.bool true) => some (WData.bool true) | _ => none) with | some (.bool true) => true | _ => false
theorem pre_len {xs : List WData} (h : (WTm.and (.not (.lt (.lit (.int 63)) (.len (.arg 0)))) (.lit (.bool true))).holds [] { args := [.list xs] } = true) : xs.length ≤ 63 := by
  have h : preF (less? (WData.int 63) (WData.int xs.length)) = true := h
  by_cases hl : xs.length ≤ 63
  · exact hl
  · have e : less? (WData.int 63) (WData.int xs.length) = some true := by
      simp [less?, Num.less?]
      omega
    rw [e] at h
    exact (Bool.false_ne_true h).elim
theorem post_ok (xs : List WData) : lw.row.toRowW.claim.post [.list xs] (.bool true) [.list xs] = true := by kernel_rfl
theorem laid_of {w : World} {s₀ s₁ : Shared} {args : List WData} {vs : List Value} {as : List Addr} (hpre : lw.row.toRowW.claim.pre args = true) (L : Laid [] w s₀ s₁ args vs as) :
    ∃ xs a l, args = [.list xs] ∧ vs = [.ref a] ∧ s₁.heap.IsList a (intVals l).toArray ∧ l.length ≤ 63 := by
  obtain ⟨ps, pp⟩ := pre_splitW hpre
  obtain ⟨xs, rfl, hx⟩ := args_of ps
  have hlen := pre_len pp
  have hr := L.reads
  cases hr with
  | cons r1 r2 =>
    cases r2
    cases r1 with
    | list ho hc hd hall =>
      rename_i a oa vs n as'
      obtain ⟨l, e1, e2⟩ := ints_of hx hall
      exact ⟨xs, a, l, rfl, rfl, ⟨oa, ho, hc, n, by rw [hd, ← e1, Array.toArray_toList]⟩, e2 ▸ hlen⟩
theorem holds_of (H : ∀ ns, LawOk ns) : PySem.Challenge.rw_in0188_01.Holds := by
  refine ⟨said, row_said said, prom, ?_⟩
  obtain ⟨d, hdef, d1, d2, d3, d4⟩ := law_def
  refine open_caller (r := lw.row.toRowW) (q := q) (loose := loose) (Xt := fun s => xlAt q [] s && recOk [] s) (XP := XL q []) (Yf := (kmHook K0 K0as K0_as K0ts).obs) (Ya := (kmHook K0 K0as K0_as K0ts).val) (YP := (kmHook K0 K0as K0_as K0ts).says) (N := 4800)
    left (kmHook K0 K0as K0_as K0ts).of (kmHook K0 K0as K0_as K0ts).keeps (fun s e => xl_of s (Bool.and_eq_true_iff.mp e).1) XL.keeps (fun s e => recFacts_of (Bool.and_eq_true_iff.mp e).2) (by rfl) looks_ok bare_ prom (fun w s hg G n hn => ?_) (fun w s₀ s₁ mg mb G Y args vs as hpre hlay L low => ?_)
  · have hn0 : n ∈ [Str.ofString "law"] := hn
    have hn' : n = Str.ofString "law" := List.mem_singleton.mp hn0
    subst hn'
    exact pinned_of_view hg G hdef (by rw [d2, d3, d4]; exact law_the) (by rw [d2]; rfl)
  · obtain ⟨fa, o, pm, cd, doc, dV, kV, h1, h2, h3, h4, h5⟩ := G.fn hdef
    obtain ⟨xs, a, l, rfl, rfl, hL, hlen⟩ := laid_of hpre L
    have X : (K0 w.params).In s₁.heap := km_in_of Y
    have tabs := km_tabs_of Y
    have t100 := tabs 100 (by decide)
    have t235 := tabs 235 (by decide)
    have hdV : dV = .none := by
      rcases h5.pos with ⟨_, e⟩ | ⟨e, _⟩
      · exact e
      · exact absurd (by rw [d2]; rfl) e
    have hkV : kV = .none := by
      rcases h5.kw with ⟨_, e⟩ | ⟨e, _⟩
      · exact e
      · exact absurd rfl e
    rw [d1] at h3 h4
    rw [d2, d3, d4, hdV, hkV] at h3
    refine ⟨.ref fa, h1, wpG_fromCaller (codeG_mono (law_code (ns := l.map (·.1)) X t100 t235 (top1_of X G.T t100 t235) h2 h3 h4 hL rfl (by rw [List.length_map]; omega) (H _)) fun r s' q => ?_)⟩
    obtain ⟨rfl, h', k', rfl, hold⟩ := q
    exact ⟨.inl ⟨.bool true, .bool true, [], rfl, fun _ => rfl, .bool true, post_ok xs, fun _ => ⟨List.nodup_nil, fun a ha => (nomatch ha)⟩⟩, hold, rfl, .of_eq L.gens⟩
end Mine
end
section
open PySem PySem.W PySem.Calls
namespace Mine
theorem http_len {x : Str} (h : x.length ≤ 86) : (httpOf x).length ≤ 87 ∧ ∀ y ∈ httpOf x, y.length ≤ 86 := by
  obtain ⟨a, b, c⟩ := runH_len x.cps.toList
  have hl : x.cps.toList.length ≤ 86 := by simpa [Str.length] using h
  generalize x.cps.toList.length = n at a b c hl
  have key : ∀ l : List Str, l.length ≤ 87 → (∀ y ∈ l, y.length ≤ 86) → (l.map Txt.strip).length ≤ 87 ∧ ∀ y ∈ l.map Txt.strip, y.length ≤ 86 := by
    intro l h1 h2
    refine ⟨by rw [List.length_map]; exact h1, fun y hy => ?_⟩
    obtain ⟨z, hz, rfl⟩ := List.mem_map.mp hy
    exact Nat.le_trans (strip_len z) (h2 z hz)
  unfold httpOf
  refine key _ ?_ ?_
  · split
    · omega
    · rw [List.length_append, List.length_cons, List.length_nil]; omega
  · intro y hy
    split at hy
    · exact Nat.le_trans (c y hy) hl
    · rcases List.mem_append.mp hy with hy | hy
      · exact Nat.le_trans (c y hy) hl
      · rw [List.mem_singleton.mp hy]; omega
theorem full_cnt : ∀ R : Rows, cnt (fullOf R) ≤ cnt R
  | [] => Nat.le_refl _
  | p :: r => by
    have h1 : cnt (fullOf (p :: r)) = (keepV p.2).length + cnt (fullOf r) := rfl
    have h2 : cnt (p :: r) = p.2.length + cnt r := rfl
    have := keepV_len p.2
    have := full_cnt r
    omega
theorem law_ok (ns : List Int) : LawOk ns := by
  obtain ⟨hn, hz⟩ := http_len (textOf_len ns)
  obtain ⟨e, hi, ha⟩ := res_rows (kR (shutOf ns)) (sR (shutOf ns)) (httpOf (textOf ns))
  have g := run_gr (N := 86) (kR (shutOf ns)) (httpOf (textOf ns)) 0 0 [] (GR.zero 86) hz
  rw [← e] at g
  generalize hR : rowsOf (resD (kR (shutOf ns)) (sR (shutOf ns)) (httpOf (textOf ns))).2 = R at g
  have hct : cnt R ≤ 87 := by have := g.ct; omega
  have htl : (textsOf R).length ≤ 87 := by rw [cnt_texts]; exact hct
  have mem_t : ∀ {R' : Rows}, (∀ p ∈ R', NameOk 86 p.1 ∧ ∀ v ∈ p.2, ValOk 86 v) → ∀ y ∈ textsOf R', y.length ≤ 500 ∧ cutEq y ≠ none := by
    intro R' hR' y hy
    obtain ⟨p, hp, hy⟩ := List.mem_flatMap.mp hy
    obtain ⟨v, hv, rfl⟩ := List.mem_map.mp hy
    obtain ⟨h1, h2⟩ := hR' p hp
    refine ⟨?_, ?_⟩
    · have := h1.1
      have := (h2 v hv).1
      have e1 : (Str.ofString "=").length = 1 := rfl
      rw [len_append, len_append, e1]; omega
    · rw [cut_app h1.2.2]; intro q; cases q
  have hok : ∀ p ∈ R, NameOk 86 p.1 ∧ ∀ v ∈ p.2, ValOk 86 v := fun p hp => (g.ok p hp).2
  have hokf : ∀ p ∈ fullOf R, NameOk 86 p.1 ∧ ∀ v ∈ p.2, ValOk 86 v := fun p hp => by
    obtain ⟨q, hq, rfl⟩ := List.mem_map.mp hp
    obtain ⟨h1, h2⟩ := hok q hq
    exact ⟨h1, fun v hv => h2 v ((List.mem_filter.mp hv).1)⟩
  obtain ⟨e2, hi2, _⟩ := res_rows (kR (-1)) (sR (-1)) (textsOf R)
  refine ⟨law_http _, Nat.le_trans hn (by decide), fun x hx => Nat.le_trans (hz x hx) (by decide), hi, ha, keqv_bare _ _, ?_, ?_, ?_, ?_, ?_, ?_, ?_⟩
  · rw [hR]; exact g.rowsOk (by decide) (by omega)
  · rw [hR]; exact txt_ok (by omega) (fun x hx => (mem_t hok x hx).1) fun x hx => (mem_t hok x hx).2
  · rw [hR]; exact hi2
  · rw [hR, e2]
    exact run_back R [] 0 g.nd g.ok
  · rw [hR, cnt_texts]
    have : cnt (fullOf R) ≤ cnt R := by
      exact full_cnt R
    omega
  · rw [hR]; exact fun x hx => Nat.le_trans (mem_t hokf x hx).1 (by decide)
  · rw [hR]
    have := keqv_full R [] g.nd fun p hp => (hok p hp).1
    rw [List.nil_append] at this
    exact this
theorem all_holds : PySem.Challenge.rw_in0188_01.Holds := holds_of law_ok
end Mine
end
theorem PySem.Challenge.cw_in0188_01_holds : PySem.Challenge.rw_in0188_01.Holds :=
  Mine.all_holds
