import PyProof.Rows.All
import Wide.All
import OpenK.AllK
import Wide.FinOn
import PySem.Challenge.RW_pk0057_01
open PySem PySem.W PyProof.Rows PySem.Calls
set_option Elab.async false
set_option maxRecDepth 100000
set_option maxHeartbeats 8000000
set_option rowWalk.seconds 0
namespace Mine

/-! the text's defs -/
def fnAt (i : Nat) : Stmt := (PySem.Challenge.pw_pk0057_01.main.body[i]?).getD (.Pass default)
def fbody : Stmt → List Stmt
  | .FunctionDef _ _ b _ _ _ _ _ _ _ => b
  | _ => []
def fscope : Stmt → Scope
  | .FunctionDef _ _ _ _ _ _ sc _ _ _ => sc
  | _ => default
def fparams : Stmt → Arguments
  | .FunctionDef _ a _ _ _ _ _ _ _ _ => a
  | _ => default

def forBody : Option Stmt → List Stmt
  | some (.For _ _ b _ _) => b
  | _ => []

def retExpr : Option Stmt → Expr
  | some (.Return (some e) _) => e
  | _ => .Name Str.empty default
def asgExpr : Option Stmt → Expr
  | some (.Assign _ e _) => e
  | _ => .Name Str.empty default

/-! names laid over a map -/
def ov : List (Str × Value) → (Str → Option Value) → Str → Option Value
  | [], u, y => u y
  | (x, v) :: r, u, y => if y = x then some v else ov r u y
theorem ov_self {m : Str → Option Value} : ∀ {ps : List (Str × Value)}, (∀ p ∈ ps, m p.1 = some p.2) → ov ps m = m
  | [], _ => rfl
  | (x, v) :: r, h => by
    funext y
    show (if y = x then some v else ov r m y) = m y
    rw [ov_self (ps := r) fun p hp => h p (.tail _ hp)]
    split
    · rename_i e; rw [e]; exact (h (x, v) (.head _)).symm
    · rfl

/-! the world beside the heap -/
def Gn (a b : Array GenState) : Prop := (AllBare a → AllBare b) ∧ ∀ (i : Nat) (x : GenState), a[i]? = some x → b[i]? = some x
theorem Gn.refl (a : Array GenState) : Gn a a := ⟨fun h => h, fun _ _ h => h⟩
theorem Gn.trans {a b c : Array GenState} (x : Gn a b) (y : Gn b c) : Gn a c := ⟨fun h => y.1 (x.1 h), fun i v h => y.2 i v (x.2 i v h)⟩
structure Wd (g : Bool) (s₀ s : Shared) : Prop where
  os : s.os = s₀.os
  drawn : s.drawn = s₀.drawn
  gens : if g = true then Gn s₀.gens s.gens else s.gens = s₀.gens
namespace Wd
variable {g : Bool} {s₀ s s' : Shared}
theorem refl : Wd g s₀ s₀ := ⟨rfl, rfl, by cases g; exact rfl; exact Gn.refl _⟩
theorem upd (x : Wd g s₀ s) {h : Heap} {tk : Nat} : Wd g s₀ { s with heap := h, toks := tk } := ⟨x.os, x.drawn, x.gens⟩
theorem like (x : Wd g s₀ s) (e1 : s'.os = s.os) (e2 : s'.drawn = s.drawn) (e3 : s'.gens = s.gens) : Wd g s₀ s' := ⟨e1.trans x.os, e2.trans x.drawn, by rw [e3]; exact x.gens⟩
theorem trans (x : Wd g s₀ s) (y : Wd g s s') : Wd g s₀ s' := ⟨y.os.trans x.os, y.drawn.trans x.drawn, by
  have a := x.gens; have b := y.gens
  cases g
  · exact (show s'.gens = s.gens from b).trans (show s.gens = s₀.gens from a)
  · exact Gn.trans a b⟩
theorem up (x : Wd false s₀ s) : Wd g s₀ s := ⟨x.os, x.drawn, by
  have a : s.gens = s₀.gens := x.gens
  cases g
  · exact a
  · show Gn _ _; rw [a]; exact Gn.refl _⟩
theorem keeps (x : Wd false s₀ s) (h : ∀ b o, s₀.heap.get? b = some o → s.heap.get? b = some o) : Keeps s₀ s :=
  ⟨s.heap, s.toks, by
    obtain ⟨hp, gs, d, tk, os⟩ := s
    obtain ⟨o1, o2, o3⟩ := x
    simp only [Bool.false_eq_true, if_false] at o1 o2 o3
    subst o1; subst o2; subst o3; rfl, h⟩
theorem of_keeps (x : Keeps s₀ s) : Wd g s₀ s := by
  obtain ⟨h, tk, rfl, _⟩ := x
  exact Wd.refl.upd
end Wd

section
variable {M : Model} {A : Around} {E : Value → Shared → Prop} {s s₀ : Shared} {g : Bool} {name : Str} {scope : Scope} {L a : Addr} {cd : Value} {base : Heap} {m : Str → Option Value} {news : List (Addr × Obj)}
/-- a name of the frame stored -/
theorem stW {x : Str} {v : Value} {Q : Unit → Shared → Prop} (F : Fr base L s.heap m) (N : News base L s.heap news) (X : Wd g s₀ s)
    (h : ∀ s', Fr base L s'.heap (fun y => if y = x then some v else m y) → News base L s'.heap news → Wd g s₀ s' → Q () s')
    (hk : scope.kind = .function := by rfl) (hl : (envOf name scope L a cd).kindOf x = some .local := by rfl) :
    wpAny M A (storeName (envOf name scope L a cd) x v) Q E s := stN F N (fun _ F' N' => h _ F' N' X.upd) hk hl
end

section
variable {prog : Program} {w : World} {A : Around} {E : Value → Shared → Prop} {s s₀ : Shared} {g : Bool} {L : Addr} {base : Heap} {m : Str → Option Value}
theorem appW {D : Addr} {ys : List Value} {n : Nat} {x : Value} {rest : List (Addr × Obj)} {Q : Value → Shared → Prop} (F : Fr base L s.heap m) (N : News base L s.heap ((D, { cls := .type "list", data := .seq ys.toArray n }) :: rest))
    (hap : ∀ p ∈ rest, p.1 ≠ D) (X : Wd g s₀ s)
    (h : ∀ s', Fr base L s'.heap m → News base L s'.heap ((D, { cls := .type "list", data := .seq (ys ++ [x]).toArray (n + 1) }) :: rest) → Wd g s₀ s' → Q .none s') (hsz : ys.length ≤ sizeLine) :
    wpAny (model prog w) A (call (.builtin "list.append") [.ref D, x]) Q E s :=
  append_in (own := []) (hsz := hsz) F N (fun _ hp => nomatch hp) hap fun _ F' N' => h _ F' N' X.upd
end

/-! a loop's turn -/
def TurnOut (base : Heap) (L : Addr) (own : List (Addr × Obj)) (J : (Str → Option Value) → List (Addr × Obj) → Prop) (g : Bool) (s₀ : Shared) (Q : Flow → Shared → Prop) (f : Flow) (s₂ : Shared) : Prop :=
  match f with
  | .ret v => Q (.ret v) s₂
  | .brk => Q .next s₂
  | _ => ∃ m' news', Fr base L s₂.heap m' ∧ News base L s₂.heap (news' ++ own) ∧ OwnOff own (news'.map (·.1)) ∧ Wd g s₀ s₂ ∧ J m' news'

section
variable {base : Heap} {L : Addr} {own : List (Addr × Obj)} {J : (Str → Option Value) → List (Addr × Obj) → Prop} {g : Bool} {s₀ s₂ : Shared} {Q : Flow → Shared → Prop} {m' : Str → Option Value} {news' : List (Addr × Obj)}
theorem turn_next (F : Fr base L s₂.heap m') (N : News base L s₂.heap (news' ++ own)) (O : OwnOff own (news'.map (·.1))) (X : Wd g s₀ s₂) (hJ : J m' news') : TurnOut base L own J g s₀ Q .next s₂ := ⟨m', news', F, N, O, X, hJ⟩
theorem turn_cont (F : Fr base L s₂.heap m') (N : News base L s₂.heap (news' ++ own)) (O : OwnOff own (news'.map (·.1))) (X : Wd g s₀ s₂) (hJ : J m' news') : TurnOut base L own J g s₀ Q .cont s₂ := ⟨m', news', F, N, O, X, hJ⟩
end

theorem TurnOut.mono {base : Heap} {L : Addr} {own : List (Addr × Obj)} {J J' : (Str → Option Value) → List (Addr × Obj) → Prop} {g : Bool} {s₀ s₂ : Shared} {Q : Flow → Shared → Prop} {f : Flow} (h : TurnOut base L own J g s₀ Q f s₂) (hJ : ∀ m n, J m n → J' m n) : TurnOut base L own J' g s₀ Q f s₂ := by
  cases f with
  | next => obtain ⟨m', news', a1, a2, a3, a4, a5⟩ := h; exact ⟨m', news', a1, a2, a3, a4, hJ _ _ a5⟩
  | cont => obtain ⟨m', news', a1, a2, a3, a4, a5⟩ := h; exact ⟨m', news', a1, a2, a3, a4, hJ _ _ a5⟩
  | brk => exact h
  | ret v => exact h

theorem fr_moved {base h h' : Heap} {L : Addr} {m : Str → Option Value} {wr : List Addr} (F : Fr base L h m) (hL : L ∉ wr) (hw : ∀ b ∈ wr, base.get? b = none)
    (hk : ∀ b o, b ∉ wr → h.get? b = some o → h'.get? b = some o) : Fr base L h' m :=
  ⟨F.ns.at' fun o e => hk _ o hL e, fun b o e => hk b o (fun hm => by rw [hw b hm] at e; cases e) (F.keep b o e), F.above⟩
theorem news_moved {base h h' : Heap} {L : Addr} {news : List (Addr × Obj)} {wr : List Addr} (N : News base L h news) (hn : ∀ p ∈ news, p.1 ∉ wr)
    (hk : ∀ b o, b ∉ wr → h.get? b = some o → h'.get? b = some o) : News base L h' news :=
  fun p hp => ⟨hk _ _ (hn p hp) (N p hp).1, (N p hp).2⟩
theorem news_keeps {base h h' : Heap} {L : Addr} {news : List (Addr × Obj)} (N : News base L h news) (hk : ∀ b o, h.get? b = some o → h'.get? b = some o) : News base L h' news :=
  fun p hp => ⟨hk _ _ (N p hp).1, (N p hp).2⟩
theorem news_sub {base h : Heap} {L : Addr} {a b : List (Addr × Obj)} (N : News base L h a) (hs : ∀ p ∈ b, p ∈ a) : News base L h b := fun p hp => N p (hs p hp)

/-- what stands in a heap at some places, and was not in the base -/
def standing (base h : Heap) (fp : List Addr) : List (Addr × Obj) := fp.filterMap fun b => match base.get? b with
  | some _ => none
  | none => (h.get? b).map fun o => (b, o)
theorem standing_mem {base h : Heap} {fp : List Addr} {p : Addr × Obj} (hp : p ∈ standing base h fp) : p.1 ∈ fp ∧ base.get? p.1 = none ∧ h.get? p.1 = some p.2 := by
  obtain ⟨b, hb, e⟩ := List.mem_filterMap.mp hp
  cases hq : base.get? b with
  | some o => rw [hq] at e; cases e
  | none =>
    rw [hq] at e
    obtain ⟨o, ho, rfl⟩ := Option.map_eq_some_iff.mp e
    exact ⟨hb, hq, ho⟩
theorem mem_standing {base h : Heap} {fp : List Addr} {b : Addr} {o : Obj} (hb : b ∈ fp) (hn : base.get? b = none) (ho : h.get? b = some o) : (b, o) ∈ standing base h fp :=
  List.mem_filterMap.mpr ⟨b, hb, by rw [hn, ho]; rfl⟩

section
variable {prog : Program} {w : World} {A : Around} {s : Shared} {env : Env} {base : Heap} {x : Str} {px : Pos} {body : List Stmt} {Q : Flow → Shared → Prop}

theorem forLoop_walk {I : Addr} {fp wr : List Addr} {n : Nat} {P : Nat → Value → Prop} {St : Nat → Heap → Prop} {m : Str → Option Value} {news : List (Addr × Obj)}
    (W : Walks prog w A I fp wr n P St) (J : Nat → (Str → Option Value) → List (Addr × Obj) → Prop) (g : Bool) (s₀ : Shared)
    (hx : env.kindOf x = some .local) (hp : (env.scope.kind == .class || (env.scope.kind == .module && env.locals != env.globals)) = false)
    (hLf : env.locals ∉ fp) (hwr : ∀ b ∈ wr, base.get? b = none) (hex : ∀ i h, St i h → ∀ b ∈ fp, ∃ o, h.get? b = some o)
    (hst : St 0 s.heap) (F : Fr base env.locals s.heap m) (N : News base env.locals s.heap news) (hoff : ∀ p ∈ news, p.1 ∉ fp) (hr : Wd g s₀ s) (hj : J 0 m news)
    (turn : ∀ i v m₁ news₁ s₁ own, 0 < s₁.toks → i < n → P i v → J i m₁ news₁ → OwnOff own (news₁.map (·.1)) → Wd g s₀ s₁ → Fr base env.locals s₁.heap (fun y => if y = x then some v else m₁ y) → News base env.locals s₁.heap (news₁ ++ own) →
      wpAny (model prog w) A (execs body env) (TurnOut base env.locals own (J (i + 1)) g s₀ Q) (fun _ _ => False) s₁)
    (done : ∀ m₁ news₁ s₁, J n m₁ news₁ → Wd g s₀ s₁ → Fr base env.locals s₁.heap m₁ → News base env.locals s₁.heap news₁ → Q .next s₁) {E : Value → Shared → Prop} :
    codeAny (model prog w) A (.forLoop (.Name x px) (.ref I) body [] env) (fun r s' => match r with | .ok f => Q f s' | .error e => cameBackBy (model prog w) A env E e s') s := by
  have hLw : env.locals ∉ wr := fun h => hLf (W.sub _ h)
  refine codeAny_forLoop (fun k s' => ∃ i m' news', i ≤ n ∧ k = n + 1 - i ∧ St i s'.heap ∧ Fr base env.locals s'.heap m' ∧ News base env.locals s'.heap news' ∧ (∀ p ∈ news', p.1 ∉ fp) ∧ Wd g s₀ s' ∧ J i m' news') ?_ (n + 1)
    ⟨0, m, news, Nat.zero_le _, rfl, hst, F, N, hoff, hr, hj⟩
  rintro k s' ⟨i, m', news', hi, rfl, hst', F', N', hoff', hr', hj'⟩
  by_cases hlt : i < n
  · refine W.item i s' _ _ hlt hst' fun v h₁ tk₁ hPv hst₁ hk₁ => ?_
    have F₁ : Fr base env.locals h₁ m' := fr_moved F' hLw hwr hk₁
    have N₁ : News base env.locals h₁ news' := news_moved N' (fun p hp h => hoff' p hp (W.sub _ h)) hk₁
    refine wpAny_assign_Name (wpAny_storeName_local hx F₁.ns (fun h₂ hn₂ hs₂ => ?_) hp)
    have F₂ := F₁.set hn₂ hs₂
    have N₂ := N₁.set hs₂
    have hst₂ : St (i + 1) h₂ := W.frame _ _ _ hst₁ fun b hb o e => hs₂.extBut b o (fun h => hLf (h ▸ hb)) e
    have hown : News base env.locals h₂ (standing base h₂ fp) := fun p hp => by
      obtain ⟨h1, h2, h3⟩ := standing_mem hp
      exact ⟨h3, fun h => hLf (h ▸ h1), h2⟩
    have hN₃ : News base env.locals h₂ (news' ++ standing base h₂ fp) := fun p hp => (List.mem_append.mp hp).elim (N₂ p) (hown p)
    have hoo : OwnOff (standing base h₂ fp) (news'.map (·.1)) := fun p hp b hb e => by
      obtain ⟨q, hq, rfl⟩ := List.mem_map.mp hb
      exact hoff' q hq (e ▸ (standing_mem hp).1)
    refine wpAny_mono (turn i v m' news' { s' with heap := h₂, toks := tk₁ + 1 } (standing base h₂ fp) (Nat.succ_pos _) hlt hPv hj' hoo hr'.upd F₂ hN₃) (fun f s₃ h₃ => ?_) fun _ _ e => e.elim
    have fin : (∃ m' news', Fr base env.locals s₃.heap m' ∧ News base env.locals s₃.heap (news' ++ standing base h₂ fp) ∧ OwnOff (standing base h₂ fp) (news'.map (·.1)) ∧ Wd g s₀ s₃ ∧ J (i + 1) m' news') →
        ∃ m, m < n + 1 - i ∧ ∃ i m' news', i ≤ n ∧ m = n + 1 - i ∧ St i s₃.heap ∧ Fr base env.locals s₃.heap m' ∧ News base env.locals s₃.heap news' ∧ (∀ p ∈ news', p.1 ∉ fp) ∧ Wd g s₀ s₃ ∧ J i m' news' := by
      rintro ⟨m₃, news₃, F₃, N₃, hoo₃, hr₃, hj₃⟩
      have keep : ∀ b ∈ fp, ∀ o, h₂.get? b = some o → s₃.heap.get? b = some o := fun b hb o e => by
        cases hq : base.get? b with
        | some o' =>
          have e1 := F₂.keep b o' hq
          rw [e] at e1; cases e1
          exact F₃.keep b o hq
        | none => exact (N₃ (b, o) (List.mem_append.mpr (.inr (mem_standing hb hq e)))).1
      refine ⟨n + 1 - (i + 1), by omega, i + 1, m₃, news₃, hlt, rfl, W.frame _ _ _ hst₂ keep, F₃, fun p hp => N₃ p (List.mem_append.mpr (.inl hp)), fun p hp hm => ?_, hr₃, hj₃⟩
      have hp3 := N₃ p (List.mem_append.mpr (.inl hp))
      cases hq : h₂.get? p.1 with
      | some o => exact hoo₃ (p.1, o) (mem_standing hm hp3.2.2 hq) p.1 (List.mem_map.mpr ⟨p, hp, rfl⟩) rfl
      | none => obtain ⟨o, ho⟩ := hex _ _ hst₂ _ hm; rw [hq] at ho; cases ho
    cases f with
    | next => exact fin h₃
    | cont => exact fin h₃
    | brk => exact h₃
    | ret v => exact h₃
  · have hin : i = n := by omega
    subst hin
    refine W.done s' _ _ hst' fun h₁ tk₁ hk₁ => wpAny_execs_nil ?_
    exact done m' news' _ hj' hr'.upd (fr_moved F' hLw hwr hk₁) (news_moved N' (fun p hp h => hoff' p hp (W.sub _ h)) hk₁)

/-! the three sources of a loop by one name -/
theorem push_news {h : Heap} {L : Addr} {news : List (Addr × Obj)} (N : News base L h news) (o : Obj) : News base L (h.push o) news := news_keeps N fun _ _ e => Heap.get?_push_of_some o e

theorem for_str {iter : Expr} {pos : Pos} {m : Str → Option Value} {news : List (Addr × Obj)} {xt : Str} {tx : Tok} {E : Value → Shared → Prop} (hh : A.handled = none)
    (J : Nat → (Str → Option Value) → List (Addr × Obj) → Prop) (g : Bool) (s₀ : Shared)
    (hx : env.kindOf x = some .local) (hp : (env.scope.kind == .class || (env.scope.kind == .module && env.locals != env.globals)) = false)
    (hiter : ∀ Q' : Value → Shared → Prop, Q' (.str xt tx) s → wpAny (model prog w) A (eval iter env) Q' E s)
    (F : Fr base env.locals s.heap m) (N : News base env.locals s.heap news) (hr : Wd g s₀ s) (hj : J 0 m news)
    (turn : ∀ i c t m₁ news₁ s₁ own, xt.cps[i]? = some c → J i m₁ news₁ → OwnOff own (news₁.map (·.1)) → Wd g s₀ s₁ → Fr base env.locals s₁.heap (fun y => if y = x then some (.str ⟨#[c]⟩ t) else m₁ y) → News base env.locals s₁.heap (news₁ ++ own) →
      wpAny (model prog w) A (execs body env) (TurnOut base env.locals own (J (i + 1)) g s₀ Q) (fun _ _ => False) s₁)
    (done : ∀ m₁ news₁ s₁, J xt.cps.size m₁ news₁ → Wd g s₀ s₁ → Fr base env.locals s₁.heap m₁ → News base env.locals s₁.heap news₁ → Q .next s₁)
    (hs : ∀ x, foldedSetIterable iter env x = pure x := by intro _; rfl) :
    wpAny (model prog w) A (exec (.For (.Name x px) iter body [] pos) env) Q E s := by
  refine wpAny_For (hiter _ ?_) hs
  have hLI : env.locals ∉ [s.heap.objs.size] := fun h => absurd F.ns.lt ((List.mem_singleton.mp h) ▸ Nat.lt_irrefl _)
  have hwr : ∀ b ∈ [s.heap.objs.size], base.get? b = none := fun b hb => by
    rw [List.mem_singleton.mp hb]; exact next_is_new F
  have hoff : ∀ p ∈ news, p.1 ∉ [s.heap.objs.size] := fun p hp hI => absurd (Heap.lt_size (N p hp).1) ((List.mem_singleton.mp hI) ▸ Nat.lt_irrefl _)
  have ht : ∀ i v m₁ news₁ s₁ own, 0 < s₁.toks → i < xt.cps.size → SignAt xt i v → J i m₁ news₁ → OwnOff own (news₁.map (·.1)) → Wd g s₀ s₁ → Fr base env.locals s₁.heap (fun y => if y = x then some v else m₁ y) → News base env.locals s₁.heap (news₁ ++ own) →
      wpAny (model prog w) A (execs body env) (TurnOut base env.locals own (J (i + 1)) g s₀ Q) (fun _ _ => False) s₁ := by
    rintro i v m₁ news₁ s₁ own _ _ ⟨c, t, hc, rfl⟩ h1 h2 h3 h4 h5
    exact turn i c t m₁ news₁ s₁ own hc h1 h2 h3 h4 h5
  cases ha : xt.cps.all (· < 128)
  · refine wpAny_pyIter_wide ha ?_
    exact forLoop_walk (Walks.strWide hh _ xt tx) J g s₀ hx hp hLI hwr (fun i h st b hb => by rw [List.mem_singleton.mp hb]; obtain ⟨o, ho, _⟩ := st; exact ⟨o, ho⟩) ⟨_, Heap.get?_push_size _ rfl, rfl, rfl⟩ (F.push _) (push_news N _) hoff (hr.upd) hj ht done
  · refine wpAny_pyIter_ascii ha ?_
    exact forLoop_walk (Walks.strAscii hh _ xt tx) J g s₀ hx hp hLI hwr (fun i h st b hb => by rw [List.mem_singleton.mp hb]; obtain ⟨o, ho, _⟩ := st; exact ⟨o, ho⟩) ⟨_, Heap.get?_push_size _ rfl, rfl, rfl⟩ (F.push _) (push_news N _) hoff (hr.upd) hj ht done

theorem for_list {iter : Expr} {pos : Pos} {E : Value → Shared → Prop} (hh : A.handled = none)
    (J : Nat → (Str → Option Value) → List (Addr × Obj) → Prop) (g : Bool) (s₀ : Shared)
    (hx : env.kindOf x = some .local) (hp : (env.scope.kind == .class || (env.scope.kind == .module && env.locals != env.globals)) = false)
    (hiter : wpAny (model prog w) A (eval iter env) (fun xv s₁ => ∃ ax items m news, xv = .ref ax ∧ s₁.heap.IsList ax items ∧ ax ≠ env.locals ∧ (∀ p ∈ news, p.1 ≠ ax) ∧ Fr base env.locals s₁.heap m ∧ News base env.locals s₁.heap news ∧ Wd g s₀ s₁ ∧ J 0 m news ∧
      (∀ i v m₁ news₁ s₁ own, items[i]? = some v → J i m₁ news₁ → OwnOff own (news₁.map (·.1)) → Wd g s₀ s₁ → Fr base env.locals s₁.heap (fun y => if y = x then some v else m₁ y) → News base env.locals s₁.heap (news₁ ++ own) →
        wpAny (model prog w) A (execs body env) (TurnOut base env.locals own (J (i + 1)) g s₀ Q) (fun _ _ => False) s₁) ∧
      (∀ m₁ news₁ s₁, J items.size m₁ news₁ → Wd g s₀ s₁ → Fr base env.locals s₁.heap m₁ → News base env.locals s₁.heap news₁ → Q .next s₁)) E s)
    (hs : ∀ x, foldedSetIterable iter env x = pure x := by intro _; rfl) :
    wpAny (model prog w) A (exec (.For (.Name x px) iter body [] pos) env) Q E s := by
  refine wpAny_For (wpAny_mono hiter (fun xv s₁ h => ?_) fun _ _ e => e) hs
  obtain ⟨ax, items, m, news, rfl, hl, haL, han, F, N, hr, hj, turn, done⟩ := h
  have hax : ax < s₁.heap.objs.size := by obtain ⟨o, ho, _⟩ := hl; exact Heap.lt_size ho
  refine wpAny_pyIter_list hl ?_
  refine forLoop_walk (Walks.list hh s₁.heap.objs.size ax (Nat.ne_of_lt hax) items) J g s₀ hx hp ?_ ?_ ?_ ⟨⟨_, Heap.get?_push_size _ rfl, rfl, rfl⟩, hl.push _⟩ (F.push _) (push_news N _) ?_ (hr.upd) hj
    (fun i v m₁ news₁ s₁ own _ _ hv => turn i v m₁ news₁ s₁ own hv) done
  · intro h
    rcases List.mem_cons.mp h with e | h
    · exact absurd F.ns.lt (e ▸ Nat.lt_irrefl _)
    · exact haL (List.mem_singleton.mp h).symm
  · intro b hb; rw [List.mem_singleton.mp hb]; exact next_is_new F
  · rintro i h ⟨⟨o, ho, _⟩, ⟨o', ho', _⟩⟩ b hb
    rcases List.mem_cons.mp hb with rfl | hb
    · exact ⟨o, ho⟩
    · rw [List.mem_singleton.mp hb]; exact ⟨o', ho'⟩
  · intro p hp h
    rcases List.mem_cons.mp h with e | h
    · exact absurd (Heap.lt_size (N p hp).1) (e ▸ Nat.lt_irrefl _)
    · exact han p hp (List.mem_singleton.mp h)

theorem range_size (n : Nat) : Builtin.Range.rangeSize 0 (n : Int) 1 = n := by
  unfold Builtin.Range.rangeSize
  rw [if_pos (by decide)]
  split <;> omega
theorem fits_long {i : Int} (h1 : -9223372036854775808 ≤ i) (h2 : i < 9223372036854775808) : Builtin.Range.rangeFitsLong i = true := by
  unfold Builtin.Range.rangeFitsLong
  have e : (2 : Int) ^ 63 = 9223372036854775808 := by decide
  rw [e]
  exact Bool.and_eq_true_iff.mpr ⟨decide_eq_true h1, decide_eq_true h2⟩
theorem range_small {n : Nat} (h : n < 2 ^ 24) : Builtin.Range.small 0 (n : Int) 1 = true := by
  have e : (2 : Nat) ^ 24 = 16777216 := by decide
  rw [e] at h
  unfold Builtin.Range.small
  rw [range_size, if_pos (by decide), fits_long (i := 0) (by decide) (by decide), fits_long (i := n) (by omega) (by omega), fits_long (i := 1) (by decide) (by decide), fits_long (i := (n : Int) + (1 - 1)) (by omega) (by omega)]
  simp
theorem for_range {iter : Expr} {pos : Pos} {E : Value → Shared → Prop} (hh : A.handled = none)
    (J : Nat → (Str → Option Value) → List (Addr × Obj) → Prop) (g : Bool) (s₀ : Shared)
    (hx : env.kindOf x = some .local) (hp : (env.scope.kind == .class || (env.scope.kind == .module && env.locals != env.globals)) = false)
    (hiter : wpAny (model prog w) A (eval iter env) (fun xv s₁ => ∃ r b n t u v m news, xv = .ref r ∧ IsRange s₁.heap r 0 b 1 t u v ∧ b = (n : Nat) ∧ n < 2 ^ 24 ∧ Fr base env.locals s₁.heap m ∧ News base env.locals s₁.heap news ∧ Wd g s₀ s₁ ∧ J 0 m news ∧
      (∀ i t m₁ news₁ s₁ own, i < n → J i m₁ news₁ → OwnOff own (news₁.map (·.1)) → Wd g s₀ s₁ → Fr base env.locals s₁.heap (fun y => if y = x then some (.int i t) else m₁ y) → News base env.locals s₁.heap (news₁ ++ own) →
        wpAny (model prog w) A (execs body env) (TurnOut base env.locals own (J (i + 1)) g s₀ Q) (fun _ _ => False) s₁) ∧
      (∀ m₁ news₁ s₁, J n m₁ news₁ → Wd g s₀ s₁ → Fr base env.locals s₁.heap m₁ → News base env.locals s₁.heap news₁ → Q .next s₁)) E s)
    (hs : ∀ x, foldedSetIterable iter env x = pure x := by intro _; rfl) :
    wpAny (model prog w) A (exec (.For (.Name x px) iter body [] pos) env) Q E s := by
  refine wpAny_For (wpAny_mono hiter (fun xv s₁ h => ?_) fun _ _ e => e) hs
  obtain ⟨r, b, n, t, u, v, m, news, rfl, hl, rfl, hn, F, N, hr, hj, turn, done⟩ := h
  refine wpAny_pyIter_range hl (range_small hn) ?_
  have hLI : env.locals ∉ [s₁.heap.objs.size] := fun h => absurd F.ns.lt ((List.mem_singleton.mp h) ▸ Nat.lt_irrefl _)
  have hwr : ∀ b ∈ [s₁.heap.objs.size], base.get? b = none := fun b hb => by
    rw [List.mem_singleton.mp hb]; exact next_is_new F
  have hoff : ∀ p ∈ news, p.1 ∉ [s₁.heap.objs.size] := fun p hp hI => absurd (Heap.lt_size (N p hp).1) ((List.mem_singleton.mp hI) ▸ Nat.lt_irrefl _)
  refine forLoop_walk (Walks.range hh s₁.heap.objs.size 0 1 n) J g s₀ hx hp hLI hwr (fun i h st b hb => by rw [List.mem_singleton.mp hb]; exact ⟨_, st⟩) ?_ (F.push _) (push_news N _) hoff hr.upd hj ?_ done
  · have e := range_size n
    show IsRangeIter _ _ _ _ _
    rw [e]
    simpa using Heap.get?_push_size s₁.heap (o := { cls := .type "range_iterator", data := .fields #[rawInt 0, rawInt (n : Int), rawInt 1] }) rfl
  · rintro i v m₁ news₁ s₂ own ht0 hi ⟨t, rfl⟩ h1 h2 h3 h4 h5
    have e : (0 : Int) + (i : Int) * 1 = i := by omega
    rw [e] at h4
    exact turn i t m₁ news₁ s₂ own hi h1 h2 h3 h4 h5
theorem for_rangeT {iter : Expr} {pos : Pos} {E : Value → Shared → Prop} (hh : A.handled = none)
    (J : Nat → (Str → Option Value) → List (Addr × Obj) → Prop) (g : Bool) (s₀ : Shared)
    (hx : env.kindOf x = some .local) (hp : (env.scope.kind == .class || (env.scope.kind == .module && env.locals != env.globals)) = false)
    (hiter : wpAny (model prog w) A (eval iter env) (fun xv s₁ => ∃ r b n t u v m news, xv = .ref r ∧ IsRange s₁.heap r 0 b 1 t u v ∧ b = (n : Nat) ∧ n < 2 ^ 24 ∧ Fr base env.locals s₁.heap m ∧ News base env.locals s₁.heap news ∧ Wd g s₀ s₁ ∧ J 0 m news ∧
      (∀ i t m₁ news₁ s₁ own, 0 < s₁.toks → i < n → J i m₁ news₁ → OwnOff own (news₁.map (·.1)) → Wd g s₀ s₁ → Fr base env.locals s₁.heap (fun y => if y = x then some (.int i t) else m₁ y) → News base env.locals s₁.heap (news₁ ++ own) →
        wpAny (model prog w) A (execs body env) (TurnOut base env.locals own (J (i + 1)) g s₀ Q) (fun _ _ => False) s₁) ∧
      (∀ m₁ news₁ s₁, J n m₁ news₁ → Wd g s₀ s₁ → Fr base env.locals s₁.heap m₁ → News base env.locals s₁.heap news₁ → Q .next s₁)) E s)
    (hs : ∀ x, foldedSetIterable iter env x = pure x := by intro _; rfl) :
    wpAny (model prog w) A (exec (.For (.Name x px) iter body [] pos) env) Q E s := by
  refine wpAny_For (wpAny_mono hiter (fun xv s₁ h => ?_) fun _ _ e => e) hs
  obtain ⟨r, b, n, t, u, v, m, news, rfl, hl, rfl, hn, F, N, hr, hj, turn, done⟩ := h
  refine wpAny_pyIter_range hl (range_small hn) ?_
  have hLI : env.locals ∉ [s₁.heap.objs.size] := fun h => absurd F.ns.lt ((List.mem_singleton.mp h) ▸ Nat.lt_irrefl _)
  have hwr : ∀ b ∈ [s₁.heap.objs.size], base.get? b = none := fun b hb => by
    rw [List.mem_singleton.mp hb]; exact next_is_new F
  have hoff : ∀ p ∈ news, p.1 ∉ [s₁.heap.objs.size] := fun p hp hI => absurd (Heap.lt_size (N p hp).1) ((List.mem_singleton.mp hI) ▸ Nat.lt_irrefl _)
  refine forLoop_walk (Walks.range hh s₁.heap.objs.size 0 1 n) J g s₀ hx hp hLI hwr (fun i h st b hb => by rw [List.mem_singleton.mp hb]; exact ⟨_, st⟩) ?_ (F.push _) (push_news N _) hoff hr.upd hj ?_ done
  · have e := range_size n
    show IsRangeIter _ _ _ _ _
    rw [e]
    simpa using Heap.get?_push_size s₁.heap (o := { cls := .type "range_iterator", data := .fields #[rawInt 0, rawInt (n : Int), rawInt 1] }) rfl
  · rintro i v m₁ news₁ s₂ own ht0 hi ⟨t, rfl⟩ h1 h2 h3 h4 h5
    have e : (0 : Int) + (i : Int) * 1 = i := by omega
    rw [e] at h4
    exact turn i t m₁ news₁ s₂ own ht0 hi h1 h2 h3 h4 h5
end

def fname : Stmt → Str
  | .FunctionDef n _ _ _ _ _ _ _ _ _ => n
  | _ => Str.empty

/-! the ground: the globals, the built-ins, the defs -/
def FnIs (mg : Str → Option Value) (h : Heap) (st : Stmt) : Prop :=
  ∃ a o pm code doc, mg (fname st) = some (.ref a) ∧ h.get? a = some o ∧ o.data = .func (docDef (fname st) (fparams st) (fbody st) (fscope st) pm code doc) ∧ h.CodeRec code (fname st)
def biPairs : List (Str × Value) := [(Str.ofString "len", .builtin "len"), (Str.ofString "range", .type "range"), (Str.ofString "list", .type "list"), (Str.ofString "enumerate", .type "enumerate"),
  (Str.ofString "chr", .builtin "chr"), (Str.ofString "ord", .builtin "ord"), (Str.ofString "isinstance", .builtin "isinstance"), (Str.ofString "bool", .type "bool")]
def fnIxs : List Nat := [1, 3, 4, 5, 6, 8, 9, 10, 11, 12, 13, 14]
structure Gd (mg mb : Str → Option Value) (h : Heap) : Prop where
  g : h.Ns mainGlobals mg
  b : h.Ns builtinsNs mb
  nolimit : h.NoLimit
  bi : ∀ p ∈ biPairs, mg p.1 = none ∧ mb p.1 = some p.2
  fn : ∀ i ∈ fnIxs, FnIs mg h (fnAt i)
theorem Gd.keeps {mg mb : Str → Option Value} {h h' : Heap} (G : Gd mg mb h) (hk : ∀ b o, h.get? b = some o → h'.get? b = some o) : Gd mg mb h' where
  g := G.g.keeps hk
  b := G.b.keeps hk
  nolimit := G.nolimit.keeps hk
  bi := G.bi
  fn := fun i hi => let ⟨a, o, pm, code, doc, h1, h2, h3, h4⟩ := G.fn i hi; ⟨a, o, pm, code, doc, h1, hk _ _ h2, h3, h4.keeps hk⟩

/-! the room -/
structure Rm (k : Nat) (A : Around) : Prop where
  hh : A.handled = none
  d : A.depth + k ≤ 900
  u : A.units + 10 * k ≤ 9000
theorem Rm.deeper {k : Nat} {A : Around} (R : Rm (k + 1) A) (env : Env) : Rm k (A.deeper env) := ⟨R.hh, by have := R.d; show A.depth + 1 + k ≤ 900; omega, by have := R.u; show A.units + 3 + 10 * k ≤ 9000; omega⟩
theorem Rm.room {k : Nat} {A : Around} (R : Rm k A) : A.depth < recursionLimit := by have := R.d; show A.depth < 1000; omega
theorem Rm.units {k : Nat} {A : Around} (R : Rm k A) : A.units + 64 < cLine := by have := R.u; show A.units + 64 < 9900; omega
theorem Rm.less {k j : Nat} {A : Around} (R : Rm k A) (h : j ≤ k) : Rm j A := ⟨R.hh, by have := R.d; omega, by have := R.u; omega⟩

def RetQ (Q : Value → Shared → Prop) (E : Value → Shared → Prop) : Result → Shared → Prop := fun r s' => match r with | .ok (.ret v) => Q v s' | .ok _ => False | .error e => E e s'

section
variable {prog : Program} {w : World} {A : Around} {E : Value → Shared → Prop} {s : Shared} {mg mb : Str → Option Value} {env : Env}

/-- a built-in's name -/
theorem nameB {x : Str} {v : Value} {px : Pos} {Q : Value → Shared → Prop} (G : Gd mg mb s.heap) (hp : (x, v) ∈ biPairs) (h : Q v s)
    (hk : env.scope.kind = .function := by rfl) (hx : env.kindOf x = some .globalImplicit := by rfl) (hg : env.globals = mainGlobals := by rfl) (hb : env.builtins = builtinsNs := by rfl)
    (hd : (x == ("__debug__" : Str)) = false := by decide +kernel) : wpAny (model prog w) A (eval (.Name x px) env) Q E s :=
  Name_function_global hk hx (loadGlobal_builtin (env := env) (by rw [hg]; exact G.g) (G.bi _ hp).1 (by rw [hb]; exact G.b) (G.bi _ hp).2 h) hd
/-- a def's name -/
theorem nameF {st : Stmt} {px : Pos} {Q : Value → Shared → Prop} (G : Gd mg mb s.heap) (hf : FnIs mg s.heap st)
    (h : ∀ fa o pm code doc, mg (fname st) = some (.ref fa) → s.heap.get? fa = some o → o.data = .func (docDef (fname st) (fparams st) (fbody st) (fscope st) pm code doc) → Q (.ref fa) s)
    (hk : env.scope.kind = .function) (hx : env.kindOf (fname st) = some .globalImplicit) (hg : env.globals = mainGlobals)
    (hd : (fname st == ("__debug__" : Str)) = false) : wpAny (model prog w) A (eval (.Name (fname st) px) env) Q E s := by
  obtain ⟨a, o, pm, code, doc, h1, h2, h3, _⟩ := hf
  exact Name_function_global hk hx (loadGlobal_global (env := env) (by rw [hg]; exact G.g) h1 (h a o pm code doc h1 h2 h3)) hd

/-- a call of a def, with arguments -/
theorem callF {i : Nat} {px pos : Pos} {e : Expr} {rest : List Expr} {Q : Value → Shared → Prop} (G : Gd mg mb s.heap) (hi : i ∈ fnIxs)
    (h : ∀ fa, mg (fname (fnAt i)) = some (.ref fa) → wpAny (model prog w) A (spliced (backTo pos (starEach (e :: rest) env)))
      (fun vs s₁ => (∀ b o, s.heap.get? b = some o → s₁.heap.get? b = some o) ∧ codeAny (model prog w) A (.call (.ref fa) ⟨vs, []⟩) (RetQ Q E) s₁) E s)
    (hk : env.scope.kind = .function := by rfl) (hx : env.kindOf (fname (fnAt i)) = some .globalImplicit := by rfl) (hg : env.globals = mainGlobals := by rfl)
    (hd : (fname (fnAt i) == ("__debug__" : Str)) = false := by decide +kernel)
    (he : starEach (e :: rest) env = (false, eval e env) :: starEach rest env := by rfl)
    (hc : eval (.Call (.Name (fname (fnAt i)) px) (e :: rest) [] pos) env = (do callWith pos (← eval (.Name (fname (fnAt i)) px) env) [] (backTo pos (starEach (e :: rest) env)) (backToKw pos (keywordEach [] env))) := by rfl) :
    wpAny (model prog w) A (eval (.Call (.Name (fname (fnAt i)) px) (e :: rest) [] pos) env) Q E s := by
  refine Call_ (nameF G (G.fn i hi) (fun fa o pm code doc h1 h2 h3 => ?_) hk hx hg hd) hc
  refine callWith_def (o := o) h3 (wpAny_mono (h fa h1) (fun vs s₁ h' => ⟨h'.1 _ _ h2, wpAny_call h'.2⟩) fun _ _ e => e) he

/-- the entry into a def -/
theorem enter {i : Nat} {fa : Addr} {args : List Value} {binds : List (Str × Value)} {R : Result → Shared → Prop} {k : Nat} (G : Gd mg mb s.heap) (hi : i ∈ fnIxs) (hA : Rm k A) (hfa : mg (fname (fnAt i)) = some (.ref fa))
    (hbind : ∀ pm cd doc, bindArgs (docDef (fname (fnAt i)) (fparams (fnAt i)) (fbody (fnAt i)) (fscope (fnAt i)) pm cd doc) ⟨args, []⟩ = pure binds)
    (hloc : (binds.all fun x => decide ((fscope (fnAt i)).names.lookup x.1 = some .local)) = true)
    (h : ∀ s₁ cd, Fr s.heap s.heap.objs.size s₁.heap (fun x => binds.reverse.lookup x) → News s.heap s.heap.objs.size s₁.heap [] → Wd false s s₁ →
      wpAny (model prog w) (A.deeper (envOf (fname (fnAt i)) (fscope (fnAt i)) s.heap.objs.size fa cd)) (execs (fbody (fnAt i)) (envOf (fname (fnAt i)) (fscope (fnAt i)) s.heap.objs.size fa cd))
        (fun f s' => R (.ok (.ret (match f with | .ret v => v | _ => .none))) s') (fun _ _ => False) s₁)
    (hco : (fscope (fnAt i)).isCoroutine = false := by rfl) (hgen : (fscope (fnAt i)).isGenerator = false := by rfl) (hk : (fscope (fnAt i)).kind = .function := by rfl)
    (hcell : ∀ x ∈ (fscope (fnAt i)).names, x.2 ≠ .cell := by decide +kernel) :
    codeAny (model prog w) A (.call (.ref fa) ⟨args, []⟩) R s := by
  obtain ⟨a, o, pm, code, doc, h1, h2, h3, h4⟩ := G.fn i hi
  obtain rfl : fa = a := by rw [hfa] at h1; cases h1; rfl
  exact call_plain_ret hA.room h2 h3 G.nolimit h4 (hbind pm code doc) (locs hloc) (fun h₁ F => h { s with heap := h₁, toks := s.toks + binds.length } code F News.nil Wd.refl.upd) hco hgen hk hcell

/-- a list made -/
theorem newListW {M : Model} {g : Bool} {s₀ : Shared} {L : Addr} {base : Heap} {m : Str → Option Value} {news : List (Addr × Obj)} {vs : List Value} {Q : Value → Shared → Prop} (F : Fr base L s.heap m) (N : News base L s.heap news) (X : Wd g s₀ s)
    (h : ∀ s' D, Fr base L s'.heap m → News base L s'.heap ((D, { cls := .type "list", data := .seq vs.toArray }) :: news) → Wd g s₀ s' → (∀ p ∈ news, p.1 < D) → s.heap.get? D = none → Q (.ref D) s') (hsz : vs.length ≤ sizeLine) :
    wpAny M A (newList vs) Q E s :=
  newList_N F N (fun _ F' N' => h _ _ F' N' X.upd (fun p hp => Heap.lt_size (N p hp).1) (by
    cases e : s.heap.get? s.heap.objs.size with
    | none => rfl
    | some o => exact absurd (Heap.lt_size e) (Nat.lt_irrefl _))) hsz
theorem newTupleW {M : Model} {g : Bool} {s₀ : Shared} {L : Addr} {base : Heap} {m : Str → Option Value} {news : List (Addr × Obj)} {vs : List Value} {Q : Value → Shared → Prop} (F : Fr base L s.heap m) (N : News base L s.heap news) (X : Wd g s₀ s)
    (h : ∀ s' D, Fr base L s'.heap m → News base L s'.heap ((D, { cls := .type "tuple", data := .seq vs.toArray }) :: news) → Wd g s₀ s' → (∀ p ∈ news, p.1 < D) → s.heap.get? D = none → Q (.ref D) s') (hsz : vs.length ≤ sizeLine) :
    wpAny M A (newTuple vs) Q E s :=
  newTuple_N F N (fun _ F' N' => h _ _ F' N' X.upd (fun p hp => Heap.lt_size (N p hp).1) (by
    cases e : s.heap.get? s.heap.objs.size with
    | none => rfl
    | some o => exact absurd (Heap.lt_size e) (Nat.lt_irrefl _))) hsz

/-- a name of a comprehension's own -/
theorem ldC {x : Str} {pos : Pos} {C : Addr} {scope : Scope} {m : Str → Option Value} {v : Value} {Q : Value → Shared → Prop} (hn : s.heap.Ns C m) (hv : m x = some v) (h : Q v s)
    (hk : scope.kind = .function := by rfl) (hl : (compEnv scope C env).kindOf x = some .local := by rfl) (hd : (x == ("__debug__" : Str)) = false := by decide +kernel) :
    wpAny (model prog w) A (eval (.Name x pos) (compEnv scope C env)) Q E s := wpAny_Name (wpAny_loadName_local hk hl hn hv h) hd

/-- a comprehension over a list, its target a name -/
theorem comp_list {elt iter : Expr} {x : Str} {px : Pos} {ifs : List Expr} {scope : Scope} {pos : Pos} {Q : Value → Shared → Prop} (p : Value → Bool) (T : Value → Value → Prop) (hh : A.handled = none)
    (hfree : ∀ y ∈ scope.names, y.2 ≠ .free) (hcell : ∀ y ∈ scope.names, y.2 ≠ .cell) (hkind : scope.kind = .function)
    (hnames : ∀ y ∈ scope.names, y.2 = .local → scope.names.lookup y.1 = some .local) (hx : scope.names.lookup x = some .local)
    (h : wpAny (model prog w) A (eval iter env) (fun xv s₁ => ∃ ax items, xv = .ref ax ∧ s₁.heap.IsList ax items ∧ items.size ≤ sizeLine ∧
      (∀ C v s₂ m₂ E', v ∈ items → s₂.heap.Ns C m₂ → m₂ x = some v → (∀ b o, s₁.heap.get? b = some o → s₂.heap.get? b = some o) →
        wpAny (model prog w) A (forIn ifs true fun c r => if r = true then do let ok ← isTrue c (compEnv scope C env) (eval c (compEnv scope C env)); pure (ForInStep.yield ok) else pure (ForInStep.yield r))
          (fun ok s₃ => ok = p v ∧ Keeps s₂ s₃) E' s₂) ∧
      (∀ C v s₂ m₂ E', v ∈ items → p v = true → s₂.heap.Ns C m₂ → m₂ x = some v → (∀ b o, s₁.heap.get? b = some o → s₂.heap.get? b = some o) → wpAny (model prog w) A (eval elt (compEnv scope C env)) (fun y s₃ => T v y ∧ Keeps s₂ s₃) E' s₂) ∧
      (∀ s' D ys, Wd false s₁ s' → (∀ b o, s₁.heap.get? b = some o → s'.heap.get? b = some o) → s₁.heap.get? D = none → s'.heap.PlainList D ys → Paired T (items.toList.filter p) ys.toList → Q (.ref D) s')) E s)
    (hs : ∀ x, foldedSetIterable iter env x = pure x := by intro _; rfl) :
    wpAny (model prog w) A (eval (.ListComp elt [⟨.Name x px, iter, ifs, 0⟩] scope pos) env) Q E s := by
  refine wpAny_ListComp_walk p T hfree hcell hkind hnames hx (wpAny_mono h (fun xv s₁ h₁ => ?_) fun _ _ e => e) hs
  obtain ⟨ax, items, rfl, hl, hsz, ht, he, hQ⟩ := h₁
  have hax : ax < s₁.heap.objs.size := by obtain ⟨o, ho, _⟩ := hl; exact Heap.lt_size ho
  have nI : ∀ b o, s₁.heap.get? b = some o → b ∉ [s₁.heap.objs.size] := fun b o e hb => absurd (Heap.lt_size e) ((List.mem_singleton.mp hb) ▸ Nat.lt_irrefl _)
  refine wpAny_pyIter_list hl ⟨_, _, _, items.size, _, _, rfl, Walks.list hh s₁.heap.objs.size ax (Nat.ne_of_lt hax) items, hsz, ⟨⟨_, Heap.get?_push_size _ rfl, rfl, rfl⟩, hl.push _⟩, ?_, ⟨?_, ?_⟩, ?_⟩
  · intro b hb
    rw [Heap.size_push]
    rcases List.mem_cons.mp hb with rfl | hb
    · exact Nat.lt_succ_self _
    · rw [List.mem_singleton.mp hb]; exact Nat.lt_succ_of_lt hax
  · intro C i v s₃ m₃ E' hv hn hm hk _
    exact ht C v s₃ m₃ E' (Array.mem_of_getElem? hv) hn hm fun b o e => hk b o (nI b o e) (Heap.get?_push_of_some _ e)
  · intro C i v s₃ m₃ E' hv hp hn hm hk _
    exact he C v s₃ m₃ E' (Array.mem_of_getElem? hv) hp hn hm fun b o e => hk b o (nI b o e) (Heap.get?_push_of_some _ e)
  · intro D h' tk ys vs hD _ hpl hlen hP hF hk
    have e : vs = items.toList := by
      refine List.ext_getElem? fun j => ?_
      cases hj : vs[j]? with
      | some v => rw [Array.getElem?_toList]; exact (hP j v hj).symm
      | none =>
        rw [Array.getElem?_toList]
        have := List.getElem?_eq_none_iff.mp hj
        exact (Array.getElem?_eq_none (by omega)).symm
    rw [e] at hF
    refine hQ _ D ys Wd.refl.upd (fun b o e => hk b o (nI b o e) (Heap.get?_push_of_some _ e)) ?_ hpl hF
    cases hq : s₁.heap.get? D with
    | none => rfl
    | some o => have := Heap.get?_push_of_some { cls := .type "list_iterator", data := .fields #[.ref ax, .int 0 0] } hq; exact absurd (hD.symm.trans this) (by simp)
end

theorem seqIx {j n : Nat} (h : j < n) : seqIndex? (j : Int) n = some j := by
  unfold seqIndex?
  have h1 : ¬ ((j : Int) < 0) := by omega
  simp only [h1, if_false]
  have h2 : (decide ((0 : Int) ≤ j) && decide ((j : Int) < n)) = true := by simp; omega
  rw [if_pos h2]
  simp
theorem seqIxLast {n : Nat} (h : 0 < n) : seqIndex? (-1) n = some (n - 1) := by
  unfold seqIndex?
  have h1 : ((-1 : Int) < 0) := by decide
  simp only [h1, if_true]
  have h2 : (decide ((0 : Int) ≤ -1 + n) && decide ((-1 : Int) + n < n)) = true := by simp; omega
  rw [if_pos h2]
  congr 1
  omega
theorem ssize_ok {j : Nat} (h : j < 2 ^ 24) : (decide ((j : Int) < -(2 ^ 63 : Int)) || decide ((j : Int) ≥ 2 ^ 63)) = false := by
  have e : (2 : Int) ^ 63 = 9223372036854775808 := by decide
  have e2 : (2 : Nat) ^ 24 = 16777216 := by decide
  rw [e2] at h
  rw [e]
  simp only [Bool.or_eq_false_iff, decide_eq_false_iff_not]
  omega

section
variable {prog : Program} {w : World} {A : Around} {E : Value → Shared → Prop} {s : Shared} {value slice : Expr} {Q : Value → Shared → Prop}
/-- x[j] of a text -/
theorem itemStr {x : Str} {t u : Tok} {j c : Nat} (hc : x.cps[j]? = some c) (hj : x.length ≤ 1000) (h : Q (.str ⟨#[c]⟩ s.toks) { s with toks := s.toks + 1 })
    (hs : subscripted slice false (.str x t) (.int j u) = operate [.str x t, .int j u] (getItem (.str x t) (.int j u)) := by with_unfolding_all rfl) :
    wpAny (model prog w) A (subscriptTail value slice (.str x t) (.int j u)) Q E s := by
  have hl : j < x.cps.size := (Array.getElem?_eq_some_iff.mp hc).1
  have hl' : x.cps.size ≤ 1000 := hj
  exact tail_any (typeIs_str _ _ _) PySem.F.slot_str_getitem.lookup (PySem.P.getItem_str (ssize_ok (by omega)) (by rw [show x.length = x.cps.size from rfl, seqIx hl]; exact hc) h) hs
/-- xs[j] of a list -/
theorem itemList {l : Addr} {items : Array Value} {j : Nat} {u : Tok} {x : Value} (hl : s.heap.IsList l items) (hx : items[j]? = some x) (hj : j < 2 ^ 24) (h : Q x s)
    (hs : subscripted slice false (.ref l) (.int j u) = operate [.ref l, .int j u] (getItem (.ref l) (.int j u)) := by with_unfolding_all rfl) :
    wpAny (model prog w) A (subscriptTail value slice (.ref l) (.int j u)) Q E s := by
  have e2 : (2 : Nat) ^ 24 = 16777216 := by decide
  exact tail_any hl.typeIs slot_list_getitem.lookup (wpAny_getItem_list hl (by omega) (by omega) (by simpa using hx) h) hs
/-- t[j] of a tuple -/
theorem itemTup {l : Addr} {items : Array Value} {j : Nat} {u : Tok} {x : Value} (hl : IsTup s.heap l items) (hx : items[j]? = some x) (hj : j < 2 ^ 24) (h : Q x s)
    (hs : subscripted slice false (.ref l) (.int j u) = operate [.ref l, .int j u] (getItem (.ref l) (.int j u)) := by with_unfolding_all rfl) :
    wpAny (model prog w) A (subscriptTail value slice (.ref l) (.int j u)) Q E s := by
  have e2 : (2 : Nat) ^ 24 = 16777216 := by decide
  have hlt : j < items.size := (Array.getElem?_eq_some_iff.mp hx).1
  exact tail_any hl.typeIs slot_tuple_getitem.lookup (PyProof.Rows.getItem_tuple hl (by omega) (by omega) (seqIx hlt) hx h) hs
end

/-! lists of pairs -/
def tupObj (p : Nat) (t : Tok) (x : Str) (u : Tok) : Obj := { cls := .type "tuple", data := .seq #[.int p t, .str x u] }
inductive TupsIn (tups : List (Addr × Obj)) : List Value → List (Nat × Str) → Prop
  | nil : TupsIn tups [] []
  | cons {T : Addr} {p : Nat} {t : Tok} {x : Str} {u : Tok} {vs us} : (T, tupObj p t x u) ∈ tups → TupsIn tups vs us → TupsIn tups (.ref T :: vs) ((p, x) :: us)
theorem TupsIn.mono {a b : List (Addr × Obj)} (hs : ∀ p ∈ a, p ∈ b) : ∀ {vs : List Value} {us : List (Nat × Str)}, TupsIn a vs us → TupsIn b vs us
  | _, _, .nil => .nil
  | _, _, .cons h r => .cons (hs _ h) (r.mono hs)
theorem TupsIn.append {a : List (Addr × Obj)} : ∀ {vs ws : List Value} {us xs : List (Nat × Str)}, TupsIn a vs us → TupsIn a ws xs → TupsIn a (vs ++ ws) (us ++ xs)
  | _, _, _, _, .nil, h => h
  | _, _, _, _, .cons h r, h' => .cons h (r.append h')
theorem TupsIn.length {a : List (Addr × Obj)} : ∀ {vs : List Value} {us : List (Nat × Str)}, TupsIn a vs us → vs.length = us.length
  | _, _, .nil => rfl
  | _, _, .cons _ r => by simp [r.length]
/-- pairs in a heap -/
inductive TupsAt (h : Heap) : List Value → List (Nat × Str) → Prop
  | nil : TupsAt h [] []
  | cons {T : Addr} {p : Nat} {t : Tok} {x : Str} {u : Tok} {vs us} : h.get? T = some (tupObj p t x u) → TupsAt h vs us → TupsAt h (.ref T :: vs) ((p, x) :: us)
theorem TupsAt.keeps {h h' : Heap} (hk : ∀ b o, h.get? b = some o → h'.get? b = some o) : ∀ {vs : List Value} {us : List (Nat × Str)}, TupsAt h vs us → TupsAt h' vs us
  | _, _, .nil => .nil
  | _, _, .cons e r => .cons (hk _ _ e) (r.keeps hk)
theorem TupsIn.at {base h : Heap} {L : Addr} {news tups : List (Addr × Obj)} (N : News base L h news) (hs : ∀ p ∈ tups, p ∈ news) : ∀ {vs : List Value} {us : List (Nat × Str)}, TupsIn tups vs us → TupsAt h vs us
  | _, _, .nil => .nil
  | _, _, .cons hm r => .cons (N _ (hs _ hm)).1 (r.at N hs)
theorem TupsAt.length {h : Heap} : ∀ {vs : List Value} {us : List (Nat × Str)}, TupsAt h vs us → vs.length = us.length
  | _, _, .nil => rfl
  | _, _, .cons _ r => by simp [r.length]
theorem TupsAt.get {h : Heap} : ∀ {vs : List Value} {us : List (Nat × Str)}, TupsAt h vs us → ∀ {j : Nat} {q : Nat × Str}, us[j]? = some q → ∃ T t u, vs[j]? = some (.ref T) ∧ h.get? T = some (tupObj q.1 t q.2 u)
  | _, _, .nil, _, _, e => by simp at e
  | _, _, .cons (T := T) (t := t) (u := u) g r, 0, q, e => by
    obtain rfl : _ = q := by simpa using e
    exact ⟨T, t, u, rfl, g⟩
  | _, _, .cons _ r, j + 1, q, e => by
    obtain ⟨T, t, u, a, b⟩ := r.get (by simpa using e)
    exact ⟨T, t, u, by simpa using a, b⟩
theorem TupsAt.reads {h : Heap} : ∀ {vs : List Value} {us : List (Nat × Str)}, TupsAt h vs us → ∃ as, ReadsAll h vs (us.map fun q => PyData.tuple [.int q.1, .str q.2]) as
  | _, _, .nil => ⟨_, .nil⟩
  | _, _, .cons g r => by
    obtain ⟨as, q⟩ := r.reads
    exact ⟨_, .cons (.tuple g rfl rfl (.cons (.int _ _) (.cons (.str _ _) .nil))) q⟩

section
variable {prog : Program} {w : World} {A : Around} {E : Value → Shared → Prop} {s s₀ : Shared} {g : Bool} {L : Addr} {base : Heap} {m : Str → Option Value}
/-- append behind something just made -/
theorem appW2 {D : Addr} {ys : List Value} {n : Nat} {x : Value} {p₁ : Addr × Obj} {rest : List (Addr × Obj)} {Q : Value → Shared → Prop} (F : Fr base L s.heap m) (N : News base L s.heap (p₁ :: (D, { cls := .type "list", data := .seq ys.toArray n }) :: rest))
    (lt : ∀ p ∈ ((D, { cls := .type "list", data := .seq ys.toArray n }) :: rest : List (Addr × Obj)), p.1 < p₁.1) (hap : ∀ p ∈ rest, p.1 ≠ D) (X : Wd g s₀ s)
    (h : ∀ s', Fr base L s'.heap m → News base L s'.heap ((D, { cls := .type "list", data := .seq (ys ++ [x]).toArray (n + 1) }) :: p₁ :: rest) → Wd g s₀ s' → Q .none s') (hsz : ys.length ≤ sizeLine) :
    wpAny (model prog w) A (call (.builtin "list.append") [.ref D, x]) Q E s :=
  appW F (news_sub N fun p hp => by
    rcases List.mem_cons.mp hp with rfl | hp
    · exact .tail _ (.head _)
    · rcases List.mem_cons.mp hp with rfl | hp
      · exact .head _
      · exact .tail _ (.tail _ hp)) (fun p hp => by
    rcases List.mem_cons.mp hp with rfl | hp
    · exact Nat.ne_of_gt (lt _ (.head _))
    · exact hap p hp) X h hsz
/-- range(n) -/
theorem rangeW {n : Int} {t : Tok} {news : List (Addr × Obj)} {Q : Value → Shared → Prop} (F : Fr base L s.heap m) (N : News base L s.heap news) (X : Wd g s₀ s)
    (h : ∀ s' r t u v, IsRange s'.heap r 0 n 1 t u v → Fr base L s'.heap m → News base L s'.heap news → Wd g s₀ s' → Q (.ref r) s') :
    wpAny (model prog w) A (call (.type "range") [.int n t]) Q E s :=
  call_range_1 (h _ _ _ _ _ (IsRange.new _ _ _ _ _ _ _) (F.push _) (push_news N _) X.upd)
variable {mg mb : Str → Option Value} {env : Env}
theorem nameBF {x : Str} {v : Value} {px : Pos} {Q : Value → Shared → Prop} (F : Fr base L s.heap m) (G : Gd mg mb base) (hp : (x, v) ∈ biPairs) (h : Q v s)
    (hk : env.scope.kind = .function := by rfl) (hx : env.kindOf x = some .globalImplicit := by rfl) (hg : env.globals = mainGlobals := by rfl) (hb : env.builtins = builtinsNs := by rfl)
    (hd : (x == ("__debug__" : Str)) = false := by decide +kernel) : wpAny (model prog w) A (eval (.Name x px) env) Q E s :=
  nameB (G.keeps F.keep) hp h hk hx hg hb hd
end
theorem nmLen : (Str.ofString "len", Value.builtin "len") ∈ biPairs := .head _
theorem nmRange : (Str.ofString "range", Value.type "range") ∈ biPairs := .tail _ (.head _)
theorem nmList : (Str.ofString "list", Value.type "list") ∈ biPairs := .tail _ (.tail _ (.head _))
theorem nmEnum : (Str.ofString "enumerate", Value.type "enumerate") ∈ biPairs := .tail _ (.tail _ (.tail _ (.head _)))
theorem nmChr : (Str.ofString "chr", Value.builtin "chr") ∈ biPairs := .tail _ (.tail _ (.tail _ (.tail _ (.head _))))
theorem nmOrd : (Str.ofString "ord", Value.builtin "ord") ∈ biPairs := .tail _ (.tail _ (.tail _ (.tail _ (.tail _ (.head _)))))
theorem nmIsi : (Str.ofString "isinstance", Value.builtin "isinstance") ∈ biPairs := .tail _ (.tail _ (.tail _ (.tail _ (.tail _ (.tail _ (.head _))))))
theorem nmBool : (Str.ofString "bool", Value.type "bool") ∈ biPairs := .tail _ (.tail _ (.tail _ (.tail _ (.tail _ (.tail _ (.tail _ (.head _)))))))

theorem tupObj_is {h : Heap} {T : Addr} {p : Nat} {t : Tok} {x : Str} {u : Tok} (e : h.get? T = some (tupObj p t x u)) : h.IsTuple T #[.int p t, .str x u] := ⟨_, e, rfl, _, rfl⟩
theorem tupObj_tup {h : Heap} {T : Addr} {p : Nat} {t : Tok} {x : Str} {u : Tok} (e : h.get? T = some (tupObj p t x u)) : IsTup h T #[.int p t, .str x u] := ⟨_, e, rfl, _, rfl⟩

section
variable {prog : Program} {w : World} {A : Around} {E : Value → Shared → Prop} {R : Result → Shared → Prop} {s : Shared} {env : Env}

/-- the loop of a comprehension whose target is a tuple -/
theorem compLoop_pairs {elt iter : Expr} {elts : List Expr} {x1} {tp : Pos} {ifs : List Expr} {scope : Scope} {pos : Pos} {it acc : Value} {env : Env} (I : Nat → Shared → Prop)
    (turn : ∀ n s, I n s → wpAny (model prog w) A (pyNext it) (fun r s₁ => match r with
      | none => R (.ok .next) s₁
      | some v => wpAny (model prog w) A (letOwnedTupleGo (.Tuple elts x1 tp) it v) (fun _ s₁' => wpAny (model prog w) A (assign (.Tuple elts x1 tp) env v) (fun _ s₂ =>
          wpAny (model prog w) A (forIn ifs true fun c r => if r = true then do let ok ← isTrue c env (eval c env); pure (ForInStep.yield ok) else pure (ForInStep.yield r)) (fun ok s₃ =>
            if ok = true then wpAny (model prog w) A (eval elt env) (fun x s₄ =>
              wpAny (model prog w) A (call (.builtin "list.append") [acc, x]) (fun _ s₅ => ∃ m, m < n ∧ I m s₅) (notedBy (model prog w) A env fun e s' => R (.error e) s') s₄) (notedBy (model prog w) A env fun e s' => R (.error e) s') s₃
            else ∃ m, m < n ∧ I m s₃) (notedBy (model prog w) A env fun e s' => R (.error e) s') s₂)
          (notedBy (model prog w) A env fun e s' => R (.error e) s') s₁') (notedBy (model prog w) A env fun e s' => R (.error e) s') s₁) (notedBy (model prog w) A env fun e s' => R (.error e) s') s)
    (n : Nat) (h : I n s) : codeAny (model prog w) A (.compLoop (.ListComp elt [⟨.Tuple elts x1 tp, iter, ifs, 0⟩] scope pos) 0 it acc env) R s := by
  refine codeAny_loop rfl I (fun n s hI => ?_) n h
  show wpAny _ A ((compTurn (.ListComp elt [⟨.Tuple elts x1 tp, iter, ifs, 0⟩] scope pos) 0 it acc env).onRaise (fun x => do noteFrame x env; theTreesLotGoes x)) _ _ s
  refine wpAny_noted ?_
  rw [compTurn_list]
  refine wpAny_bind (wpAny_standAt (wpAny_bind (wpAny_mono (turn n s hI) (fun r s₁ h₁ => ?_) fun _ _ h' => h')))
  cases r with
  | none => exact wpAny_pure h₁
  | some v =>
    refine wpAny_bind (wpAny_mono h₁ (fun _ s₁' h₁' => ?_) fun _ _ h' => h')
    refine wpAny_bind (wpAny_mono h₁' (fun _ s₂ h₂ => wpAny_bind (wpAny_mono h₂ (fun ok s₃ h₃ => ?_) fun _ _ h' => h')) fun _ _ h' => h')
    cases ok with
    | false => exact wpAny_pure ⟨rfl, h₃⟩
    | true => exact wpAny_bind (wpAny_bind (wpAny_mono h₃ (fun x s₄ h₄ => wpAny_bind (wpAny_mono h₄ (fun _ s₅ h₅ => wpAny_pure (wpAny_pure ⟨rfl, h₅⟩)) fun _ _ h' => h')) fun _ _ h' => h'))

/-- a comprehension over a list of pairs, its target two names -/
theorem comp_pairs {elt iter : Expr} {a b : Str} {pa pb tp : Pos} {kk : Nat} {ifs : List Expr} {scope : Scope} {pos : Pos} {Q : Value → Shared → Prop} (p : Nat × Str → Bool) (T : Nat × Str → Value → Prop) (hh : A.handled = none)
    (hfree : ∀ y ∈ scope.names, y.2 ≠ .free) (hcell : ∀ y ∈ scope.names, y.2 ≠ .cell) (hkind : scope.kind = .function)
    (hnames : ∀ y ∈ scope.names, y.2 = .local → scope.names.lookup y.1 = some .local) (ha : scope.names.lookup a = some .local) (hb : scope.names.lookup b = some .local) (hab : a ≠ b)
    (h : wpAny (model prog w) A (eval iter env) (fun xv s₁ => ∃ ax items us, xv = .ref ax ∧ s₁.heap.IsList ax items ∧ TupsAt s₁.heap items.toList us ∧ items.size ≤ sizeLine ∧
      (∀ C q t u s₂ m₂ E', q ∈ us → s₂.heap.Ns C m₂ → m₂ a = some (.int (q.1 : Nat) t) → m₂ b = some (.str q.2 u) → (∀ b o, s₁.heap.get? b = some o → s₂.heap.get? b = some o) →
        wpAny (model prog w) A (forIn ifs true fun c r => if r = true then do let ok ← isTrue c (compEnv scope C env) (eval c (compEnv scope C env)); pure (ForInStep.yield ok) else pure (ForInStep.yield r))
          (fun ok s₃ => ok = p q ∧ Keeps s₂ s₃) E' s₂) ∧
      (∀ C q t u s₂ m₂ E', q ∈ us → p q = true → s₂.heap.Ns C m₂ → m₂ a = some (.int (q.1 : Nat) t) → m₂ b = some (.str q.2 u) → (∀ b o, s₁.heap.get? b = some o → s₂.heap.get? b = some o) →
        wpAny (model prog w) A (eval elt (compEnv scope C env)) (fun y s₃ => T q y ∧ Keeps s₂ s₃) E' s₂) ∧
      (∀ s' D ys, Wd false s₁ s' → (∀ b o, s₁.heap.get? b = some o → s'.heap.get? b = some o) → s₁.heap.get? D = none → s'.heap.PlainList D ys → Paired T (us.filter p) ys.toList → Q (.ref D) s')) E s)
    (hs : ∀ x, foldedSetIterable iter env x = pure x := by intro _; rfl) :
    wpAny (model prog w) A (eval (.ListComp elt [⟨.Tuple [.Name a pa, .Name b pb] kk tp, iter, ifs, 0⟩] scope pos) env) Q E s := by
  refine wpAny_ListComp hfree hkind hnames (wpAny_mono h (fun xv s₁ h₁ => ?_) fun _ _ e => e) hs
  obtain ⟨ax, items, us, rfl, hl, htu, hsz, ht, he, hQ⟩ := h₁
  refine wpAny_pyIter_list hl (wpAny_newObj_type (hd := by size_fits) (wpAny_newFunctionEnv hcell (by intro y hy; simp at hy) (fun h₁ hns₁ hsb₁ => ?_) hkind))
  dsimp only at hns₁ hsb₁ ⊢
  obtain ⟨ol, hol, hol'⟩ := id hl
  have hax : ax < s₁.heap.objs.size := Heap.lt_size hol
  generalize hH1 : s₁.heap.push { cls := .type "list_iterator", data := .fields #[.ref ax, .int 0 0] } = H1 at hns₁ hsb₁ ⊢
  have hD : H1.objs.size = s₁.heap.objs.size + 1 := by rw [← hH1, Heap.size_push]
  generalize hH2 : H1.push { cls := .type "list", dict := none, data := .seq ([] : List Value).toArray } = H2 at hns₁ hsb₁ ⊢
  have hC : H2.objs.size = s₁.heap.objs.size + 2 := by rw [← hH2, Heap.size_push, hD]
  have hDI : H1.objs.size ≠ s₁.heap.objs.size := by rw [hD]; exact Nat.succ_ne_self _
  have hDC : H1.objs.size ≠ H2.objs.size := by rw [hD, hC]; exact Nat.ne_of_lt (Nat.lt_succ_self _)
  have hIC : s₁.heap.objs.size ≠ H2.objs.size := by rw [hC]; exact Nat.ne_of_lt (Nat.lt_succ_of_lt (Nat.lt_succ_self _))
  have below : ∀ b, b < s₁.heap.objs.size → b ≠ H2.objs.size ∧ b ≠ s₁.heap.objs.size ∧ b ≠ H1.objs.size := fun b hb =>
    ⟨by rw [hC]; exact Nat.ne_of_lt (Nat.lt_succ_of_lt (Nat.lt_succ_of_lt hb)), Nat.ne_of_lt hb, by rw [hD]; exact Nat.ne_of_lt (Nat.lt_succ_of_lt hb)⟩
  have old : ∀ b o, s₁.heap.get? b = some o → h₁.get? b = some o := fun b o e =>
    hsb₁.extBut b o (below b (Heap.lt_size e)).1 (Heap.get?_push_of_some _ (hH2 ▸ Heap.get?_push_of_some _ (hH1 ▸ Heap.get?_push_of_some _ e)))
  have hit : h₁.IsListIter s₁.heap.objs.size ax 0 :=
    ⟨_, hsb₁.extBut _ _ hIC (Heap.get?_push_of_some _ (hH2 ▸ Heap.get?_push_of_some _ (hH1 ▸ Heap.get?_push_size _ rfl))), rfl, rfl⟩
  have hacc : h₁.PlainList H1.objs.size #[] := ⟨_, hsb₁.extBut _ _ hDC (Heap.get?_push_of_some _ (hH2 ▸ Heap.get?_push_size _ rfl))⟩
  have hnew : s₁.heap.get? H1.objs.size = none := by
    cases e : s₁.heap.get? H1.objs.size with
    | none => rfl
    | some o' => have := Heap.lt_size e; rw [hD] at this; exact absurd this (Nat.not_lt.mpr (Nat.le_succ _))
  have hlen : items.size = us.length := by have := htu.length; simpa using this
  have loop : ∀ s₂ : Shared, s₂ = { s₁ with heap := h₁, toks := s₁.toks + ([] : List (Str × Value)).length } →
      codeAny (model prog w) A (.compLoop (.ListComp elt [⟨.Tuple [.Name a pa, .Name b pb] kk tp, iter, ifs, 0⟩] scope pos) 0 (.ref s₁.heap.objs.size) (.ref H1.objs.size) (compEnv scope H2.objs.size env))
        (fun r s' => ∃ m, s'.heap.Ns H2.objs.size m ∧ ∀ h', Heap.SameBut H2.objs.size s'.heap h' →
          match r with | .ok _ => Q (.ref H1.objs.size) { s' with heap := h' } | .error x => wpAny (model prog w) A (passOn "comprehension.variables-let-go" x (compEnv scope H2.objs.size env)) Q E { s' with heap := h' }) s₂ := by
    rintro s₂ rfl
    refine compLoop_pairs
      (fun k s' => ∃ h' tk m' ys i, s' = { s₁ with heap := h', toks := tk } ∧ h'.IsListIter s₁.heap.objs.size ax i ∧ h'.PlainList H1.objs.size ys ∧ h'.Ns H2.objs.size m' ∧
        Paired T ((us.take i).filter p) ys.toList ∧ i ≤ us.length ∧ k = us.length + 1 - i ∧ ∀ b o, s₁.heap.get? b = some o → h'.get? b = some o) ?_ (us.length + 1)
      ⟨h₁, _, _, #[], 0, rfl, hit, hacc, hns₁, by simpa using Paired.nil, Nat.zero_le _, rfl, old⟩
    rintro k s' ⟨H, tk, m', ys, i, rfl, hit', hacc', hn', hF, hi, rfl, hk⟩
    have hl' : H.IsList ax items := hl.at fun o e => hk _ o e
    by_cases hlt : i < us.length
    · obtain ⟨T₀, t₀, u₀, hv₀, hg₀⟩ := htu.get (j := i) (q := us[i]) (by simp [hlt])
      have hv : items[i]? = some (.ref T₀) := by simpa using hv₀
      refine wpAny_pyNext_list_item hit' hl' hv fun h₂ hit₂ hs₂ => ?_
      have up₂ : ∀ b o, s₁.heap.get? b = some o → h₂.get? b = some o := fun b o e => hs₂.extBut b o (below b (Heap.lt_size e)).2.1 (hk b o e)
      refine wpAny_letOwnedTupleGo_listiter hit₂ ?_
      refine kcp_assign (env := compEnv scope H2.objs.size env) hh (tupObj_is (up₂ _ _ hg₀)) ha hb (by simp [compEnv, hkind]) (hn'.sameBut hs₂ (Ne.symm hIC)) fun h₃ tk₃ hn₃ hk₃ => ?_
      have up₃ : ∀ b o, s₁.heap.get? b = some o → h₃.get? b = some o := fun b o e => hk₃ b o (below b (Heap.lt_size e)).1 (up₂ b o e)
      have hq : us[i] ∈ us := List.getElem_mem hlt
      have hma : (fun z => if z = b then some (Value.str us[i].2 u₀) else if z = a then some (Value.int (us[i].1 : Nat) t₀) else m' z) a = some (Value.int (us[i].1 : Nat) t₀) := by simp [hab]
      have hmb : (fun z => if z = b then some (Value.str us[i].2 u₀) else if z = a then some (Value.int (us[i].1 : Nat) t₀) else m' z) b = some (Value.str us[i].2 u₀) := by simp
      refine wpAny_mono (ht _ us[i] t₀ u₀ _ _ _ hq hn₃ hma hmb up₃) (fun ok s₄ h₄ => ?_) fun _ _ e => e
      obtain ⟨rfl, h₄, tk₄, rfl, hk₄⟩ := h₄
      have hit₄ : h₄.IsListIter s₁.heap.objs.size ax (i + 1) := (hit₂.at fun o e => hk₃ _ o hIC e).at fun o e => hk₄ _ o e
      have hacc₄ : h₄.PlainList H1.objs.size ys := hacc'.at fun o e => hk₄ _ o (hk₃ _ o hDC (hs₂.extBut _ o hDI e))
      have hn₄ := hn₃.keeps hk₄
      have htk : us.take (i + 1) = us.take i ++ [us[i]] := by simp
      cases hpv : p us[i] with
      | false =>
        simp only [Bool.false_eq_true, if_false]
        refine ⟨us.length + 1 - (i + 1), by omega, h₄, tk₄, _, ys, i + 1, rfl, hit₄, hacc₄, hn₄, ?_, hlt, rfl, fun b o e => hk₄ b o (up₃ b o e)⟩
        rw [htk, List.filter_append]; simpa [hpv] using hF
      | true =>
        simp only [if_true]
        refine wpAny_mono (he _ us[i] t₀ u₀ _ _ _ hq hpv hn₄ hma hmb fun b o e => hk₄ b o (up₃ b o e)) (fun y s₅ h₅ => ?_) fun _ _ e => e
        obtain ⟨hTy, h₅, tk₅, rfl, hk₅⟩ := h₅
        have hys : ys.size ≤ sizeLine := by
          have e1 := hF.length
          have e2 : ((us.take i).filter p).length ≤ (us.take i).length := List.length_filter_le _ _
          have e3 : (us.take i).length ≤ us.length := by rw [List.length_take]; omega
          have e4 : ys.toList.length = ys.size := by simp
          omega
        refine wpAny_list_append_plain (hsz := hys) (hacc₄.at fun o e => hk₅ _ o e) fun h₆ hl₆ hs₆ => ?_
        refine ⟨us.length + 1 - (i + 1), by omega, h₆, tk₅, _, ys.push y, i + 1, rfl, (hit₄.at fun o e => hk₅ _ o e).extBut hs₆.extBut (Ne.symm hDI), hl₆,
          (hn₄.keeps hk₅).sameBut hs₆ (Ne.symm hDC), ?_, hlt, rfl, fun b o e => hs₆.extBut b o (below b (Heap.lt_size e)).2.2 (hk₅ b o (hk₄ b o (up₃ b o e)))⟩
        rw [htk, List.filter_append]
        simpa [hpv] using Paired.snoc hF hTy
    · have hin : i = us.length := by omega
      subst hin
      refine wpAny_pyNext_list_end hh hit' hl' (by simp [hlen]) fun h₂ he₂ => ?_
      refine ⟨m', hn'.extBut he₂ (Ne.symm hIC), fun h'' hs'' => ?_⟩
      rw [List.take_length] at hF
      refine hQ _ H1.objs.size ys Wd.refl.upd (fun b o e => hs''.extBut b o (below b (Heap.lt_size e)).1 (he₂ b o (below b (Heap.lt_size e)).2.1 (hk b o e))) hnew ((hacc'.at fun o e => he₂ _ o hDI e).at fun o e => hs''.extBut _ o hDC e) hF
  exact codeAny_compStart_list (loop _ rfl) (wpAny_pyIter_listiter hit (loop _ rfl))
end

theorem Wd.step {g : Bool} {s₀ s s1 s' : Shared} (x : Wd g s₀ s) (y : Wd false s1 s') (e1 : s1.os = s.os) (e2 : s1.drawn = s.drawn) (e3 : s1.gens = s.gens) : Wd g s₀ s' := (x.like e1 e2 e3).trans y.up
theorem news_one {base h₀ h : Heap} {L D : Addr} {m : Str → Option Value} {o : Obj} (F : Fr base L h₀ m) (hnew : h₀.get? D = none) (e : h.get? D = some o) : News base L h [(D, o)] := fun p hp => by
  rw [List.mem_singleton.mp hp]
  refine ⟨e, fun q => ?_, ?_⟩
  · obtain ⟨oL, _, _, hL, _⟩ := F.ns
    rw [show D = L from q, hL] at hnew; cases hnew
  · cases hq : base.get? D with
    | none => rfl
    | some o' => rw [F.keep _ _ hq] at hnew; cases hnew

def strIs (k : Str) : Value → Bool
  | .str x _ => x == k
  | _ => false
theorem strIs_count (k : Str) : ∀ {vs : List Value} {ys : List Str}, StrsAre vs ys → vs.countP (strIs k) = ys.count k
  | _, _, .nil => rfl
  | _, _, .cons y t h => by
    rw [List.countP_cons, List.count_cons, strIs_count k h]
    rfl
theorem strIs_any (k : Str) : ∀ {vs : List Value} {ys : List Str}, StrsAre vs ys → vs.any (strIs k) = decide (k ∈ ys)
  | _, _, .nil => by simp
  | _, _, .cons y t h => by
    rw [List.any_cons, strIs_any k h]
    show (y == k || _) = _
    by_cases e : y = k
    · subst e; simp
    · have : ¬ k = y := fun q => e q.symm
      simp [e, this]
theorem strsAre_nth {vs : List Value} {ys : List Str} (h : StrsAre vs ys) {j : Nat} (hj : j < vs.length) : ∃ y t, vs[j] = .str y t ∧ ys[j]? = some y := by
  obtain ⟨y, t, e, e'⟩ := StrsAre.item h j vs[j] (by simp [hj])
  exact ⟨y, t, e, e'⟩

section
variable {prog : Program} {w : World} {A : Around} {E : Value → Shared → Prop} {s : Shared} {Q : Value → Shared → Prop} {l : Addr} {vs : List Value} {ys : List Str} {k : Str} {t : Tok}
theorem strs_eqAt (hi : StrsAre vs ys) : ∀ y, y ∈ vs.toArray → SeqAt.EqAt A s y (.str k t) (strIs k y) := fun y hy => by
  have hy' : y ∈ vs := by simpa using hy
  obtain ⟨j, hj⟩ := List.getElem?_of_mem hy'
  obtain ⟨x, u, rfl, _⟩ := StrsAre.item hi j y hj
  exact SeqAt.EqAt.str_str x u k t
theorem countStrs (hl : s.heap.IsList l vs.toArray) (hi : StrsAre vs ys) (h : Q (.int (ys.count k : Nat) s.toks) { s with toks := s.toks + 1 }) :
    wpAny (model prog w) A (call (.builtin "list.count") [.ref l, .str k t]) Q E s := by
  obtain ⟨⟨cls, dd, data, sl⟩, ho, hc, n, hd⟩ := id hl
  simp only at hc hd
  subst hc hd
  refine call_meets PySem.F.slot_list_count ⟨_, ho, rfl⟩ PySem.F.entry_list_count (PySem.F.args_list_count_2 _ _) (SeqAt.list_countAt l vs.toArray n dd sl (.str k t) (strIs k)) ⟨ho, strs_eqAt hi, ?_⟩
  rw [show vs.toArray.toList = vs from rfl, strIs_count k hi]
  exact h
theorem inStrs (hl : s.heap.IsList l vs.toArray) (hi : StrsAre vs ys) (h : Q (.bool (decide (k ∈ ys))) s) : wpAny (model prog w) A (compareOp .In (.str k t) (.ref l)) Q E s := by
  refine SeqAt.in_listAt (strIs k) hl (strs_eqAt hi) ?_
  rw [show vs.toArray.any (strIs k) = vs.any (strIs k) from by simp, strIs_any k hi]
  exact h
theorem indexStrs (hl : s.heap.IsList l vs.toArray) (hi : StrsAre vs ys) (hk : k ∈ ys) (hn : vs.length < 2 ^ 24) (h : Q (.int (ys.idxOf k : Nat) s.toks) { s with toks := s.toks + 1 }) :
    wpAny (model prog w) A (call (.builtin "list.index") [.ref l, .str k t]) Q E s := by
  obtain ⟨⟨cls, dd, data, sl⟩, ho, hc, n, hd⟩ := id hl
  simp only at hc hd
  subst hc hd
  have hlen := StrsAre.length hi
  have hlt : ys.idxOf k < ys.length := List.idxOf_lt_length_of_mem hk
  have e2 : (2 : Nat) ^ 24 = 16777216 := by decide
  have hj : ys.idxOf k < vs.toArray.size := by rw [List.size_toArray]; omega
  refine call_meets PySem.F.slot_list_index ⟨_, ho, rfl⟩ PySem.F.entry_list_index (PySem.F.args_list_index_2 _ _)
    (SeqAt.list_indexAt l vs.toArray n dd sl (.str k t) (strIs k) (ys.idxOf k) hj (by omega) ?_ ?_) ⟨ho, strs_eqAt hi, h⟩
  · obtain ⟨y, u, e, e'⟩ := strsAre_nth hi (j := ys.idxOf k) (by omega)
    have : y = k := by
      have h1 : ys[ys.idxOf k]? = some k := by
        rw [List.getElem?_eq_getElem hlt, List.getElem_idxOf hlt]
      rw [h1] at e'; cases e'; rfl
    show strIs k vs.toArray[ys.idxOf k] = true
    rw [List.getElem_toArray, e, this]
    simp [strIs]
  · intro m hm hlt'
    have hm' : m < vs.length := by simpa using hm
    obtain ⟨y, u, e, e'⟩ := strsAre_nth hi (j := m) hm'
    rw [List.getElem_toArray, e]
    show (y == k) = false
    have hmy : m < ys.length := by omega
    have hne := List.not_of_lt_findIdx (xs := ys) (p := (· == k)) hlt'
    rw [List.getElem?_eq_getElem hmy] at e'
    cases e'
    simpa using hne
end

section
variable {prog : Program} {w : World} {A : Around} {E : Value → Shared → Prop} {s : Shared} {Q : Value → Shared → Prop} {value slice : Expr}
/-- a slice of a list, the slice object made -/
theorem sliceTail {l sl : Addr} {items : Array Value} {vl vu vs : Value} {lo hi st : Option Int} (hl : s.heap.IsList l items) (hs : s.heap.IsSliceOf sl vl vu vs) (pl : IsPart vl lo) (pu : IsPart vu hi) (ps : IsPart vs st) (h0 : st ≠ some 0)
    (h : ∀ s' D, Wd false s s' → (∀ b o, s.heap.get? b = some o → s'.heap.get? b = some o) → s.heap.get? D = none → s'.heap.PlainList D (slicePick items lo hi st) → Q (.ref D) s')
    (hsz : items.size ≤ sizeLine) {ops : List Value}
    (he : subscripted slice false (.ref l) (.ref sl) = operate ops (getItem (.ref l) (.ref sl))) :
    wpAny (model prog w) A (subscriptTail value slice (.ref l) (.ref sl)) Q E s := by
  refine tail_any hl.typeIs slot_list_getitem.lookup (wpAny_getItem_list_slice hl hs pl pu ps h0 ?_ hsz) he
  refine h _ _ Wd.refl.upd (fun b o e => Heap.get?_push_of_some _ e) ?_ ⟨_, Heap.get?_push_size _ rfl⟩
  cases e : s.heap.get? s.heap.objs.size with
  | none => rfl
  | some o => exact absurd (Heap.lt_size e) (Nat.lt_irrefl _)
/-- the slice object -/
theorem sliceW {M : Model} {env : Env} {lower upper step : Option Expr} {p : Pos}
    (h : wpAny M A (evalPart lower env) (fun l s₁ => wpAny M A (evalPart upper env) (fun u s₂ => wpAny M A (evalPart step env) (fun st s₃ =>
      ∀ s' sl, Wd false s₃ s' → (∀ b o, s₃.heap.get? b = some o → s'.heap.get? b = some o) → s'.heap.IsSliceOf sl l u st → Q (.ref sl) s') E s₂) E s₁) E s) :
    wpAny M A (eval (.Slice lower upper step p) env) Q E s :=
  wpAny_Slice (wpAny_mono h (fun _ _ h₁ => wpAny_mono h₁ (fun _ _ h₂ => wpAny_mono h₂ (fun _ _ h₃ => h₃ _ _ Wd.refl.upd (fun _ _ e => Heap.get?_push_of_some _ e) (Heap.IsSliceOf.new ..)) fun _ _ e => e) fun _ _ e => e) fun _ _ e => e)
theorem part_none {M : Model} {env : Env} {Q : Value → Shared → Prop} (h : Q .none s) : wpAny M A (evalPart none env) Q E s := by rw [evalPart_none]; exact wpAny_pure h
theorem part_some {M : Model} {env : Env} {e : Expr} {Q : Value → Shared → Prop} (h : wpAny M A (eval e env) Q E s) : wpAny M A (evalPart (some e) env) Q E s := by rw [evalPart_some]; exact h
end
theorem TupsAt.take {h : Heap} : ∀ {vs : List Value} {us : List (Nat × Str)}, TupsAt h vs us → ∀ n, TupsAt h (vs.take n) (us.take n)
  | _, _, .nil, n => by simp; exact .nil
  | _, _, .cons e r, 0 => .nil
  | _, _, .cons e r, n + 1 => .cons e (r.take n)
theorem StrsAre.reverse' : ∀ {vs : List Value} {ss : List Str}, StrsAre vs ss → StrsAre vs.reverse ss.reverse
  | _, _, .nil => .nil
  | _, _, .cons y t h => by
    rw [List.reverse_cons, List.reverse_cons]
    exact (StrsAre.reverse' h).append' (.cons _ _ .nil)
theorem strs_of_pairs : ∀ {us : List (Nat × Str)} {ys : List Value}, Paired (fun (q : Nat × Str) y => ∃ u, y = .str q.2 u) us ys → StrsAre ys (us.map (·.2))
  | _, _, .nil => .nil
  | _, _, .cons h r => by
    obtain ⟨u, rfl⟩ := h
    exact .cons _ _ (strs_of_pairs r)

/-! slices of texts -/
theorem slice_indices (l u : Option Int) (n : Nat) : Builtin.Str.strSliceIndices l u 1 n = sliceRange ((l.elim 0 (clipAt n) : Nat) : Int) ((u.elim n (clipAt n) : Nat) : Int) 1 := by
  unfold Builtin.Str.strSliceIndices
  simp only [show (1 : Int) > 0 by decide, if_true]
  cases l <;> cases u <;> simp [clipAt_cast]
theorem clip_le (n : Nat) (i : Int) : clipAt n i ≤ n := by
  have := clipAt_cast n i
  omega
theorem slice_list (x : Str) (l u : Option Int) : (Txt.slice x l u).cps.toList = (x.cps.toList.drop (l.elim 0 (clipAt x.length))).take ((u.elim x.length (clipAt x.length)) - (l.elim 0 (clipAt x.length))) := by
  have e : (Builtin.Str.strSliceIndices l u 1 x.length).filterMap (x.cps[·]?) = (x.cps.toList.drop (l.elim 0 (clipAt x.length))).take ((u.elim x.length (clipAt x.length)) - (l.elim 0 (clipAt x.length))) := by
    rw [slice_indices, sliceRange_one]
    exact pick_run x.cps _ _
  unfold Txt.slice
  split
  · rename_i h
    have h2 : (Builtin.Str.strSliceIndices l u 1 x.length).length = x.length := by simpa using h
    rw [slice_indices, sliceRange_one, List.length_map, List.length_range] at h2
    have hu : u.elim x.length (clipAt x.length) ≤ x.length := by
      cases u with
      | none => exact Nat.le_refl _
      | some i => exact clip_le _ _
    have hx : x.length = x.cps.toList.length := by simp [Str.length]
    by_cases h0 : x.length = 0
    · have : x.cps.toList = [] := List.eq_nil_of_length_eq_zero (by omega)
      rw [this]; simp
    · have h3 : l.elim 0 (clipAt x.length) = 0 := by omega
      rw [h3, List.drop_zero, List.take_of_length_le (by omega)]
  · rw [← e]

section
variable {prog : Program} {w : World} {A : Around} {E : Value → Shared → Prop} {s : Shared} {Q : Value → Shared → Prop} {value slice : Expr}
theorem strSliceTail {x : Str} {t : Tok} {sl : Addr} {l u : Option (Int × Tok)} (hs : s.heap.IsSlice sl l u none) (hsz : x.length ≤ sizeLine)
    (h : ∀ t' k, Q (.str (Txt.slice x (l.map (·.1)) (u.map (·.1))) t') { s with toks := k }) {ops : List Value}
    (he : subscripted slice false (.str x t) (.ref sl) = operate ops (getItem (.str x t) (.ref sl))) : wpAny (model prog w) A (subscriptTail value slice (.str x t) (.ref sl)) Q E s :=
  tail_any (typeIs_str _ _ _) PySem.F.slot_str_getitem.lookup (wpAny_getItem_str_slice hs rfl (post_val_or_str ⟨Nat.le_trans (Txt.slice_le x _ _) hsz, fun t' k => h t' k⟩)) he
/-- x[-1] of a text -/
theorem itemStrLast {x : Str} {t u : Tok} {c : Nat} (hc : x.cps[x.cps.size - 1]? = some c) (hj : x.length ≤ 1000) (h : Q (.str ⟨#[c]⟩ s.toks) { s with toks := s.toks + 1 })
    (hs : subscripted slice false (.str x t) (.int (-1) u) = operate [.str x t, .int (-1) u] (getItem (.str x t) (.int (-1) u)) := by with_unfolding_all rfl) :
    wpAny (model prog w) A (subscriptTail value slice (.str x t) (.int (-1) u)) Q E s := by
  have hl : x.cps.size - 1 < x.cps.size := (Array.getElem?_eq_some_iff.mp hc).1
  have hl' : x.cps.size ≤ 1000 := hj
  exact tail_any (typeIs_str _ _ _) PySem.F.slot_str_getitem.lookup (PySem.P.getItem_str (by decide) (by rw [show x.length = x.cps.size from rfl, seqIxLast (by omega)]; exact hc) h) hs
/-- xs[-1] of a list -/
theorem itemListLast {l : Addr} {init : List Value} {x : Value} {u : Tok} (hl : s.heap.IsList l (init ++ [x]).toArray) (h : Q x s)
    (hs : subscripted slice false (.ref l) (.int (-1) u) = operate [.ref l, .int (-1) u] (getItem (.ref l) (.int (-1) u)) := by with_unfolding_all rfl) :
    wpAny (model prog w) A (subscriptTail value slice (.ref l) (.int (-1) u)) Q E s := by
  have hz : (init ++ [x]).toArray.size = init.length + 1 := by simp
  refine tail_any hl.typeIs slot_list_getitem.lookup (wpAny_getItem_list_neg hl (by decide) (by rw [hz]; omega) (by decide) ?_ h) hs
  rw [hz, show ((-1 : Int) + ((init.length + 1 : Nat) : Int)).toNat = init.length by omega]
  simp
theorem inTup2 {a : Addr} {x y z : Str} {t u v : Tok} (ht : s.heap.IsTuple a #[.str y u, .str z v]) (h : Q (.bool (y == x || z == x)) s) : wpAny (model prog w) A (compareOp .In (.str x t) (.ref a)) Q E s := by
  refine SeqAt.in_tupleAt (strIs x) ht (fun w hw => ?_) ?_
  · have : w = .str y u ∨ w = .str z v := by simpa using hw
    rcases this with rfl | rfl
    · exact SeqAt.EqAt.str_str _ _ _ _
    · exact SeqAt.EqAt.str_str _ _ _ _
  · rw [show (#[Value.str y u, Value.str z v].any (strIs x)) = (y == x || z == x) from by simp [strIs]]
    exact h
end

section
variable {prog : Program} {w : World} {A : Around} {E : Value → Shared → Prop} {s s₀ : Shared} {g : Bool} {L : Addr} {base : Heap} {m : Str → Option Value}
theorem setLastW {D : Addr} {init : List Value} {x v : Value} {t : Tok} {n : Nat} {rest : List (Addr × Obj)} {Q : Unit → Shared → Prop} (F : Fr base L s.heap m) (N : News base L s.heap ((D, { cls := .type "list", data := .seq (init ++ [x]).toArray n }) :: rest))
    (hap : ∀ p ∈ rest, p.1 ≠ D) (X : Wd g s₀ s)
    (h : ∀ s', Fr base L s'.heap m → News base L s'.heap ((D, { cls := .type "list", data := .seq (init ++ [v]).toArray n }) :: rest) → Wd g s₀ s' → Q () s') :
    wpAny (model prog w) A (setItem (.ref D) (.int (-1) t) v) Q E s := by
  have z := N _ (.head _)
  have hz : (init ++ [x]).toArray.size = init.length + 1 := by simp
  refine ki_setBack (n := n) z.1 (by decide) (by rw [hz]; omega) (by decide) ?_
  rw [hz, show ((-1 : Int) + ((init.length + 1 : Nat) : Int)).toNat = init.length by omega]
  have e : Obj.mapSeq (·.setIfInBounds init.length v) { cls := .type "list", data := .seq (init ++ [x]).toArray n } = { cls := .type "list", data := .seq (init ++ [v]).toArray n } := by
    unfold Obj.mapSeq
    have e1 : (init ++ [x]).toArray.setIfInBounds init.length v = (init ++ [v]).toArray := by
      apply Array.toList_inj.mp; simp
    simp only [e1]
    simp
  have hs : Heap.SameBut D s.heap (s.heap.update D (Obj.mapSeq (·.setIfInBounds init.length v))) := Heap.SameBut.update ..
  refine h _ (F.change hs z.2.1 z.2.2) (fun p hp => ?_) X.upd
  rcases List.mem_cons.mp hp with rfl | hp
  · exact ⟨(Heap.get?_update_self _ z.1 (by rw [e]; rfl)).trans (congrArg some e), z.2⟩
  · have q := N p (.tail _ hp)
    exact ⟨(hs.2 _ (hap p hp)).trans q.1, q.2⟩
end

local macro_rules | `(tactic| walk_at "go") => `(tactic| first
  | (with_reducible refine wpAny_execs_nil ?_)
  | (with_reducible refine wpAny_execs_cons ?_)
  | (with_reducible refine wpAny_If ?_)
  | (with_reducible refine wpAny_Continue ?_)
  | (with_reducible refine wpAny_Return_some ?_)
  | ((with_reducible show wpAny _ _ (exec (Stmt.Assign [Expr.Name _ _] _ _) _) _ _ _); refine wpAny_Assign_Name ?_)
  | ((with_reducible show wpAny _ _ (exec (Stmt.AugAssign (Expr.Name _ _) _ _ _) _) _ _ _); refine wpAny_AugAssign_Name ?_)
  | ((with_reducible show wpAny _ _ (exec (Stmt.Expr _ _) _) _ _ _); refine wpAny_Expr ?_)
  | ((with_reducible show wpAny _ _ (storeName _ _ _) _ _ _); refine stW (by assumption) (by assumption) (by first | assumption | (refine Wd.like (by assumption) ?_ ?_ ?_ <;> rfl)) ?_; intro s' F' N' X')
  | ((with_reducible show wpAny _ _ (loadName _ _) _ _ _); refine ldn (by assumption) (by rfl) ?_)
  | ((with_reducible show wpAny _ _ (eval (Expr.Name (Str.ofString "len") _) _) _ _ _); refine nameBF (by assumption) (by assumption) nmLen ?_)
  | ((with_reducible show wpAny _ _ (eval (Expr.Name (Str.ofString "range") _) _) _ _ _); refine nameBF (by assumption) (by assumption) nmRange ?_)
  | ((with_reducible show wpAny _ _ (eval (Expr.Name (Str.ofString "list") _) _) _ _ _); refine nameBF (by assumption) (by assumption) nmList ?_)
  | ((with_reducible show wpAny _ _ (eval (Expr.Name (Str.ofString "enumerate") _) _) _ _ _); refine nameBF (by assumption) (by assumption) nmEnum ?_)
  | ((with_reducible show wpAny _ _ (eval (Expr.Name (Str.ofString "chr") _) _) _ _ _); refine nameBF (by assumption) (by assumption) nmChr ?_)
  | ((with_reducible show wpAny _ _ (eval (Expr.Name (Str.ofString "ord") _) _) _ _ _); refine nameBF (by assumption) (by assumption) nmOrd ?_)
  | ((with_reducible show wpAny _ _ (eval (Expr.Name (Str.ofString "isinstance") _) _) _ _ _); refine nameBF (by assumption) (by assumption) nmIsi ?_)
  | ((with_reducible show wpAny _ _ (eval (Expr.Name (Str.ofString "bool") _) _) _ _ _); refine nameBF (by assumption) (by assumption) nmBool ?_)
  | ((with_reducible show wpAny _ _ (eval (Expr.Name _ _) _) _ _ _); refine ld (by assumption) (by rfl) ?_)
  | ((with_reducible show wpAny _ _ (exec (Stmt.Assign [Expr.Name _ _, Expr.Name _ _] _ _) _) _ _ _); refine wpAny_Assign_two ?_)
  | ((with_reducible show wpAny _ _ (assign (Expr.Name _ _) _ _) _ _ _); refine wpAny_assign_Name ?_)
  | ((with_reducible show wpAny _ _ (eval (Expr.List _ _) _) _ _ _); refine List_ ?_)
  | ((with_reducible show wpAny _ _ (newList _) _ _ _); refine newListW (by assumption) (by assumption) (by first | assumption | (refine Wd.like (by assumption) ?_ ?_ ?_ <;> rfl)) ?_ ?hsz; rotate_left; (size_fits); intro s' D' F' N' X' lt' new')
  | ((with_reducible show wpAny _ _ (truthy (Value.str _ _)) _ _ _); refine SBL.truthy (by omega) ?_)
  | (with_reducible refine Calls.Constant_str ?_)
  | (with_reducible refine wpAny_Constant_int ?_)
  | (with_reducible refine Constant_bool ?_)
  | (with_reducible refine Constant_none ?_)
  | ((with_reducible show wpAny _ _ (isTrue (Expr.Compare _ [_] [_] _) _ _) _ _ _); refine wpAny_isTrue_Compare1 ?_)
  | ((with_reducible show wpAny _ _ (isTrue (Expr.Name _ _) _ _) _ _ _); refine isTrue_plain ?_)
  | ((with_reducible show wpAny _ _ (eval (Expr.Compare _ [_] [_] _) _) _ _ _); refine wpAny_Compare1 ?_)
  | (with_reducible refine wpAny_truthy_bool ?_)
  | (with_reducible refine PyProof.Rows.eq_str ?_)
  | (with_reducible refine PyProof.Rows.ne_str ?_)
  | ((with_reducible show wpAny _ _ (inplaceOp Operator.Add (Value.str _ _) (Value.str _ _)) _ _ _); (refine SB.iadd (hsz := ?hsz) ?_); (case hsz => size_fits); intro t' k')
  | ((with_reducible show wpAny _ _ (binaryOp Operator.Add (Value.str _ _) (Value.str _ _)) _ _ _); (refine SB.add (hsz := ?hsz) ?_); (case hsz => size_fits); intro t' k')
  | ((with_reducible show wpAny _ _ (eval (Expr.Call (Expr.Attribute _ _ _) _ _ _) _) _ _ _); refine MethodCall_ ?_)
  | ((with_reducible show wpAny _ _ (eval (Expr.Call (Expr.Name _ _) _ _ _) _) _ _ _); refine Call_ ?_)
  | ((with_reducible show wpAny _ _ (callWith _ (Value.builtin _) _ (backTo _ (starEach [] _)) _) _ _ _); refine callWith_method0 ?_)
  | ((with_reducible show wpAny _ _ (callWith _ (Value.builtin _) _ _ _) _ _ _); first | refine PyProof.Rows.callWith_builtin1 ?_ | refine PyProof.Rows.callWith_method1 ?_)
  | ((with_reducible show wpAny _ _ (spliced (backTo _ (starEach [] _))) _ _ _); refine args_nil ?_)
  | ((with_reducible show wpAny _ _ (spliced (backTo _ (starEach (_ :: _) _))) _ _ _); refine args_cons ?_)
  | ((with_reducible show wpAny _ _ (getMethod (Value.ref _) (Str.ofString "count") _) _ _ _); refine getMethod_list_of PySem.F.slot_list_count PySem.F.type_list_count (by assumption) (by assumption) ?_)
  | ((with_reducible show wpAny _ _ (getMethod (Value.ref _) (Str.ofString "index") _) _ _ _); refine getMethod_list_of PySem.F.slot_list_index PySem.F.type_list_index (by assumption) (by assumption) ?_)
  | ((with_reducible show wpAny _ _ (getMethod (Value.ref _) (Str.ofString "append") _) _ _ _); refine getMethod_append_N (by assumption) (List.Mem.head _) ?_)
  | ((with_reducible show wpAny _ _ (call (Value.builtin "list.append") _) _ _ _); refine appW (by assumption) (by assumption) (by assumption) (by first | assumption | (refine Wd.like (by assumption) ?_ ?_ ?_ <;> rfl)) ?_ ?hsz; rotate_left; (size_fits); intro s' F' N' X')
  | ((with_reducible show wpAny _ _ (call (Value.builtin "list.append") _) _ _ _); refine appW2 (by assumption) (by assumption) (by assumption) (by assumption) (by first | assumption | (refine Wd.like (by assumption) ?_ ?_ ?_ <;> rfl)) ?_ ?hsz; rotate_left; (size_fits); intro s' F' N' X')
  | ((with_reducible show wpAny _ _ (eval (Expr.Tuple _ _ _) _) _ _ _); refine Tuple_ ?_)
  | ((with_reducible show wpAny _ _ (newTuple _) _ _ _); refine newTupleW (by assumption) (by assumption) (by first | assumption | (refine Wd.like (by assumption) ?_ ?_ ?_ <;> rfl)) ?_ ?hsz; rotate_left; (size_fits); intro s' D' F' N' X' lt' new')
  | ((with_reducible show wpAny _ _ (eval (Expr.BinOp _ _ _ _) _) _ _ _); refine wpAny_BinOp ?_)
  | ((with_reducible show wpAny _ _ (eval (Expr.UnaryOp _ _ _) _) _ _ _); refine UnaryOp_ ?_)
  | ((with_reducible show wpAny _ _ (unaryOp UnaryOp.USub (Value.int _ _)) _ _ _); refine P.neg_int ?_)
  | ((with_reducible show wpAny _ _ (eval (Expr.IfExp _ _ _ _) _) _ _ _); refine IfExp_ ?_)
  | ((with_reducible show wpAny _ _ (eval (Expr.Subscript _ _ _) _) _ _ _); refine Subscript_ ?_)
  | ((with_reducible show wpAny _ _ (binaryOp Operator.Mod (Value.int _ _) (Value.int _ _)) _ _ _); refine mod_int' (by decide) ?_)
  | ((with_reducible show wpAny _ _ (binaryOp Operator.Add (Value.int _ _) (Value.int _ _)) _ _ _); refine P.add_int ?_)
  | ((with_reducible show wpAny _ _ (binaryOp Operator.FloorDiv (Value.int _ _) (Value.int _ _)) _ _ _); refine floordiv_int (by decide) ?_)
  | ((with_reducible show wpAny _ _ (call (Value.builtin "chr") _) _ _ _); refine chr_of_range (by omega) (by omega) ?_)
  | ((with_reducible show wpAny _ _ (binaryOp Operator.Sub (Value.int _ _) (Value.int _ _)) _ _ _); refine P.sub_int ?_)
  | ((with_reducible show wpAny _ _ (compareOp CmpOp.Eq (Value.int _ _) (Value.int _ _)) _ _ _); refine P.eq_int ?_)
  | ((with_reducible show wpAny _ _ (compareOp CmpOp.Lt (Value.int _ _) (Value.int _ _)) _ _ _); refine P.lt_int ?_)
  | ((with_reducible show wpAny _ _ (compareOp CmpOp.NotEq (Value.int _ _) (Value.int _ _)) _ _ _); refine P.ne_int ?_)
  | ((with_reducible show wpAny _ _ (subscriptTail _ _ (Value.str _ _) (Value.int (Nat.cast _) _)) _ _ _); refine itemStr (by assumption) (by omega) ?_)
  | ((with_reducible show wpAny _ _ (call (Value.builtin "len") _) _ _ _); refine P.len_str (by omega) ?_)
  | ((with_reducible show wpAny _ _ (call (Value.type "range") _) _ _ _); refine rangeW (by assumption) (by assumption) (by first | assumption | (refine Wd.like (by assumption) ?_ ?_ ?_ <;> rfl)) ?_; intro s' r' t' u' v' R' F' N' X')
  | ((with_reducible show wpAny _ _ (callWith _ (Value.type _) _ _ _) _ _ _); refine PySem.Pv.callWith_type1 ?_)
  | ((with_reducible show wpAny _ _ (exec (Stmt.Assign [Expr.Subscript _ _ _] _ _) _) _ _ _); refine wpAny_Assign_Subscript ?_)
  | ((with_reducible show wpAny _ _ (subscriptTail _ _ (Value.ref _) (Value.int (-1) _)) _ _ _); refine itemListLast (by assumption) ?_)
  | ((with_reducible show wpAny _ _ (subscriptTail _ _ (Value.str _ _) (Value.int (-1) _)) _ _ _); refine itemStrLast (by assumption) (by omega) ?_)
  | ((with_reducible show wpAny _ _ (setItem (Value.ref _) (Value.int (-1) _) _) _ _ _); refine setLastW (by assumption) (by assumption) (by assumption) (by first | assumption | (refine Wd.like (by assumption) ?_ ?_ ?_ <;> rfl)) ?_; intro s' F' N' X')
  | ((with_reducible show if _ then _ else _); split)
  | fail "go: no step")

/-! ## parse_http_list -/
structure PSt where
  res : List Str
  part : Str
  esc : Bool
  quo : Bool
def pstep (σ : PSt) (c : Nat) : PSt :=
  if σ.esc then { σ with part := σ.part ++ ⟨#[c]⟩, esc := false }
  else if σ.quo then
    if c = 92 then { σ with esc := true }
    else { σ with part := σ.part ++ ⟨#[c]⟩, quo := if c = 34 then false else true }
  else if c = 44 then { σ with res := σ.res ++ [σ.part], part := Str.ofString "" }
  else { σ with part := σ.part ++ ⟨#[c]⟩, quo := if c = 34 then true else false }
def pst (x : Str) (i : Nat) : PSt := (x.cps.toList.take i).foldl pstep ⟨[], Str.ofString "", false, false⟩
theorem pst_succ {x : Str} {i c : Nat} (h : x.cps[i]? = some c) : pst x (i + 1) = pstep (pst x i) c := by
  have h' : x.cps.toList[i]? = some c := by simpa using h
  unfold pst
  rw [List.take_add_one, h']
  simp
def parseStr (x : Str) : List Str :=
  (if ((pst x x.cps.size).part.length : Int) ≠ 0 then (pst x x.cps.size).res ++ [(pst x x.cps.size).part] else (pst x x.cps.size).res).map Txt.strip

def PInv (D : Addr) (k : Nat) (σ : PSt) (m : Str → Option Value) (news : List (Addr × Obj)) : Prop :=
  ∃ vs n tp, news = [(D, ({ cls := .type "list", data := .seq vs.toArray n } : Obj))] ∧ StrsAre vs σ.res ∧ (∀ y ∈ σ.res, y.length ≤ k) ∧ σ.res.length ≤ k ∧ σ.part.length ≤ k ∧
    m (Str.ofString "res") = some (.ref D) ∧ m (Str.ofString "part") = some (.str σ.part tp) ∧ m (Str.ofString "escape") = some (.bool σ.esc) ∧ m (Str.ofString "quote") = some (.bool σ.quo)

theorem sign_of {y : Str} {d : Nat} (hy : y = ⟨#[d]⟩) (c : Nat) : ((⟨#[c]⟩ : Str) == y) = decide (c = d) := by
  subst hy
  by_cases h : c = d
  · subst h; simp
  · rw [decide_eq_false h]; simp [h]
theorem sign92 (c : Nat) : ((⟨#[c]⟩ : Str) == Str.ofString "\\") = decide (c = 92) := sign_of (by decide) c
theorem sign34 (c : Nat) : ((⟨#[c]⟩ : Str) == Str.ofString "\"") = decide (c = 34) := sign_of (by decide) c
theorem sign44 (c : Nat) : ((⟨#[c]⟩ : Str) == Str.ofString ",") = decide (c = 44) := sign_of (by decide) c
theorem len_snoc (x : Str) (c : Nat) : (x ++ (⟨#[c]⟩ : Str)).length = x.length + 1 := by rw [Str.length_append]; rfl
theorem len_one (c : Nat) : (⟨#[c]⟩ : Str).length = 1 := rfl
theorem len_nil : (Str.ofString "").length = 0 := by decide

theorem parse_turn {prog : Program} {w : World} {A : Around} {s s₀ : Shared} {base : Heap} {L a D : Addr} {cd : Value} {u : Str → Option Value} {vs : List Value} {n k : Nat} {tp tc : Tok} {σ : PSt} {c : Nat} {own Q}
   (F : Fr base L s.heap (fun y => if y = Str.ofString "cur" then some (.str ⟨#[c]⟩ tc) else ov [(Str.ofString "res", .ref D), (Str.ofString "part", .str σ.part tp), (Str.ofString "escape", .bool σ.esc), (Str.ofString "quote", .bool σ.quo)] u y)) 
   (N : News base L s.heap ((D, { cls := .type "list", data := .seq vs.toArray n }) :: own)) (hoo : OwnOff own [D]) (X : Wd false s₀ s) (hv : StrsAre vs σ.res) (hy : ∀ y ∈ σ.res, y.length ≤ k) (hr : σ.res.length ≤ k) (hp : σ.part.length ≤ k) (hk : k ≤ 1000) :
   wpAny (model prog w) A (execs (forBody (fbody (fnAt 1))[3]?) (envOf (fname (fnAt 1)) (fscope (fnAt 1)) L a cd)) (TurnOut base L own (fun m' news' => ∃ σ', pstep σ c = σ' ∧ PInv D (k + 1) σ' m' news') false s₀ Q) (fun _ _ => False) s := by
  obtain ⟨res, part, esc, quo⟩ := σ
  dsimp only at F hv hy hr hp ⊢
  simp only [ov] at F
  have hap : ∀ p ∈ own, p.1 ≠ D := fun p hp => hoo p hp D (.head _)
  have hvl : vs.length ≤ 1000 := by rw [StrsAre.length hv]; omega
  refine wpAny_execs_cons ?_
  repeat' (walk_at "go")
  all_goals (try simp only [sign92, sign34, sign44, decide_eq_true_eq] at *)
  all_goals first
    | refine turn_cont (news' := [(D, _)]) (by assumption) (by assumption) hoo (by assumption) ?_
    | refine turn_next (news' := [(D, _)]) (by assumption) (by assumption) hoo (by assumption) ?_
  all_goals refine ⟨PSt.mk _ _ _ _, ?_, _, _, _, rfl, (by first | exact hv | exact hv.append' (.cons _ _ .nil)), ?_, ?_, ?_, rfl, rfl, rfl, rfl⟩
  all_goals (try dsimp only)
  all_goals first
    | (simp [pstep, *]; done)
    | omega
    | (rw [len_snoc]; omega)
    | (show (Str.ofString "").length ≤ k + 1; rw [len_nil]; omega)
    | ((have e : pstep ⟨res, part, esc, quo⟩ c = ⟨res ++ [part], Str.ofString "", esc, quo⟩ := by simp [pstep, *]); exact e)
    | (intro y hm; have := hy y hm; omega)
    | (rw [List.length_append, List.length_singleton]; omega)
    | (intro y hm; rcases List.mem_append.mp hm with hm | hm; have := hy y hm; omega; rw [List.mem_singleton.mp hm]; omega)

theorem strs_paired {f : Str → Str} : ∀ {vs ys : List Value} {rs : List Str}, StrsAre vs rs → Paired (fun v y => ∀ x t, v = .str x t → ∃ u, y = .str (f x) u) vs ys → StrsAre ys (rs.map f)
  | _, _, _, .nil, .nil => .nil
  | _, _, _, .cons x t h, .cons ha hb => by
    obtain ⟨u, rfl⟩ := ha x t rfl
    exact .cons _ _ (strs_paired h hb)

theorem parse_ret {prog : Program} {w : World} {A : Around} {s : Shared} {base : Heap} {L fa D : Addr} {cd : Value} {m : Str → Option Value} {vs : List Value} {rs : List Str} {Q : Value → Shared → Prop} {E : Value → Shared → Prop} (hh : A.handled = none)
    (F : Fr base L s.heap m) (hm : m (Str.ofString "res") = some (.ref D)) (hD : s.heap.IsList D vs.toArray) (hv : StrsAre vs rs) (hl : ∀ y ∈ rs, y.length ≤ 1000) (hn : rs.length ≤ 1000)
    (hQ : ∀ s' D' ys, Wd false s s' → (∀ b o, s.heap.get? b = some o → s'.heap.get? b = some o) → s.heap.get? D' = none → s'.heap.PlainList D' ys → StrsAre ys.toList (rs.map Txt.strip) → Q (.ref D') s') :
    wpAny (model prog w) A (eval (retExpr (fbody (fnAt 1))[5]?) (envOf (fname (fnAt 1)) (fscope (fnAt 1)) L fa cd)) Q E s := by
  refine comp_list (fun _ => true) (fun v y => ∀ x t, v = .str x t → ∃ u, y = .str (Txt.strip x) u) hh (by decide +kernel) (by decide +kernel) rfl (by decide +kernel) rfl ?_
  refine ld F hm ⟨D, _, rfl, hD, ?_, ?_, ?_, ?_⟩
  · rw [List.size_toArray, StrsAre.length hv]; show rs.length ≤ 2 ^ 24; omega
  · intro C v s₂ m₂ E' _ _ _ _
    exact wpAny_tests_nil ⟨rfl, s₂.heap, s₂.toks, rfl, fun _ _ e => e⟩
  · intro C v s₂ m₂ E' hm' _ hn₂ hv₂ _
    have hm'' : v ∈ vs := by simpa using hm'
    obtain ⟨i, hi⟩ := List.getElem?_of_mem hm''
    obtain ⟨x, t, rfl, hx⟩ := StrsAre.item hv i v hi
    refine MethodCall_ (ldC hn₂ hv₂ ?_)
    refine GM.strip (callWith_method0 (SC.strip (fun t' k => ?_) ?_))
    · exact ⟨fun x' t'' e => by cases e; exact ⟨_, rfl⟩, s₂.heap, k, rfl, fun _ _ e => e⟩
    · have := hl x (List.mem_of_getElem? hx); show x.length ≤ 2 ^ 24; omega
  · intro s' D' ys X hk hnew hpl hp
    refine hQ s' D' ys X hk hnew hpl (strs_paired hv ?_)
    rw [List.filter_eq_self.mpr (fun _ _ => rfl)] at hp
    exact hp

theorem parse_spec {prog : Program} {w : World} {A : Around} {s : Shared} {mg mb : Str → Option Value} {fa : Addr} {x : Str} {t : Tok} {R : Result → Shared → Prop} (G : Gd mg mb s.heap) (hA : Rm 1 A) (hfa : mg (Str.ofString "parse_http_list") = some (.ref fa)) (hx : x.length ≤ 500)
    (hR : ∀ s' D vs, Wd false s s' → (∀ b o, s.heap.get? b = some o → s'.heap.get? b = some o) → s.heap.get? D = none → s'.heap.PlainList D vs → StrsAre vs.toList (parseStr x) → R (.ok (.ret (.ref D))) s') :
    codeAny (model prog w) A (.call (.ref fa) ⟨[.str x t], []⟩) R s := by
  refine enter (i := 1) (binds := [(Str.ofString "s", .str x t)]) G (by decide) hA hfa (fun _ _ _ => rfl) (by rfl) (fun s₁ cd F N X => ?_)
  have hA' := hA.deeper (envOf (fname (fnAt 1)) (fscope (fnAt 1)) s.heap.objs.size fa cd)
  refine wpAny_execs_cons ?_
  iterate 3 (walk_at "go")
  refine newListW F N X ?_ (by decide)
  intro s₂ D F₂ N₂ X₂ _ hD₀
  iterate 13 (walk_at "go")
  refine for_str (xt := x) (tx := t) hA'.hh (fun i m news => PInv D i (pst x i) m news) false s rfl rfl ?_ (by assumption) (by assumption) (by assumption) ?_ ?_ ?_
  · intro Q' hq; refine ld (by assumption) (by rfl) hq
  · exact ⟨[], 0, _, rfl, .nil, (fun y hm => nomatch hm), Nat.zero_le _, Nat.zero_le _, rfl, rfl, rfl, rfl⟩
  · rintro i c tc m₁ news₁ s₂ own hc ⟨vs, n, tp, rfl, hv, hy, hr, hp, e1, e2, e3, e4⟩ hoo X₂ F₂ N₂
    have hi : i < x.length := by
      have := (Array.getElem?_eq_some_iff.mp hc).1
      exact this
    rw [pst_succ hc]
    have e : ov [(Str.ofString "res", .ref D), (Str.ofString "part", .str (pst x i).part tp), (Str.ofString "escape", .bool (pst x i).esc), (Str.ofString "quote", .bool (pst x i).quo)] m₁ = m₁ := ov_self (by
      intro p hp
      simp only [List.mem_cons, List.not_mem_nil, or_false] at hp
      rcases hp with rfl | rfl | rfl | rfl
      · exact e1
      · exact e2
      · exact e3
      · exact e4)
    rw [← e] at F₂
    exact wpAny_mono (parse_turn F₂ N₂ hoo X₂ hv hy hr hp (by omega)) (fun f s₃ h₃ => h₃.mono fun m n h => by obtain ⟨σ', rfl, a5⟩ := h; exact a5) fun _ _ e => e
  · rintro m₁ news₁ s₂ ⟨vs, n, tp, rfl, hv, hy, hr, hp, e1, e2, e3, e4⟩ X₂ F₂ N₂
    have e : ov [(Str.ofString "res", .ref D), (Str.ofString "part", .str (pst x x.cps.size).part tp)] m₁ = m₁ := ov_self (by
      intro p hp
      simp only [List.mem_cons, List.not_mem_nil, or_false] at hp
      rcases hp with rfl | rfl
      · exact e1
      · exact e2)
    rw [← e] at F₂
    simp only [ov] at F₂
    have hx' : x.cps.size ≤ 500 := hx
    have hvl : vs.length ≤ 1000 := by rw [StrsAre.length hv]; omega
    have hap : ∀ p ∈ ([] : List (Addr × Obj)), p.1 ≠ D := fun _ h => nomatch h
    repeat' (walk_at "go")
    · rename_i hne s₃ F₃ N₃ X₃
      refine parse_ret (rs := (pst x x.cps.size).res ++ [(pst x x.cps.size).part]) hA'.hh F₃ rfl (N₃.isList (.head _)) (hv.append' (.cons _ _ .nil)) ?_ ?_ ?_
      · intro y hm
        rcases List.mem_append.mp hm with hm | hm
        · have := hy y hm; omega
        · rw [List.mem_singleton.mp hm]; omega
      · rw [List.length_append, List.length_singleton]; omega
      · intro s' D' ys X hk hnew hpl hs
        refine hR s' D' ys (X₃.trans X) (fun b o e => hk b o (F₃.keep b o e)) ?_ hpl ?_
        · cases hq : s.heap.get? D' with
          | none => rfl
          | some o => rw [F₃.keep _ _ hq] at hnew; cases hnew
        · unfold parseStr
          rw [if_pos (by simpa using hne)]; exact hs
    · rename_i hne
      refine parse_ret (rs := (pst x x.cps.size).res) hA'.hh F₂ rfl (N₂.isList (.head _)) hv ?_ ?_ ?_
      · intro y hm
        have := hy y hm; omega
      · omega
      · intro s' D' ys X hk hnew hpl hs
        refine hR s' D' ys (X₂.upd.trans X) (fun b o e => hk b o (F₂.keep b o e)) ?_ hpl ?_
        · cases hq : s.heap.get? D' with
          | none => rfl
          | some o => rw [F₂.keep _ _ hq] at hnew; cases hnew
        · unfold parseStr
          rw [if_neg (by simpa using hne)]; exact hs

/-! ## _law_units -/
structure USt where
  us : List (Nat × Str)
  run : Nat
def ustep (i : Nat) (σ : USt) (c : Nat) : USt :=
  ⟨if σ.run % 2 = 1 then σ.us ++ [(i, Str.ofString "\\" ++ ⟨#[c]⟩)] else if c = 92 then σ.us else σ.us ++ [(i, ⟨#[c]⟩)], if c = 92 then σ.run + 1 else 0⟩
def ust (x : Str) : Nat → USt
  | 0 => ⟨[], 0⟩
  | i + 1 => ustep i (ust x i) (x.cps.getD i 0)
theorem ust_succ {x : Str} {i c : Nat} (h : x.cps[i]? = some c) : ust x (i + 1) = ustep i (ust x i) c := by
  show ustep i (ust x i) (x.cps.getD i 0) = _
  rw [Array.getD_eq_getD_getElem?, h]; rfl
def unitsStr (x : Str) : List (Nat × Str) :=
  if (ust x x.cps.size).run % 2 = 1 then (ust x x.cps.size).us ++ [(x.cps.size - 1, Str.ofString "\\")] else (ust x x.cps.size).us

def UInv (x : Str) (tx : Tok) (D : Addr) (k : Nat) (σ : USt) (m : Str → Option Value) (news : List (Addr × Obj)) : Prop :=
  ∃ vs n tups tr, news = (D, ({ cls := .type "list", data := .seq vs.toArray n } : Obj)) :: tups ∧ (∀ p ∈ tups, p.1 ≠ D) ∧ TupsIn tups vs σ.us ∧ σ.us.length ≤ k ∧ σ.run ≤ k ∧
    m (Str.ofString "units") = some (.ref D) ∧ m (Str.ofString "run") = some (.int σ.run tr) ∧ m (Str.ofString "text") = some (.str x tx)

theorem fmod2 (n : Nat) : (n : Int).fmod 2 = ((n % 2 : Nat) : Int) := by rw [Int.fmod_eq_emod_of_nonneg _ (by decide)]; omega
theorem sign92n (c : Nat) : ((⟨#[c]⟩ : Str) != Str.ofString "\\") = !decide (c = 92) := by rw [bne, sign92]

theorem off_cons {own tups : List (Addr × Obj)} {D T : Addr} {o : Obj} (lt : ∀ p ∈ (D, o) :: (tups ++ own), p.1 < T) (h : OwnOff own (D :: tups.map (·.1))) : OwnOff own (D :: T :: tups.map (·.1)) := fun p hp b hb => by
  rcases List.mem_cons.mp hb with rfl | hb
  · exact h p hp _ (.head _)
  · rcases List.mem_cons.mp hb with rfl | hb
    · exact Nat.ne_of_lt (lt p (.tail _ (List.mem_append.mpr (.inr hp))))
    · exact h p hp b (.tail _ hb)
theorem ne_cons {tups : List (Addr × Obj)} {D T : Addr} {o o' : Obj} {own : List (Addr × Obj)} (lt : ∀ p ∈ (D, o) :: (tups ++ own), p.1 < T) (h : ∀ p ∈ tups, p.1 ≠ D) : ∀ p ∈ (T, o') :: tups, p.1 ≠ D := fun p hp => by
  rcases List.mem_cons.mp hp with rfl | hp
  · exact Nat.ne_of_gt (lt _ (.head _))
  · exact h p hp

theorem units_turn {prog : Program} {w : World} {A : Around} {s s₀ : Shared} {base : Heap} {L a D : Addr} {cd : Value} {u : Str → Option Value} {vs : List Value} {n i : Nat} {tr tx tp : Tok} {σ : USt} {x : Str} {c : Nat} {own tups Q}
   (F : Fr base L s.heap (fun y => if y = Str.ofString "place" then some (.int i tp) else ov [(Str.ofString "units", .ref D), (Str.ofString "run", .int σ.run tr), (Str.ofString "text", .str x tx)] u y)) 
   (N : News base L s.heap ((D, { cls := .type "list", data := .seq vs.toArray n }) :: (tups ++ own))) (hoo : OwnOff own (D :: tups.map (·.1))) (ht : ∀ p ∈ tups, p.1 ≠ D) (X : Wd false s₀ s) (hv : TupsIn tups vs σ.us) (hr : σ.us.length ≤ i) (hp : σ.run ≤ i) (hk : i ≤ 1000)
   (hc : x.cps[i]? = some c) (hx : x.length ≤ 1000) :
   wpAny (model prog w) A (execs (forBody (fbody (fnAt 9))[2]?) (envOf (fname (fnAt 9)) (fscope (fnAt 9)) L a cd)) (TurnOut base L own (fun m' news' => ∃ σ', ustep i σ c = σ' ∧ UInv x tx D (i + 1) σ' m' news') false s₀ Q) (fun _ _ => False) s := by
  obtain ⟨us, run⟩ := σ
  dsimp only at F hv hr hp ⊢
  simp only [ov] at F
  have hap : ∀ p ∈ tups ++ own, p.1 ≠ D := fun p hp => (List.mem_append.mp hp).elim (ht p) fun h => hoo p h D (.head _)
  have hvl : vs.length ≤ 1000 := by rw [TupsIn.length hv]; omega
  refine wpAny_execs_cons ?_
  repeat' (walk_at "go")
  all_goals (try simp only [sign92, sign92n, decide_eq_true_eq, beq_iff_eq, fmod2] at *)
  all_goals first
    | refine turn_next (news' := (D, _) :: (_, _) :: tups) (by assumption) (by assumption) (off_cons (by assumption) hoo) (by assumption) ?_
    | refine turn_next (news' := (D, _) :: tups) (by assumption) (by assumption) hoo (by assumption) ?_
  · refine ⟨⟨_, run + 1⟩, ?_, _, _, _, _, rfl, ne_cons (by assumption) ht, (hv.mono fun _ h => .tail _ h).append (.cons (.head _) .nil), ?_, ?_, rfl, rfl, rfl⟩
    · unfold ustep; dsimp only; rw [if_pos (show run % 2 = 1 by omega), if_pos (by assumption)]
    · rw [List.length_append]; show us.length + 1 ≤ i + 1; omega
    · show run + 1 ≤ i + 1; omega
  · refine ⟨⟨_, 0⟩, ?_, _, _, _, _, rfl, ne_cons (by assumption) ht, (hv.mono fun _ h => .tail _ h).append (.cons (.head _) .nil), ?_, Nat.zero_le _, rfl, rfl, rfl⟩
    · unfold ustep; dsimp only; rw [if_pos (show run % 2 = 1 by omega), if_neg (by assumption)]
    · rw [List.length_append]; show us.length + 1 ≤ i + 1; omega
  · simp_all
  · refine ⟨⟨_, 0⟩, ?_, _, _, _, _, rfl, ne_cons (by assumption) ht, (hv.mono fun _ h => .tail _ h).append (.cons (.head _) .nil), ?_, Nat.zero_le _, rfl, rfl, rfl⟩
    · unfold ustep; dsimp only; rw [if_neg (show ¬ run % 2 = 1 by omega), if_neg (by assumption), if_neg (by assumption)]
    · rw [List.length_append]; show us.length + 1 ≤ i + 1; omega
  · refine ⟨⟨_, run + 1⟩, ?_, _, _, _, _, rfl, ht, hv, ?_, ?_, rfl, rfl, rfl⟩
    · unfold ustep; dsimp only; rw [if_neg (show ¬ run % 2 = 1 by omega), if_pos (by assumption), if_pos (by assumption)]
    · show us.length ≤ i + 1; omega
    · show run + 1 ≤ i + 1; omega
  · simp_all

theorem units_spec {prog : Program} {w : World} {A : Around} {s : Shared} {mg mb : Str → Option Value} {fa : Addr} {x : Str} {t : Tok} {R : Result → Shared → Prop} (G : Gd mg mb s.heap) (hA : Rm 1 A) (hfa : mg (Str.ofString "_law_units") = some (.ref fa)) (hx : x.length ≤ 500)
    (hR : ∀ s' D vs, Wd false s s' → (∀ b o, s.heap.get? b = some o → s'.heap.get? b = some o) → s.heap.get? D = none → s'.heap.PlainList D vs → TupsAt s'.heap vs.toList (unitsStr x) → R (.ok (.ret (.ref D))) s') :
    codeAny (model prog w) A (.call (.ref fa) ⟨[.str x t], []⟩) R s := by
  refine enter (i := 9) (binds := [(Str.ofString "text", .str x t)]) G (by decide) hA hfa (fun _ _ _ => rfl) (by rfl) (fun s₁ cd F N X => ?_)
  have hA' := hA.deeper (envOf (fname (fnAt 9)) (fscope (fnAt 9)) s.heap.objs.size fa cd)
  refine wpAny_execs_cons ?_
  iterate 3 (walk_at "go")
  refine newListW F N X ?_ (by decide)
  intro s₂ D F₂ N₂ X₂ _ hD₀
  iterate 6 (walk_at "go")
  have hx' : x.cps.size ≤ 500 := hx
  refine for_range (base := s.heap) hA'.hh (fun i m news => UInv x t D i (ust x i) m news) false s rfl rfl ?_
  repeat' (walk_at "go")
  refine ⟨_, _, x.cps.size, _, _, _, _, _, rfl, by assumption, rfl, by omega, by assumption, by assumption, by assumption, ?_, ?_, ?_⟩
  · exact ⟨[], 0, [], _, rfl, (fun p h => nomatch h), .nil, Nat.zero_le _, Nat.zero_le _, rfl, rfl, rfl⟩
  · rintro i tp m₁ news₁ s₃ own hi ⟨vs, n, tups, tr, rfl, ht, hv, hr, hp, e1, e2, e3⟩ hoo X₃ F₃ N₃
    have hc : x.cps[i]? = some x.cps[i] := by simp [hi]
    rw [ust_succ hc]
    have e : ov [(Str.ofString "units", .ref D), (Str.ofString "run", .int (ust x i).run tr), (Str.ofString "text", .str x t)] m₁ = m₁ := ov_self (by
      intro p hp
      simp only [List.mem_cons, List.not_mem_nil, or_false] at hp
      rcases hp with rfl | rfl | rfl
      · exact e1
      · exact e2
      · exact e3)
    rw [← e] at F₃
    exact wpAny_mono (units_turn F₃ N₃ hoo ht X₃ hv hr hp (by omega) hc (by omega)) (fun f s₃ h₃ => h₃.mono fun m n h => by obtain ⟨σ', rfl, a5⟩ := h; exact a5) fun _ _ e => e
  · rintro m₁ news₁ s₃ ⟨vs, n, tups, tr, rfl, ht, hv, hr, hp, e1, e2, e3⟩ X₃ F₃ N₃
    have e : ov [(Str.ofString "units", .ref D), (Str.ofString "run", .int (ust x x.cps.size).run tr), (Str.ofString "text", .str x t)] m₁ = m₁ := ov_self (by
      intro p hp
      simp only [List.mem_cons, List.not_mem_nil, or_false] at hp
      rcases hp with rfl | rfl | rfl
      · exact e1
      · exact e2
      · exact e3)
    rw [← e] at F₃
    simp only [ov] at F₃
    have hvl : vs.length ≤ 1000 := by rw [TupsIn.length hv]; omega
    have hap : ∀ p ∈ tups, p.1 ≠ D := ht
    repeat' (walk_at "go")
    · rename_i hodd _ _ _ _ _ _ _ s₄ F₄ N₄ X₄
      simp only [beq_iff_eq, fmod2] at hodd
      have hodd' : (ust x x.cps.size).run % 2 = 1 := by omega
      refine hR s₄ D _ X₄ F₄.keep ?_ ⟨_, (N₄ _ (.head _)).1⟩ ?_
      · exact (N₄ _ (.head _)).2.2
      · unfold unitsStr
        rw [if_pos hodd']
        have hz : ((x.length : Int) - 1) = ((x.cps.size - 1 : Nat) : Int) := by show ((x.cps.size : Int) - 1) = _; omega
        rw [hz] at N₄
        exact ((hv.mono fun _ h => .tail _ (.tail _ h)).append (.cons (.tail _ (.head _)) .nil)).at N₄ fun _ h => h
    · rename_i hodd
      simp only [beq_iff_eq, fmod2] at hodd
      have hodd' : ¬ (ust x x.cps.size).run % 2 = 1 := by omega
      refine hR _ D _ X₃.upd F₃.keep ?_ ⟨_, (N₃ _ (.head _)).1⟩ ?_
      · exact (N₃ _ (.head _)).2.2
      · unfold unitsStr
        rw [if_neg hodd']
        exact hv.at N₃ fun _ h => .tail _ h

/-! ## _law_sign -/
theorem fmod_nat (a : Int) {b : Nat} (hb : 0 < b) : ∃ k : Nat, a.fmod (b : Int) = (k : Int) ∧ k < b := by
  have h1 := Int.fmod_nonneg_of_pos a (b := (b : Int)) (by omega)
  have h2 := Int.fmod_lt_of_pos a (b := (b : Int)) (by omega)
  exact ⟨(a.fmod (b : Int)).toNat, by omega, by omega⟩

theorem tab_at {x : Str} {n k : Nat} (hn : x.cps.size = n) (hall : x.cps.all (· < 1114112) = true) (hk : k < n) : ∃ c, x.cps[k]? = some c ∧ c < 1114112 := by
  have hk' : k < x.cps.size := by omega
  refine ⟨x.cps[k], by simp [hk'], ?_⟩
  rw [Array.all_eq_true] at hall
  simpa using hall k hk'

theorem sign_spec {prog : Program} {w : World} {A : Around} {s : Shared} {mg mb : Str → Option Value} {fa : Addr} {n : Int} {t : Tok} {R : Result → Shared → Prop} (G : Gd mg mb s.heap) (hA : Rm 1 A) (hfa : mg (Str.ofString "_law_sign") = some (.ref fa))
    (hR : ∀ s' c t', Wd false s s' → (∀ b o, s.heap.get? b = some o → s'.heap.get? b = some o) → c < 1114112 → R (.ok (.ret (.str ⟨#[c]⟩ t'))) s') :
    codeAny (model prog w) A (.call (.ref fa) ⟨[.int n t], []⟩) R s := by
  refine enter (i := 8) (binds := [(Str.ofString "number", .int n t)]) G (by decide) hA hfa (fun _ _ _ => rfl) (by rfl) (fun s₁ cd F N X => ?_)
  have hA' := hA.deeper (envOf (fname (fnAt 8)) (fscope (fnAt 8)) s.heap.objs.size fa cd)
  obtain ⟨k, hk, hk12⟩ := fmod_nat n (b := 12) (by decide)
  obtain ⟨k4, hk4, hk44⟩ := fmod_nat (n.fdiv 12) (b := 4) (by decide)
  obtain ⟨kc, hkc, hkcc⟩ := fmod_nat (n.fdiv 12) (b := 1112064) (by decide)
  refine wpAny_execs_cons ?_
  iterate 5 (walk_at "go")
  rw [show ((12 : Nat) : Int) = 12 from rfl] at hk
  rw [hk]
  iterate 8 (walk_at "go")
  split
  · rename_i h9
    simp only [decide_eq_true_eq] at h9
    obtain ⟨c, hc, hcl⟩ := tab_at (x := Str.ofString "\"\"\\\\,,()a") (n := 9) (k := k) (by decide +kernel) (by decide +kernel) (by omega)
    iterate 5 (walk_at "go")
    refine itemStr hc (by decide +kernel) ?_
    exact hR _ c _ (by refine Wd.like (by assumption) ?_ ?_ ?_ <;> rfl) (Fr.keep (by assumption)) hcl
  · iterate 8 (walk_at "go")
    split
    · obtain ⟨c, hc, hcl⟩ := tab_at (x := Str.ofString " \t\n\u00a0") (n := 4) (k := k4) (by decide +kernel) (by decide +kernel) hk44
      repeat' (walk_at "go")
      rw [show ((4 : Nat) : Int) = 4 from rfl] at hk4
      rw [hk4]
      refine itemStr hc (by decide +kernel) ?_
      exact hR _ c _ (by refine Wd.like (by assumption) ?_ ?_ ?_ <;> rfl) (Fr.keep (by assumption)) hcl
    · iterate 10 (walk_at "go")
      rw [show ((1112064 : Nat) : Int) = 1112064 from rfl] at hkc
      rw [hkc]
      iterate 12 (walk_at "go")
      have hb : ∀ b, decide ((kc : Int) < 55296) = b → (b = true ↔ (kc : Int) < 55296) := fun b e => by rw [← e, decide_eq_true_eq]
      generalize decide ((kc : Int) < 55296) = b at hb ⊢
      have hb' := hb b rfl
      walk_at "go"
      walk_at "go"
      · rename_i hlt
        have hlt' := hb'.mp hlt
        repeat' (walk_at "go")
        exact hR _ _ _ (by refine Wd.like (by assumption) ?_ ?_ ?_ <;> rfl) (Fr.keep (by assumption)) (by omega)
      · rename_i hlt
        repeat' (walk_at "go")
        exact hR _ _ _ (by refine Wd.like (by assumption) ?_ ?_ ?_ <;> rfl) (Fr.keep (by assumption)) (by omega)

/-! ## _law_in_quotes -/
def qMark : Str := Str.ofString "\""
def bsq : Str := Str.ofString "\\\""
def inqStr (us : List (Nat × Str)) (n : Nat) : Bool :=
  if bsq ∈ ((us.take n).map (·.2)).reverse then (((((us.take n).map (·.2)).reverse.take (((us.take n).map (·.2)).reverse.idxOf bsq)).count qMark) % 2 == 0)
  else ((((us.take n).map (·.2)).reverse.count qMark) % 2 == 1)

theorem inq_spec {prog : Program} {w : World} {A : Around} {s : Shared} {mg mb : Str → Option Value} {fa Du : Addr} {items : Array Value} {us : List (Nat × Str)} {n : Nat} {t : Tok} {R : Result → Shared → Prop} (G : Gd mg mb s.heap) (hA : Rm 1 A) (hfa : mg (Str.ofString "_law_in_quotes") = some (.ref fa))
    (hl : s.heap.IsList Du items) (hu : TupsAt s.heap items.toList us) (hsz : us.length ≤ 1000)
    (hR : ∀ s', Wd false s s' → (∀ b o, s.heap.get? b = some o → s'.heap.get? b = some o) → R (.ok (.ret (.bool (inqStr us n)))) s') :
    codeAny (model prog w) A (.call (.ref fa) ⟨[.ref Du, .int n t], []⟩) R s := by
  refine enter (i := 10) (binds := [(Str.ofString "units", .ref Du), (Str.ofString "number", .int n t)]) G (by decide) hA hfa (fun _ _ _ => rfl) (by rfl) (fun s₁ cd F N X => ?_)
  have hA' := hA.deeper (envOf (fname (fnAt 10)) (fscope (fnAt 10)) s.heap.objs.size fa cd)
  have hil : items.size = us.length := by have := hu.length; simpa using this
  refine wpAny_execs_cons ?_
  iterate 2 (walk_at "go")
  refine comp_pairs (fun _ => true) (fun q y => ∃ u, y = .str q.2 u) hA'.hh (by decide +kernel) (by decide +kernel) rfl (by decide +kernel) rfl rfl (by decide +kernel) ?_
  iterate 2 (walk_at "go")
  refine sliceW (part_none (part_some ?_))
  iterate 1 (walk_at "go")
  refine part_none ?_
  intro s₂ sl X₂ k₂ hsl
  have F₂ := F.keeps k₂
  refine sliceTail (lo := none) (hi := some (n : Int)) (st := none) ((hl.at fun o e => F.keep _ o e).at fun o e => k₂ _ o e) hsl .none (.int _ _) .none (by simp) ?_ (by rw [hil]; show us.length ≤ 2 ^ 24; omega) rfl
  intro s₃ D₃ X₃ k₃ _ hD₃
  rw [slicePick_upto'] at hD₃
  have keep₃ : ∀ b o, s.heap.get? b = some o → s₃.heap.get? b = some o := fun b o e => k₃ b o (F₂.keep b o e)
  refine ⟨D₃, _, us.take n, rfl, hD₃.isList, ?_, ?_, ?_, ?_, ?_⟩
  · simpa using (hu.keeps keep₃).take n
  · rw [List.size_toArray, List.length_take]; show _ ≤ 2 ^ 24; have : items.toList.length = us.length := by simpa using hil
    omega
  · intro C q t u s₄ m₄ E' _ _ _ _ _
    exact wpAny_tests_nil ⟨rfl, s₄.heap, s₄.toks, rfl, fun _ _ e => e⟩
  · intro C q t u s₄ m₄ E' _ _ hn _ hb _
    exact ldC hn hb ⟨⟨_, rfl⟩, s₄.heap, s₄.toks, rfl, fun _ _ e => e⟩
  intro s₄ D₄ ys X₄ k₄ _ hD₄ hp
  rw [List.filter_eq_self.mpr (fun _ _ => rfl)] at hp
  have hys := strs_of_pairs hp
  refine sliceW (part_none (part_none (part_some ?_)))
  iterate 3 (walk_at "go")
  intro s₅ sl₅ X₅ k₅ hsl₅
  refine sliceTail (lo := none) (hi := none) (st := some (-1)) (hD₄.isList.at fun o e => k₅ _ o e) hsl₅ .none .none (.int _ _) (by simp) ?_ ?_ rfl
  · intro s₆ D₆ X₆ k₆ hnew₆ hD₆
    rw [krv_pick] at hD₆
    have hrev := StrsAre.reverse' hys
    have F₆ : Fr s.heap s.heap.objs.size s₆.heap _ := F.keeps fun b o e => k₆ b o (k₅ b o (k₄ b o (k₃ b o (k₂ b o e))))
    have W₆ : Wd false s s₆ := ((X.step X₂ rfl rfl rfl).trans (X₃.trans X₄)).step (X₅.trans X₆) rfl rfl rfl
    obtain ⟨n₆, e₆⟩ := hD₆
    have F₅ : Fr s.heap s.heap.objs.size s₅.heap _ := F.keeps fun b o e => k₅ b o (k₄ b o (k₃ b o (k₂ b o e)))
    have N₆ : News s.heap s.heap.objs.size s₆.heap _ := news_one F₅ hnew₆ e₆
    refine stW F₆ N₆ W₆ ?_
    intro s₇ F₇ N₇ X₇
    have hI₇ := N₇.isList (.head _)
    have hN₇ : s₇.heap.NoDictAt (.ref D₆) := ⟨_, (N₇ _ (.head _)).1, rfl⟩
    have hlen : ys.toList.reverse.length ≤ 1000 := by
      rw [List.length_reverse, StrsAre.length hys, List.length_map, List.length_take]; omega
    iterate 5 (walk_at "go")
    refine inStrs hI₇ hrev ?_
    iterate 2 (walk_at "go")
    · rename_i hin
      simp only [decide_eq_true_eq] at hin
      iterate 7 (walk_at "go")
      refine sliceW (part_none (part_some ?_))
      iterate 7 (walk_at "go")
      refine indexStrs hI₇ hrev hin (by omega) ?_
      refine part_none ?_
      intro s₈ sl₈ X₈ k₈ hsl₈
      refine sliceTail (lo := none) (hi := some _) (st := none) (hI₇.at fun o e => k₈ _ o e) hsl₈ .none (.int _ _) .none (by simp) ?_ ?_ rfl
      · intro s₉ D₉ X₉ k₉ _ hD₉
        rw [slicePick_upto'] at hD₉
        have hI₉ := hD₉.isList
        have hN₉ : s₉.heap.NoDictAt (.ref D₉) := by obtain ⟨n, e⟩ := hD₉; exact ⟨_, e, rfl⟩
        iterate 5 (walk_at "go")
        refine countStrs hI₉ (hrev.take' _) ?_
        iterate 4 (walk_at "go")
        have key : inqStr us n = (((List.count (Str.ofString "\"") (List.take (List.idxOf (Str.ofString "\\\"") (List.map (·.2) (List.take n us)).reverse) (List.map (·.2) (List.take n us)).reverse) : Int).fmod 2 == 0)) := by
          unfold inqStr bsq qMark
          rw [if_pos hin, fmod2, Bool.eq_iff_iff]
          simp only [beq_iff_eq]
          omega
        rw [← key]
        exact hR _ (by refine Wd.like ((X₇.step X₈ rfl rfl rfl).step X₉ rfl rfl rfl) ?_ ?_ ?_ <;> rfl) (fun b o e => k₉ b o (k₈ b o (F₇.keep b o e)))
      · rw [List.size_toArray]; show _ ≤ 2 ^ 24; omega
    · rename_i hin
      simp only [decide_eq_true_eq] at hin
      iterate 12 (walk_at "go")
      refine countStrs hI₇ hrev ?_
      iterate 4 (walk_at "go")
      have key : inqStr us n = (((List.count (Str.ofString "\"") (List.map (·.2) (List.take n us)).reverse : Int).fmod 2 == 1)) := by
        unfold inqStr bsq qMark
        rw [if_neg hin, fmod2, Bool.eq_iff_iff]
        simp only [beq_iff_eq]
        omega
      rw [← key]
      exact hR _ (by refine Wd.like X₇ ?_ ?_ ?_ <;> rfl) F₇.keep
  · show ys.size ≤ 2 ^ 24
    have h1 := StrsAre.length hys
    rw [List.length_map, List.length_take] at h1
    have h2 : ys.toList.length = ys.size := by simp
    omega

/-! ## _law_items -/
structure ISt where
  init : List Str
  last : Str
def istep (q : Bool) (σ : ISt) (u : Str) : ISt :=
  if q = true then ⟨σ.init, σ.last ++ (if u ≠ Str.ofString "\\" then (⟨#[u.cps.getD (u.cps.size - 1) 0]⟩ : Str) else Str.ofString "")⟩
  else if u = Str.ofString "," ∨ u = Str.ofString "\\," then ⟨σ.init ++ [σ.last ++ Txt.slice u none (some (-1))], Str.ofString ""⟩
  else ⟨σ.init, σ.last ++ u⟩
def ist (us : List (Nat × Str)) : Nat → ISt
  | 0 => ⟨[], Str.ofString ""⟩
  | i + 1 => istep (inqStr us i) (ist us i) (us.getD i (0, Str.ofString "")).2
theorem ist_succ {us : List (Nat × Str)} {i : Nat} {q : Nat × Str} (h : us[i]? = some q) : ist us (i + 1) = istep (inqStr us i) (ist us i) q.2 := by
  show istep _ _ _ = _
  rw [List.getD_eq_getElem?_getD, h]; rfl
def itemsStr (us : List (Nat × Str)) : List Str :=
  (if (ist us us.length).last ≠ Str.ofString "" then (ist us us.length).init ++ [(ist us us.length).last] else (ist us us.length).init).map Txt.strip

def IInv (D Du : Addr) (k : Nat) (σ : ISt) (m : Str → Option Value) (news : List (Addr × Obj)) : Prop :=
  ∃ vs t n, news = [(D, ({ cls := .type "list", data := .seq (vs ++ [Value.str σ.last t]).toArray n } : Obj))] ∧ StrsAre vs σ.init ∧ (∀ y ∈ σ.init, y.length ≤ 2 * k) ∧ σ.init.length ≤ k ∧ σ.last.length ≤ 2 * k ∧
    m (Str.ofString "items") = some (.ref D) ∧ m (Str.ofString "units") = some (.ref Du)

theorem items_turn {prog : Program} {w : World} {A : Around} {s s₀ : Shared} {mg mb : Str → Option Value} {base : Heap} {L a D Du : Addr} {cd : Value} {x : Str → Option Value} {vs : List Value} {n i : Nat} {tl tn : Tok} {σ : ISt} {items : Array Value} {us : List (Nat × Str)} {q : Nat × Str} {own Q}
   (G : Gd mg mb base) (hA : Rm 1 A)
   (F : Fr base L s.heap (fun y => if y = Str.ofString "number" then some (.int i tn) else ov [(Str.ofString "items", .ref D), (Str.ofString "units", .ref Du)] x y))
   (N : News base L s.heap ((D, { cls := .type "list", data := .seq (vs ++ [Value.str σ.last tl]).toArray n }) :: own)) (hoo : OwnOff own [D]) (X : Wd false s₀ s) (hv : StrsAre vs σ.init) (hy : ∀ y ∈ σ.init, y.length ≤ 2 * i) (hr : σ.init.length ≤ i) (hp : σ.last.length ≤ 2 * i)
   (hl : base.IsList Du items) (hu : TupsAt base items.toList us) (hsz : us.length ≤ 400) (hq : us[i]? = some q) (hq1 : 0 < q.2.length) (hq2 : q.2.length ≤ 2) :
   wpAny (model prog w) A (execs (forBody (fbody (fnAt 11))[1]?) (envOf (fname (fnAt 11)) (fscope (fnAt 11)) L a cd)) (TurnOut base L own (fun m' news' => ∃ σ', istep (inqStr us i) σ q.2 = σ' ∧ IInv D Du (i + 1) σ' m' news') false s₀ Q) (fun _ _ => False) s := by
  obtain ⟨init, last⟩ := σ
  obtain ⟨p, u⟩ := q
  dsimp only at F N hv hy hr hp hq1 hq2 ⊢
  simp only [ov] at F
  have hap : ∀ p ∈ own, p.1 ≠ D := fun p hp => hoo p hp D (.head _)
  have hi : i < us.length := (List.getElem?_eq_some_iff.mp hq).1
  have hvl : vs.length ≤ 1000 := by rw [StrsAre.length hv]; omega
  obtain ⟨T, tp, tu, hT, hTo⟩ := hu.get hq
  have hT' : items[i]? = some (.ref T) := by simpa using hT
  refine wpAny_execs_cons ?_
  iterate 5 (walk_at "go")
  refine itemList (hl.at fun o e => F.keep _ o e) hT' (by omega) ?_
  iterate 1 (walk_at "go")
  refine itemTup (j := 1) (x := .str u tu) (tupObj_tup (F.keep _ _ hTo)) rfl (by decide) ?_
  refine stW F N (Wd.like X rfl rfl rfl) ?_
  intro s₁ F₁ N₁ X₁
  iterate 2 (walk_at "go")
  refine isTrue_plain ?_
  refine callF (i := 10) (G.keeps F₁.keep) (by decide) (fun fa hfa => ?_)
  iterate 5 (walk_at "go")
  refine ⟨fun _ _ e => e, inq_spec (G.keeps F₁.keep) hA hfa (hl.at fun o e => F₁.keep _ o e) (hu.keeps F₁.keep) (by omega) ?_⟩
  intro s₂ X₂ k₂
  have F₂ := F₁.keeps k₂
  have N₂ := news_keeps N₁ k₂
  have W₂ := X₁.trans X₂
  have hcu : u.cps[u.cps.size - 1]? = some (u.cps.getD (u.cps.size - 1) 0) := by
    have : u.cps.size - 1 < u.cps.size := by have : 0 < u.cps.size := hq1; omega
    simp [this]
  have hI₂ := N₂.isList (.head _)
  show wpAny _ _ _ _ _ _
  iterate 2 (walk_at "go")
  · rename_i hin
    repeat' (walk_at "go")
    · rename_i hne _ _ s₃ F₃ N₃ X₃
      refine turn_next (news' := [(D, _)]) F₃ N₃ hoo X₃ ⟨⟨init, _⟩, ?_, vs, _, _, rfl, hv, ?_, ?_, ?_, rfl, rfl⟩
      · unfold istep; rw [if_pos hin, if_pos (by simpa using hne)]
      · intro y hm; have := hy y hm; omega
      · show init.length ≤ i + 1; omega
      · show (last ++ (⟨#[_]⟩ : Str)).length ≤ _; rw [len_snoc]; omega
    · rename_i hne _ _ s₃ F₃ N₃ X₃
      refine turn_next (news' := [(D, _)]) F₃ N₃ hoo X₃ ⟨⟨init, _⟩, ?_, vs, _, _, rfl, hv, ?_, ?_, ?_, rfl, rfl⟩
      · unfold istep; rw [if_pos hin, if_neg (by simpa using hne)]
      · intro y hm; have := hy y hm; omega
      · show init.length ≤ i + 1; omega
      · show (last ++ Str.ofString "").length ≤ _; rw [Str.length_append, len_nil]; omega
  · rename_i hin
    repeat' (walk_at "go")
    rename_i s₃ D₃ F₃ N₃ X₃ lt₃ new₃
    refine inTup2 ⟨_, (N₃ _ (.head _)).1, rfl, _, rfl⟩ ?_
    have N₄ := news_sub N₃ (b := _ :: _) (fun p hp => .tail _ hp)
    have hI₄ := N₄.isList (.head _)
    clear N₃ hI₂ N₂ N₁ N
    iterate 2 (walk_at "go")
    · rename_i hcom
      have hcom' : u = Str.ofString "," ∨ u = Str.ofString "\\," := by
        simp only [Bool.or_eq_true, beq_iff_eq] at hcom
        exact hcom.imp Eq.symm Eq.symm
      repeat' (walk_at "go")
      refine sliceW (part_none (part_some ?_))
      iterate 3 (walk_at "go")
      refine part_none ?_
      intro s₅ sl₅ X₅ k₅ hsl₅
      have F₅ := F₃.keeps k₅
      have N₅ := news_keeps N₄ k₅
      have W₅ : Wd false s₀ s₅ := X₃.step X₅ rfl rfl rfl
      refine strSliceTail (l := none) (u := some (-1, _)) hsl₅ (by show u.length ≤ 2 ^ 24; omega) ?_ rfl
      intro t' k'
      have hsl' : (Txt.slice u none (some (-1))).length ≤ u.length := Txt.slice_le ..
      clear N₄ hI₄
      dsimp only [Option.map]
      repeat' (walk_at "go")
      rename_i s₆ F₆ N₆ X₆
      refine turn_next (news' := [(D, _)]) F₆ N₆ hoo X₆ ⟨⟨init ++ [_], Str.ofString ""⟩, ?_, _, _, _, rfl, hv.append' (.cons _ _ .nil), ?_, ?_, ?_, rfl, rfl⟩
      · unfold istep; rw [if_neg hin, if_pos hcom']
      · intro y hm
        rcases List.mem_append.mp hm with hm | hm
        · have := hy y hm; omega
        · rw [List.mem_singleton.mp hm, Str.length_append]; omega
      · show (init ++ [_]).length ≤ i + 1; rw [List.length_append, List.length_singleton]; omega
      · show (Str.ofString "").length ≤ _; rw [len_nil]; omega
    · rename_i hcom
      have hcom' : ¬ (u = Str.ofString "," ∨ u = Str.ofString "\\,") := fun h => hcom (by
        simp only [Bool.or_eq_true, beq_iff_eq]
        exact h.imp Eq.symm Eq.symm)
      repeat' (walk_at "go")
      rename_i s₆ F₆ N₆ X₆
      refine turn_next (news' := [(D, _)]) F₆ N₆ hoo X₆ ⟨⟨init, _⟩, ?_, vs, _, _, rfl, hv, ?_, ?_, ?_, rfl, rfl⟩
      · unfold istep; rw [if_neg hin, if_neg hcom']
      · intro y hm; have := hy y hm; omega
      · show init.length ≤ i + 1; omega
      · show (last ++ u).length ≤ _; rw [Str.length_append]; omega

theorem comp_strip {prog : Program} {w : World} {A : Around} {E : Value → Shared → Prop} {s : Shared} {env : Env} {iter : Expr} {x : Str} {px pa pc px' pos : Pos} {scope : Scope} {Q : Value → Shared → Prop} (hh : A.handled = none)
    (hfree : ∀ y ∈ scope.names, y.2 ≠ .free) (hcell : ∀ y ∈ scope.names, y.2 ≠ .cell) (hkind : scope.kind = .function)
    (hnames : ∀ y ∈ scope.names, y.2 = .local → scope.names.lookup y.1 = some .local) (hx : scope.names.lookup x = some .local) (hd : (x == ("__debug__" : Str)) = false) {pl : Addr → Sem Bool}
    (he : ∀ C, eval (.Call (.Attribute (.Name x px) (Str.ofString "strip") pa) [] [] pc) (compEnv scope C env) = (do
      let ov ← eval (.Name x px) (compEnv scope C env)
      standAt pa.atName
      let (f, first) ← holding [ov] (getMethod ov (Str.ofString "strip") (pl C))
      callWith pc f first (backTo pc (starEach [] (compEnv scope C env))) []))
    (hs : ∀ x, foldedSetIterable iter env x = pure x)
    (h : wpAny (model prog w) A (eval iter env) (fun xv s₁ => ∃ Dx ws rs, xv = .ref Dx ∧ s₁.heap.IsList Dx (ws : List Value).toArray ∧ StrsAre ws rs ∧ (∀ y ∈ rs, y.length ≤ 1000) ∧ rs.length ≤ 1000 ∧
      ∀ s' D ys, Wd false s₁ s' → (∀ b o, s₁.heap.get? b = some o → s'.heap.get? b = some o) → s₁.heap.get? D = none → s'.heap.PlainList D ys → StrsAre ys.toList (rs.map Txt.strip) → Q (.ref D) s') E s) :
    wpAny (model prog w) A (eval (.ListComp (.Call (.Attribute (.Name x px) (Str.ofString "strip") pa) [] [] pc) [⟨.Name x px', iter, [], 0⟩] scope pos) env) Q E s := by
  refine comp_list (fun _ => true) (fun v y => ∀ x t, v = .str x t → ∃ u, y = .str (Txt.strip x) u) hh hfree hcell hkind hnames hx (wpAny_mono h (fun xv s₁ h₁ => ?_) fun _ _ e => e) hs
  obtain ⟨Dx, ws, rs, rfl, h4, h1, h2, h3, hQ⟩ := h₁
  refine ⟨Dx, _, rfl, h4, ?_, ?_, ?_, ?_⟩
  · rw [List.size_toArray, StrsAre.length h1]; show rs.length ≤ 2 ^ 24; omega
  · intro C v s₂ m₂ E' _ _ _ _
    exact wpAny_tests_nil ⟨rfl, s₂.heap, s₂.toks, rfl, fun _ _ e => e⟩
  · intro C v s₂ m₂ E' hm' _ hn₂ hv₂ _
    have hm'' : v ∈ ws := by simpa using hm'
    obtain ⟨i, hi⟩ := List.getElem?_of_mem hm''
    obtain ⟨y, t, rfl, hy⟩ := StrsAre.item h1 i v hi
    refine MethodCall_ (pl := pl C) (wpAny_Name (wpAny_loadName_local hkind hx hn₂ hv₂ ?_) hd) (he C)
    refine GM.strip (callWith_method0 (SC.strip (fun t' k => ?_) ?_))
    · exact ⟨fun x' t'' e => by cases e; exact ⟨_, rfl⟩, s₂.heap, k, rfl, fun _ _ e => e⟩
    · have := h2 y (List.mem_of_getElem? hy); show y.length ≤ 2 ^ 24; omega
  · intro s' D' ys X hk hnew hpl hp
    rw [List.filter_eq_self.mpr (fun _ _ => rfl)] at hp
    exact hQ s' D' ys X hk hnew hpl (strs_paired h1 hp)

theorem items_spec {prog : Program} {w : World} {A : Around} {s : Shared} {mg mb : Str → Option Value} {fa Du : Addr} {items : Array Value} {us : List (Nat × Str)} {R : Result → Shared → Prop} (G : Gd mg mb s.heap) (hA : Rm 2 A) (hfa : mg (Str.ofString "_law_items") = some (.ref fa))
    (hl : s.heap.IsList Du items) (hu : TupsAt s.heap items.toList us) (hsz : us.length ≤ 400) (hus : ∀ q ∈ us, 0 < q.2.length ∧ q.2.length ≤ 2)
    (hR : ∀ s' D vs, Wd false s s' → (∀ b o, s.heap.get? b = some o → s'.heap.get? b = some o) → s.heap.get? D = none → s'.heap.PlainList D vs → StrsAre vs.toList (itemsStr us) → R (.ok (.ret (.ref D))) s') :
    codeAny (model prog w) A (.call (.ref fa) ⟨[.ref Du], []⟩) R s := by
  refine enter (i := 11) (binds := [(Str.ofString "units", .ref Du)]) G (by decide) hA hfa (fun _ _ _ => rfl) (by rfl) (fun s₁ cd F N X => ?_)
  have hA' := hA.deeper (envOf (fname (fnAt 11)) (fscope (fnAt 11)) s.heap.objs.size fa cd)
  have hil : items.size = us.length := by have := hu.length; simpa using this
  refine wpAny_execs_cons ?_
  iterate 5 (walk_at "go")
  refine newListW F N (Wd.like X rfl rfl rfl) ?_ (by size_fits)
  intro s₂ D F₂ N₂ X₂ _ hD₀
  iterate 2 (walk_at "go")
  rename_i s₃ F₃ N₃ X₃
  refine for_range (base := s.heap) hA'.hh (fun i m news => IInv D Du i (ist us i) m news) false s rfl rfl ?_
  repeat' (walk_at "go")
  refine Calls.call_len_list (hl.at fun o e => F₃.keep _ o e) (by rw [hil]; omega) ?_
  repeat' (walk_at "go")
  refine ⟨_, _, us.length, _, _, _, _, _, rfl, by assumption, by rw [hil], by omega, by assumption, by assumption, by assumption, ?_, ?_, ?_⟩
  · exact ⟨[], _, 0, rfl, .nil, (fun y hm => nomatch hm), Nat.zero_le _, Nat.le_of_eq len_nil, rfl, rfl⟩
  · rintro i tp m₁ news₁ s₄ own hi ⟨vs, t, n, rfl, hv, hy, hr, hp, e1, e2⟩ hoo X₄ F₄ N₄
    have hc : us[i]? = some us[i] := by simp [hi]
    rw [ist_succ hc]
    have e : ov [(Str.ofString "items", .ref D), (Str.ofString "units", .ref Du)] m₁ = m₁ := ov_self (by
      intro p hp
      simp only [List.mem_cons, List.not_mem_nil, or_false] at hp
      rcases hp with rfl | rfl
      · exact e1
      · exact e2)
    rw [← e] at F₄
    have hq := hus us[i] (List.getElem_mem hi)
    exact wpAny_mono (items_turn G hA' F₄ N₄ hoo X₄ hv hy hr hp hl hu hsz hc hq.1 hq.2) (fun f s₃ h₃ => h₃.mono fun m n h => by obtain ⟨σ', rfl, a5⟩ := h; exact a5) fun _ _ e => e
  · rintro m₁ news₁ s₄ ⟨vs, t, n, rfl, hv, hy, hr, hp, e1, e2⟩ X₄ F₄ N₄
    have e : ov [(Str.ofString "items", .ref D)] m₁ = m₁ := ov_self (by
      intro p hp
      simp only [List.mem_cons, List.not_mem_nil, or_false] at hp
      rcases hp with rfl
      exact e1)
    rw [← e] at F₄
    simp only [ov] at F₄
    have hI₄ := N₄.isList (.head _)
    iterate 2 (walk_at "go")
    refine comp_strip hA'.hh (by decide +kernel) (by decide +kernel) (by rfl) (by decide +kernel) (by rfl) (by decide +kernel) (by intro _; rfl) (by intro _; rfl) ?_
    repeat' (walk_at "go")
    · rename_i hne
      have hne' : (ist us us.length).last ≠ Str.ofString "" := by simpa using hne
      refine ⟨D, _, (ist us us.length).init ++ [(ist us us.length).last], rfl, hI₄, hv.append' (.cons _ _ .nil), ?_, ?_, ?_⟩
      · intro y hm
        rcases List.mem_append.mp hm with hm | hm
        · have := hy y hm; omega
        · rw [List.mem_singleton.mp hm]; omega
      · rw [List.length_append, List.length_singleton]; omega
      · intro s' D' ys X' hk hnew hpl hs
        refine hR s' D' ys (X₄.step X' rfl rfl rfl) (fun b o e => hk b o (F₄.keep b o e)) ?_ hpl ?_
        · cases hq : s.heap.get? D' with
          | none => rfl
          | some o => rw [F₄.keep _ _ hq] at hnew; cases hnew
        · unfold itemsStr
          rw [if_pos hne']; exact hs
    · rename_i hne
      have hne' : ¬ (ist us us.length).last ≠ Str.ofString "" := by simpa using hne
      refine sliceW (part_none (part_some ?_))
      iterate 3 (walk_at "go")
      refine part_none ?_
      intro s₅ sl₅ X₅ k₅ hsl₅
      refine sliceTail (lo := none) (hi := some (-1)) (st := none) (hI₄.at fun o e => k₅ _ o e) hsl₅ .none (.int _ _) .none (by simp) ?_ ?_ rfl
      · intro s₆ D₆ X₆ k₆ _ hD₆
        rw [show (-1 : Int) = -((1 : Nat) : Int) from rfl, slicePick_butLast _ 1 (Nat.le_refl _)] at hD₆
        have ez : ((vs ++ [Value.str (ist us us.length).last t]).toArray.toList.take ((vs ++ [Value.str (ist us us.length).last t]).toArray.size - 1)) = vs := by simp
        rw [ez] at hD₆
        refine ⟨D₆, _, (ist us us.length).init, rfl, hD₆.isList, hv, ?_, ?_, ?_⟩
        · intro y hm; have := hy y hm; omega
        · omega
        · intro s' D' ys X' hk hnew hpl hs
          refine hR s' D' ys ((X₄.step X₅ rfl rfl rfl).trans (X₆.trans X')) (fun b o e => hk b o (k₆ b o (k₅ b o (F₄.keep b o e)))) ?_ hpl ?_
          · cases hq : s.heap.get? D' with
            | none => rfl
            | some o => rw [k₆ _ _ (k₅ _ _ (F₄.keep _ _ hq))] at hnew; cases hnew
          · unfold itemsStr
            rw [if_neg hne']; exact hs
      · rw [List.size_toArray, List.length_append, List.length_singleton, StrsAre.length hv]; show _ ≤ 2 ^ 24; omega

/-! ## what striking does -/
theorem join_le (y : Str) : ∀ ps : List Str, (Str.join ⟨#[]⟩ ps).length ≤ (Str.join y ps).length
  | [] => Nat.le_refl _
  | [_] => Nat.le_refl _
  | p :: q :: r => by
    have ih := join_le y (q :: r)
    show (p ++ ⟨#[]⟩ ++ Str.join ⟨#[]⟩ (q :: r)).length ≤ (p ++ y ++ Str.join y (q :: r)).length
    simp only [Str.length_append]
    have : (⟨#[]⟩ : Str).length = 0 := rfl
    omega
theorem join_lt (y : Str) (p q : Str) (r : List Str) : (Str.join ⟨#[]⟩ (p :: q :: r)).length + y.length ≤ (Str.join y (p :: q :: r)).length := by
  have ih := join_le y (q :: r)
  show (p ++ ⟨#[]⟩ ++ Str.join ⟨#[]⟩ (q :: r)).length + _ ≤ (p ++ y ++ Str.join y (q :: r)).length
  simp only [Str.length_append]
  have : (⟨#[]⟩ : Str).length = 0 := rfl
  omega
def rep1 (w : Str) : Str := Txt.replace w (Str.ofString "()") (Str.ofString "")
theorem rep_cases (w : Str) : (rep1 w = w ∧ Builtin.Str.occurrences w (Str.ofString "()") 0 w.length (w.length + 1) = []) ∨ ∃ p q r, w = Str.join (Str.ofString "()") (p :: q :: r) ∧ rep1 w = Str.join ⟨#[]⟩ (p :: q :: r) := by
  unfold rep1 Txt.replace
  generalize ho : Builtin.Str.occurrences w (Str.ofString "()") 0 w.length (w.length + 1) = cuts
  have hl : (Str.ofString "()").length = 2 := by decide +kernel
  cases cuts with
  | nil => left; exact ⟨rfl, rfl⟩
  | cons c r =>
    right
    obtain ⟨f, hc⟩ := StrLaws.occ_chain w (Str.ofString "()") (w.length + 1)
    rw [ho] at hc
    have hj := StrLaws.join_partsFrom w (Str.ofString "()") (c :: r) 0 f hc
    rw [StrLaws.sub_whole] at hj
    obtain ⟨p, q, e⟩ := StrLaws.partsFrom_ne w (Str.ofString "()").length (c + (Str.ofString "()").length) r
    have e' : StrLaws.partsFrom w (Str.ofString "()").length 0 (c :: r) = Builtin.Str.strSub w 0 c :: p :: q := by
      show _ :: _ = _
      rw [e]
    rw [e'] at hj
    refine ⟨_, _, _, hj.symm, ?_⟩
    rw [if_neg (by rw [hl]; simp), StrLaws.glued_eq_join, StrLaws.partsBetween_eq, e']
    rfl
theorem rep_le (w : Str) : (rep1 w).length ≤ w.length := by
  rcases rep_cases w with ⟨h, _⟩ | ⟨p, q, r, h1, h2⟩
  · rw [h]; exact Nat.le_refl _
  · rw [h2]
    have := join_le (Str.ofString "()") (p :: q :: r)
    rw [← h1] at this; exact this
def repN : Nat → Str → Str
  | 0, w => w
  | n + 1, w => rep1 (repN n w)
theorem repN_le (w : Str) : ∀ n, (repN n w).length ≤ w.length
  | 0 => Nat.le_refl _
  | n + 1 => Nat.le_trans (rep_le _) (repN_le w n)

/-! ## sizes of units -/
theorem ust_len (x : Str) : ∀ i, (ust x i).us.length ≤ i ∧ ∀ q ∈ (ust x i).us, 0 < q.2.length ∧ q.2.length ≤ 2
  | 0 => ⟨Nat.le_refl _, fun q hq => nomatch hq⟩
  | i + 1 => by
    obtain ⟨h1, h2⟩ := ust_len x i
    show (ustep i (ust x i) (x.cps.getD i 0)).us.length ≤ i + 1 ∧ ∀ q ∈ (ustep i (ust x i) (x.cps.getD i 0)).us, _
    generalize x.cps.getD i 0 = c
    unfold ustep
    dsimp only
    have hb : (Str.ofString "\\" ++ (⟨#[c]⟩ : Str)).length = 2 := by
      rw [Str.length_append, show (Str.ofString "\\").length = 1 by decide +kernel]; rfl
    split
    · refine ⟨by rw [List.length_append, List.length_singleton]; omega, fun q hq => ?_⟩
      rcases List.mem_append.mp hq with hq | hq
      · exact h2 q hq
      · rw [List.mem_singleton.mp hq]; dsimp only; omega
    · split
      · exact ⟨by omega, h2⟩
      · refine ⟨by rw [List.length_append, List.length_singleton]; omega, fun q hq => ?_⟩
        rcases List.mem_append.mp hq with hq | hq
        · exact h2 q hq
        · rw [List.mem_singleton.mp hq]; exact ⟨Nat.one_pos, by show 1 ≤ 2; omega⟩
theorem units_len (x : Str) : (unitsStr x).length ≤ x.length + 1 ∧ ∀ q ∈ unitsStr x, 0 < q.2.length ∧ q.2.length ≤ 2 := by
  obtain ⟨h1, h2⟩ := ust_len x x.cps.size
  have hl : x.length = x.cps.size := rfl
  unfold unitsStr
  split
  · refine ⟨by rw [List.length_append, List.length_singleton]; omega, fun q hq => ?_⟩
    rcases List.mem_append.mp hq with hq | hq
    · exact h2 q hq
    · rw [List.mem_singleton.mp hq]; dsimp only; rw [show (Str.ofString "\\").length = 1 by decide +kernel]; omega
  · exact ⟨by omega, h2⟩
theorem sum_le (k : Nat) : ∀ (ys : List Str), (∀ y ∈ ys, y.length ≤ k) → (ys.map (·.length)).sum ≤ ys.length * k
  | [], _ => by simp
  | y :: r, h => by
    have h1 := h y (.head _)
    have h2 := sum_le k r fun z hz => h z (.tail _ hz)
    rw [List.map_cons, List.sum_cons, List.length_cons, Nat.succ_mul]
    omega
theorem join_nil_len : ∀ (ys : List Str), (Txt.join (Str.ofString "") ys).length = (ys.map (·.length)).sum := by
  intro ys
  unfold Txt.join
  rw [StrLaws.glued_eq_join]
  show (Str.join ⟨#[]⟩ ys).length = _
  induction ys with
  | nil => rfl
  | cons y r ih =>
    rw [join_nil_cons, Str.length_append, ih]; rfl

/-! ## _law_closes -/
def parP (q : Nat × Str) : Bool := Str.ofString "(" == q.2 || Str.ofString ")" == q.2
def wordStr (x : Str) : Str := Txt.join (Str.ofString "") (((unitsStr x).filter parP).map (·.2))
def closesStr (x : Str) : Bool := repN (wordStr x).length (wordStr x) == Str.ofString ""
theorem word_sum (x : Str) (hx : x.length ≤ 500) : (((((unitsStr x).filter parP).map (·.2)).map (·.length)).sum ≤ 1002) ∧ (((unitsStr x).filter parP).map (·.2)).length ≤ 501 := by
  obtain ⟨h1, h2⟩ := units_len x
  have h3 : (((unitsStr x).filter parP).map (·.2)).length ≤ 501 := by
    rw [List.length_map]; have := List.length_filter_le parP (unitsStr x); omega
  have h4 := sum_le 2 (((unitsStr x).filter parP).map (·.2)) (fun y hy => by
    obtain ⟨q, hq, rfl⟩ := List.mem_map.mp hy
    exact (h2 q (List.mem_filter.mp hq).1).2)
  exact ⟨by omega, h3⟩

theorem closes_spec {prog : Program} {w : World} {A : Around} {s : Shared} {mg mb : Str → Option Value} {fa : Addr} {x : Str} {t : Tok} {R : Result → Shared → Prop} (G : Gd mg mb s.heap) (hA : Rm 2 A) (hfa : mg (Str.ofString "_law_closes") = some (.ref fa)) (hx : x.length ≤ 500)
    (hR : ∀ s', Wd false s s' → (∀ b o, s.heap.get? b = some o → s'.heap.get? b = some o) → R (.ok (.ret (.bool (closesStr x)))) s') :
    codeAny (model prog w) A (.call (.ref fa) ⟨[.str x t], []⟩) R s := by
  refine enter (i := 13) (binds := [(Str.ofString "left", .str x t)]) G (by decide) hA hfa (fun _ _ _ => rfl) (by rfl) (fun s₁ cd F N X => ?_)
  have hA' := hA.deeper (envOf (fname (fnAt 13)) (fscope (fnAt 13)) s.heap.objs.size fa cd)
  refine wpAny_execs_cons ?_
  iterate 3 (walk_at "go")
  refine GM.join ?_
  iterate 2 (walk_at "go")
  refine comp_pairs parP (fun q y => ∃ u, y = .str q.2 u) hA'.hh (by decide +kernel) (by decide +kernel) rfl (by decide +kernel) rfl rfl (by decide +kernel) ?_
  have G₁ := G.keeps F.keep
  refine callF (i := 9) G₁ (by decide) (fun fb hfb => ?_)
  iterate 3 (walk_at "go")
  refine ⟨fun _ _ e => e, units_spec G₁ (hA'.less (by omega)) hfb hx ?_⟩
  intro s₂ D vs X₂ k₂ new₂ hD hT
  obtain ⟨hu1, hu2⟩ := units_len x
  obtain ⟨hw1, hw2⟩ := word_sum x hx
  have hvs : vs.size = (unitsStr x).length := by have := hT.length; simpa using this
  refine ⟨D, vs, unitsStr x, rfl, hD.isList, hT, by rw [hvs]; show _ ≤ 2 ^ 24; omega, ?_, ?_, ?_⟩
  · intro C q t u s₄ m₄ E' _ hn _ hb _
    refine wpAny_tests_one ?_
    iterate 1 (walk_at "go")
    refine ldC hn hb ?_
    iterate 6 (walk_at "go")
    refine wpAny_newTuple ?_ (by size_fits)
    refine inTup2 ⟨_, Heap.get?_push_size _ rfl, rfl, _, rfl⟩ ?_
    iterate 1 (walk_at "go")
    refine ⟨rfl, _, _, rfl, fun _ _ e => Heap.get?_push_of_some _ e⟩
  · intro C q t u s₄ m₄ E' _ _ hn _ hb _
    exact ldC hn hb ⟨⟨_, rfl⟩, s₄.heap, s₄.toks, rfl, fun _ _ e => e⟩
  intro s₃ D₃ ys X₃ k₃ _ hD₃ hp
  have hys := strs_of_pairs hp
  iterate 1 (walk_at "go")
  refine join_list hD₃.isList hys ?_ (fun t' k' => ?_)
  · show _ + _ * 0 ≤ _; omega
  have F₃ := F.keeps fun b o e => k₃ b o (k₂ b o e)
  have W₃ : Wd false s s₃ := (X.step X₂ rfl rfl rfl).trans X₃
  change wpAny _ _ (storeName _ _ (Value.str (wordStr x) t')) _ _ _
  have hwl : (wordStr x).length ≤ 1002 := by unfold wordStr; rw [join_nil_len]; omega
  have hcl : closesStr x = (repN (wordStr x).length (wordStr x) == Str.ofString "") := rfl
  generalize wordStr x = wd at hwl hcl
  have N₃ : News s.heap s.heap.objs.size s₃.heap [] := News.nil
  refine stW F₃ N₃ (Wd.like W₃ rfl rfl rfl) ?_
  intro s₄ F₄ N₄ X₄
  iterate 1 (walk_at "go")
  refine for_rangeT (base := s.heap) hA'.hh (fun i m news => news = [] ∧ ∃ t, m (Str.ofString "word") = some (.str (repN i wd) t)) false s rfl rfl ?_
  repeat' (walk_at "go")
  refine ⟨_, _, wd.length, _, _, _, _, _, rfl, by assumption, rfl, by omega, by assumption, by assumption, by assumption, ?_, ?_, ?_⟩
  · exact ⟨rfl, _, rfl⟩
  · rintro i tp m₁ news₁ s₅ own ht0 hi ⟨rfl, t₁, e1⟩ hoo X₅ F₅ N₅
    have e : ov [(Str.ofString "word", .str (repN i wd) t₁)] m₁ = m₁ := ov_self (by
      intro p hp
      simp only [List.mem_cons, List.not_mem_nil, or_false] at hp
      rcases hp with rfl
      exact e1)
    rw [← e] at F₅
    simp only [ov] at F₅
    have hrl : (repN i wd).length ≤ 1002 := Nat.le_trans (repN_le wd i) hwl
    refine wpAny_execs_cons ?_
    iterate 3 (walk_at "go")
    refine GM.replace ?_
    iterate 6 (walk_at "go")
    refine SC.replaceW (by exact Nat.ne_of_gt ht0) (by exact Nat.succ_ne_zero _) (by exact Nat.ne_of_lt (Nat.lt_succ_self _)) (by decide +kernel) (by omega) (by decide +kernel) (fun t₂ k₂ => ?_)
    iterate 2 (walk_at "go")
    rename_i s₆ F₆ N₆ X₆
    exact turn_next (news' := []) F₆ N₆ hoo X₆ ⟨rfl, _, rfl⟩
  · rintro m₁ news₁ s₅ ⟨rfl, t₁, e1⟩ X₅ F₅ N₅
    have e : ov [(Str.ofString "word", .str (repN wd.length wd) t₁)] m₁ = m₁ := ov_self (by
      intro p hp
      simp only [List.mem_cons, List.not_mem_nil, or_false] at hp
      rcases hp with rfl
      exact e1)
    rw [← e] at F₅
    simp only [ov] at F₅
    iterate 6 (walk_at "go")
    rw [← hcl]
    exact hR _ (Wd.like X₅ rfl rfl rfl) F₅.keep

/-! ## a def with a name that its comprehension reads -/
section
variable {M : Model} {A : Around} {E : Value → Shared → Prop} {s s₀ : Shared} {g : Bool} {name : Str} {scope : Scope} {L a : Addr} {cd : Value} {base : Heap} {m : Str → Option Value} {news : List (Addr × Obj)}
theorem stWC {x : Str} {v : Value} {Q : Unit → Shared → Prop} (F : Fr base L s.heap m) (N : News base L s.heap news) (X : Wd g s₀ s)
    (h : ∀ s', Fr base L s'.heap (fun y => if y = x then some v else m y) → News base L s'.heap news → Wd g s₀ s' → Q () s')
    (hk : scope.kind = .function := by rfl) (hl : (envOfC name scope L a cd).kindOf x = some .local := by rfl) :
    wpAny M A (storeName (envOfC name scope L a cd) x v) Q E s := stLocN F N (fun _ F' N' => h _ F' N' X.upd) hk hl
end
section
variable {prog : Program} {w : World} {A : Around} {E : Value → Shared → Prop} {s : Shared} {mg mb : Str → Option Value} {env : Env}
theorem enterC {i : Nat} {fa : Addr} {x : Str} {v : Value} {R : Result → Shared → Prop} {k : Nat} (G : Gd mg mb s.heap) (hi : i ∈ fnIxs) (hA : Rm k A) (hfa : mg (fname (fnAt i)) = some (.ref fa))
    (hbind : ∀ pm cd doc, bindArgs (docDef (fname (fnAt i)) (fparams (fnAt i)) (fbody (fnAt i)) (fscope (fnAt i)) pm cd doc) ⟨[v], []⟩ = pure [(x, v)])
    (hx : (fscope (fnAt i)).names.lookup x = some .cell) (hc : ∀ n, cellsFrom n (fscope (fnAt i)).names [] = [(x, n)])
    (h : ∀ s₁ cd o, o.data = .cell (some v) → Fr s.heap s.heap.objs.size s₁.heap (fun _ => none) → News s.heap s.heap.objs.size s₁.heap [(s.heap.objs.size + 1, o)] → Wd false s s₁ →
      wpAny (model prog w) (A.deeper (envOfC (fname (fnAt i)) (fscope (fnAt i)) s.heap.objs.size fa cd)) (execs (fbody (fnAt i)) (envOfC (fname (fnAt i)) (fscope (fnAt i)) s.heap.objs.size fa cd))
        (fun f s' => R (.ok (.ret (match f with | .ret v => v | _ => .none))) s') (fun _ _ => False) s₁)
    (hco : (fscope (fnAt i)).isCoroutine = false := by rfl) (hgen : (fscope (fnAt i)).isGenerator = false := by rfl) (hk : (fscope (fnAt i)).kind = .function := by rfl) :
    codeAny (model prog w) A (.call (.ref fa) ⟨[v], []⟩) R s := by
  obtain ⟨a, o, pm, code, doc, h1, h2, h3, h4⟩ := G.fn i hi
  obtain rfl : fa = a := by rw [hfa] at h1; cases h1; rfl
  refine call_cellsN_ret hA.room h2 h3 G.nolimit h4 (hbind pm code doc) ?_ (by rw [hc]; simp) (fun h₁ tk cells F N C => ?_) hco hgen hk
  · intro y hy
    rw [List.mem_singleton.mp hy]
    exact .inr ⟨hx, by rw [hc]; simp⟩
  · rw [hc] at C
    obtain ⟨oc, rfl, hd⟩ := C.one
    have hkx : (envOfC (fname (fnAt i)) (fscope (fnAt i)) s.heap.objs.size fa code).kindOf x = some .cell := hx
    have e1 : bindL (envOfC (fname (fnAt i)) (fscope (fnAt i)) s.heap.objs.size fa code).kindOf [(x, v)] (fun _ => none) = fun _ => none := by
      unfold bindL bindL; rw [hkx]; rfl
    have e2 : bindC (envOfC (fname (fnAt i)) (fscope (fnAt i)) s.heap.objs.size fa code).kindOf [(x, v)] (fun _ => none) x = some v := by
      unfold bindC bindC; rw [hkx]; simp
    rw [e1] at F
    rw [e2] at hd
    exact h { s with heap := h₁, toks := tk } code oc hd F N Wd.refl.upd

/-- a comprehension over a text, its element reading a cell -/
theorem comp_strC {elt iter : Expr} {x : Str} {px : Pos} {ifs : List Expr} {scope : Scope} {cl : List (Str × Addr)} {pos : Pos} {Q : Value → Shared → Prop} (p : Nat → Bool) (f : Nat → Str) (hh : A.handled = none)
    (hclos : closureFor scope env = pure cl) (hcell : ∀ y ∈ scope.names, y.2 ≠ .cell) (hkind : scope.kind = .function)
    (hnames : ∀ y ∈ scope.names, y.2 = .local → scope.names.lookup y.1 = some .local) (hx : scope.names.lookup x = some .local)
    (h : wpAny (model prog w) A (eval iter env) (fun xv s₁ => ∃ xt tx, xv = .str xt tx ∧ xt.cps.size ≤ sizeLine ∧
      (∀ C c t s₂ m₂ E', c ∈ xt.cps.toList → s₂.heap.Ns C m₂ → m₂ x = some (.str ⟨#[c]⟩ t) → (∀ b o, s₁.heap.get? b = some o → s₂.heap.get? b = some o) →
        wpAny (model prog w) A (forIn ifs true fun c r => if r = true then do let ok ← isTrue c (compEnvC scope cl C env) (eval c (compEnvC scope cl C env)); pure (ForInStep.yield ok) else pure (ForInStep.yield r))
          (fun ok s₃ => ok = p c ∧ Keeps s₂ s₃) E' s₂) ∧
      (∀ C c t s₂ m₂ E', c ∈ xt.cps.toList → p c = true → s₂.heap.Ns C m₂ → m₂ x = some (.str ⟨#[c]⟩ t) → (∀ b o, s₁.heap.get? b = some o → s₂.heap.get? b = some o) → wpAny (model prog w) A (eval elt (compEnvC scope cl C env)) (fun y s₃ => (∃ u, y = .str (f c) u) ∧ Keeps s₂ s₃) E' s₂) ∧
      (∀ s' D ys, Wd false s₁ s' → (∀ b o, s₁.heap.get? b = some o → s'.heap.get? b = some o) → s₁.heap.get? D = none → s'.heap.PlainList D ys → StrsAre ys.toList ((xt.cps.toList.filter p).map f) → Q (.ref D) s')) E s)
    (hs : ∀ x, foldedSetIterable iter env x = pure x := by intro _; rfl) :
    wpAny (model prog w) A (eval (.ListComp elt [⟨.Name x px, iter, ifs, 0⟩] scope pos) env) Q E s := by
  let p' : Value → Bool := fun v => match v with | .str y _ => p (y.cps.getD 0 0) | _ => false
  refine wpAny_ListComp_free p' (fun (v y : Value) => ∀ c t, v = .str ⟨#[c]⟩ t → ∃ u, y = .str (f c) u) hclos hcell hkind hnames hx (wpAny_mono h (fun xv s₁ h₁ => ?_) fun _ _ e => e) hs
  obtain ⟨xt, tx, rfl, hsz, ht, he, hQ⟩ := h₁
  have nI : ∀ b o, s₁.heap.get? b = some o → b ∉ [s₁.heap.objs.size] := fun b o e hb => absurd (Heap.lt_size e) ((List.mem_singleton.mp hb) ▸ Nat.lt_irrefl _)
  have all : ∀ (T : Str → Tok → Nat → Heap → Prop) (o : Obj), Walks prog w A s₁.heap.objs.size [s₁.heap.objs.size] [s₁.heap.objs.size] xt.cps.size (SignAt xt) (T xt tx) → T xt tx 0 (s₁.heap.push o) →
      ∃ I fp wr n P St, Value.ref s₁.heap.objs.size = .ref I ∧ Walks prog w A I fp wr n P St ∧ n ≤ sizeLine ∧ St 0 (s₁.heap.push o) ∧ (∀ b ∈ fp, b < (s₁.heap.push o).objs.size) ∧
      QuietOnC prog w A env scope cl x ifs elt wr P p' (fun (v y : Value) => ∀ c t, v = .str ⟨#[c]⟩ t → ∃ u, y = .str (f c) u) { s₁ with heap := s₁.heap.push o } ∧
      (∀ D h' tk ys (vs : List Value), (s₁.heap.push o).get? D = none → h'.IsList D ys → h'.PlainList D ys → vs.length = n → (∀ j v, vs[j]? = some v → P j v) → Paired (fun (v y : Value) => ∀ c t, v = .str ⟨#[c]⟩ t → ∃ u, y = .str (f c) u) (vs.filter p') ys.toList →
        (∀ b o', b ∉ wr → (s₁.heap.push o).get? b = some o' → h'.get? b = some o') → Q (.ref D) { s₁ with heap := h', toks := tk }) := by
    intro T o W hst
    refine ⟨_, _, _, _, _, _, rfl, W, hsz, hst, ?_, ⟨?_, ?_⟩, ?_⟩
    · intro b hb
      rw [Heap.size_push, List.mem_singleton.mp hb]; exact Nat.lt_succ_self _
    · rintro C i v s₃ m₃ E' _ ⟨c, t, hc, rfl⟩ hn hm hk _
      have hmem : c ∈ xt.cps.toList := by have := Array.mem_of_getElem? hc; simpa using this
      exact ht C c t s₃ m₃ E' hmem hn hm fun b o e => hk b o (nI b o e) (Heap.get?_push_of_some _ e)
    · rintro C i v s₃ m₃ E' _ ⟨c, t, hc, rfl⟩ hp hn hm hk _
      have hmem : c ∈ xt.cps.toList := by have := Array.mem_of_getElem? hc; simpa using this
      refine wpAny_mono (he C c t s₃ m₃ E' hmem hp hn hm fun b o e => hk b o (nI b o e) (Heap.get?_push_of_some _ e)) (fun y s₄ h₄ => ⟨fun c' t' e => ?_, h₄.2⟩) fun _ _ e => e
      cases e; exact h₄.1
    · intro D h' tk ys vs hD _ hpl hlen hP hF hk
      refine hQ _ D ys Wd.refl.upd (fun b o e => hk b o (nI b o e) (Heap.get?_push_of_some _ e)) ?_ hpl ?_
      · cases hq : s₁.heap.get? D with
        | none => rfl
        | some o' => have := Heap.get?_push_of_some o hq; exact absurd (hD.symm.trans this) (by simp)
      · have key : ∀ (l : List Nat) (vs : List Value), vs.length = l.length → (∀ (j : Nat) (v : Value), vs[j]? = some v → ∃ c t, l[j]? = some c ∧ v = Value.str ⟨#[c]⟩ t) → ∀ zs, Paired (fun (v y : Value) => ∀ c t, v = .str ⟨#[c]⟩ t → ∃ u, y = .str (f c) u) (vs.filter p') zs → StrsAre zs ((l.filter p).map f) := by
          intro l
          induction l with
          | nil =>
            intro vs hl _ zs hz
            have e0 : vs = [] := List.eq_nil_of_length_eq_zero (by simpa using hl)
            rw [e0] at hz
            cases hz; exact .nil
          | cons c r ih =>
            intro vs hl hv zs hz
            cases vs with
            | nil => simp at hl
            | cons v vs =>
              obtain ⟨c', t, e1, rfl⟩ := hv 0 v rfl
              obtain rfl : c = c' := by simpa using e1
              have ih' := ih vs (by simpa using hl) (fun j v' e => by simpa using hv (j + 1) v' (by simpa using e))
              have ep : p' (.str ⟨#[c]⟩ t) = p c := rfl
              rw [List.filter_cons, ep] at hz
              rw [List.filter_cons]
              cases hpc : p c with
              | false => rw [hpc] at hz; exact ih' zs (by simpa using hz)
              | true =>
                rw [hpc] at hz
                simp only [if_true] at hz ⊢
                cases hz with
                | cons h1 h2 =>
                  obtain ⟨u, rfl⟩ := h1 c t rfl
                  exact .cons _ _ (ih' _ h2)
        exact key xt.cps.toList vs (by rw [hlen]; simp) (fun j v e => by
          obtain ⟨c, t, hc, rfl⟩ := hP j v e
          exact ⟨c, t, by simpa using hc, rfl⟩) ys.toList hF
  cases ha : xt.cps.all (· < 128)
  · exact wpAny_pyIter_wide ha (all (fun x t i h => h.IsStrIter s₁.heap.objs.size "str_iterator" x t i) _ (Walks.strWide hh _ xt tx) ⟨_, Heap.get?_push_size _ rfl, rfl, rfl⟩)
  · exact wpAny_pyIter_ascii ha (all (fun x t i h => h.IsStrIter s₁.heap.objs.size "str_ascii_iterator" x t i) _ (Walks.strAscii hh _ xt tx) ⟨_, Heap.get?_push_size _ rfl, rfl, rfl⟩)
end

/-! ## _law_left -/
local macro_rules | `(tactic| walk_at "goc") => `(tactic| first
  | ((with_reducible show wpAny _ _ (storeName _ _ _) _ _ _); refine stWC (by assumption) (by assumption) (by first | assumption | (refine Wd.like (by assumption) ?_ ?_ ?_ <;> rfl)) ?_; intro s' F' N' X')
  | ((with_reducible show wpAny _ _ (eval (Expr.Name (Str.ofString "units") _) _) _ _ _); refine ldCN (by assumption) (by rfl) (.head _) (by assumption) ?_)
  | ((with_reducible show wpAny _ _ (eval (Expr.Name (Str.ofString "line") _) _) _ _ _); refine ldLoc (by assumption) (by rfl) ?_)
  | ((with_reducible show wpAny _ _ (eval (Expr.Name (Str.ofString "number") _) _) _ _ _); refine ldLoc (by assumption) (by rfl) ?_)
  | ((with_reducible show wpAny _ _ (eval (Expr.Name (Str.ofString "left") _) _) _ _ _); refine ldLoc (by assumption) (by rfl) ?_)
  | ((with_reducible show wpAny _ _ (eval (Expr.Name (Str.ofString "item") _) _) _ _ _); refine ldLoc (by assumption) (by rfl) ?_)
  | ((with_reducible show wpAny _ _ (eval (Expr.Name (Str.ofString "marks") _) _) _ _ _); refine ldLoc (by assumption) (by rfl) ?_)
  | walk_at "go")

/-! every sign of an item is a sign of the text -/
def InSigns (x : Str) (y : Str) : Prop := ∀ c ∈ y.cps.toList, c ∈ x.cps.toList
theorem strip_signs (y : Str) : (∀ c ∈ (Txt.strip y).cps.toList, c ∈ y.cps.toList) ∧ (Txt.strip y).length ≤ y.length := by
  unfold Txt.strip
  rw [PyProof.Rows.stripBy_eq]
  refine ⟨fun c hc => ?_, ?_⟩
  · rw [StrLaws.strSub_toList] at hc
    exact List.mem_of_mem_drop (List.mem_of_mem_take hc)
  · show (Builtin.Str.strSub y _ _).cps.size ≤ y.cps.size
    rw [← Array.length_toList, StrLaws.strSub_toList, List.length_take, List.length_drop, Array.length_toList]
    omega
theorem toList_snoc (x : Str) (c : Nat) : (x ++ (⟨#[c]⟩ : Str)).cps.toList = x.cps.toList ++ [c] := by
  rw [Str.cps_append, Array.toList_append]
structure PFine (x : Str) (k : Nat) (σ : PSt) : Prop where
  r : ∀ y ∈ σ.res, InSigns x y ∧ y.length ≤ k
  p : InSigns x σ.part ∧ σ.part.length ≤ k
  n : σ.res.length ≤ k
theorem pfine_step {x : Str} {k c : Nat} {σ : PSt} (h : PFine x k σ) (hc : c ∈ x.cps.toList) : PFine x (k + 1) (pstep σ c) := by
  obtain ⟨hr, hp, hn⟩ := h
  have h1 : InSigns x (σ.part ++ ⟨#[c]⟩) ∧ (σ.part ++ (⟨#[c]⟩ : Str)).length ≤ k + 1 := ⟨fun d hd => by
    rw [toList_snoc] at hd
    rcases List.mem_append.mp hd with hd | hd
    · exact hp.1 d hd
    · rw [List.mem_singleton.mp hd]; exact hc, by rw [len_snoc]; omega⟩
  have hr' : ∀ y ∈ σ.res, InSigns x y ∧ y.length ≤ k + 1 := fun y hy => ⟨(hr y hy).1, by have := (hr y hy).2; omega⟩
  unfold pstep
  split
  · exact ⟨hr', h1, by show σ.res.length ≤ k + 1; omega⟩
  · split
    · split
      · exact ⟨hr', ⟨hp.1, by show σ.part.length ≤ k + 1; omega⟩, by show σ.res.length ≤ k + 1; omega⟩
      · exact ⟨hr', h1, by show σ.res.length ≤ k + 1; omega⟩
    · split
      · refine ⟨fun y hy => ?_, ⟨fun d hd => ?_, ?_⟩, ?_⟩
        · rcases List.mem_append.mp hy with hy | hy
          · exact hr' y hy
          · rw [List.mem_singleton.mp hy]; exact ⟨hp.1, by omega⟩
        · rw [show (Str.ofString "").cps.toList = [] by decide +kernel] at hd; cases hd
        · show (Str.ofString "").length ≤ k + 1; rw [len_nil]; omega
        · show (σ.res ++ [σ.part]).length ≤ k + 1; rw [List.length_append, List.length_singleton]; omega
      · exact ⟨hr', h1, by show σ.res.length ≤ k + 1; omega⟩
theorem pfine (x : Str) : ∀ i, i ≤ x.cps.size → PFine x i (pst x i)
  | 0, _ => ⟨fun y hy => (nomatch hy), ⟨fun d hd => by
      have : d ∈ (Str.ofString "").cps.toList := hd
      rw [show (Str.ofString "").cps.toList = [] by decide +kernel] at this; exact (nomatch this), by show (Str.ofString "").length ≤ 0; rw [len_nil]; exact Nat.le_refl _⟩, Nat.le_refl _⟩
  | i + 1, h => by
    have hc : x.cps[i]? = some x.cps[i] := by simp
    rw [pst_succ hc]
    exact pfine_step (pfine x i (by omega)) (by simp)
theorem parse_fine (x : Str) : (∀ y ∈ parseStr x, InSigns x y ∧ y.length ≤ x.length) ∧ (parseStr x).length ≤ x.length + 1 := by
  obtain ⟨hr, hp, hn⟩ := pfine x x.cps.size (Nat.le_refl _)
  have hl : x.length = x.cps.size := rfl
  unfold parseStr
  have key : ∀ y, InSigns x y ∧ y.length ≤ x.cps.size → InSigns x (Txt.strip y) ∧ (Txt.strip y).length ≤ x.length := fun y hy =>
    ⟨fun c hc => hy.1 c ((strip_signs y).1 c hc), by have := (strip_signs y).2; omega⟩
  split
  · refine ⟨fun y hy => ?_, ?_⟩
    · obtain ⟨z, hz, rfl⟩ := List.mem_map.mp hy
      rcases List.mem_append.mp hz with hz | hz
      · exact key z (hr z hz)
      · rw [List.mem_singleton.mp hz]; exact key _ hp
    · rw [List.length_map, List.length_append, List.length_singleton]; omega
  · refine ⟨fun y hy => ?_, ?_⟩
    · obtain ⟨z, hz, rfl⟩ := List.mem_map.mp hy
      exact key z (hr z hz)
    · rw [List.length_map]; omega

/-! the line and what is left of it -/
def lineN (us : List (Nat × Str)) : Nat → Str
  | 0 => Str.ofString ""
  | i + 1 => (lineN us i ++ (if (us.getD i (0, Str.ofString "")).2 = Str.ofString "\"" then Str.ofString "\"" else (⟨#[256 + i]⟩ : Str))) ++ Str.ofString ","
theorem lineN_succ {us : List (Nat × Str)} {i : Nat} {q : Nat × Str} (h : us[i]? = some q) : lineN us (i + 1) = (lineN us i ++ (if q.2 = Str.ofString "\"" then Str.ofString "\"" else (⟨#[256 + i]⟩ : Str))) ++ Str.ofString "," := by
  show (lineN us i ++ (if (us.getD i (0, Str.ofString "")).2 = Str.ofString "\"" then _ else _)) ++ _ = _
  rw [List.getD_eq_getElem?_getD, h]; rfl
theorem line_fine (us : List (Nat × Str)) : ∀ i, (lineN us i).length = 2 * i ∧ ∀ c ∈ (lineN us i).cps.toList, c = 34 ∨ c = 44 ∨ (256 ≤ c ∧ c < 256 + i)
  | 0 => ⟨len_nil, fun c hc => by
      have hc' : c ∈ (Str.ofString "").cps.toList := hc
      rw [show (Str.ofString "").cps.toList = [] by decide +kernel] at hc'; cases hc'⟩
  | i + 1 => by
    obtain ⟨h1, h2⟩ := line_fine us i
    show ((lineN us i ++ _) ++ Str.ofString ",").length = _ ∧ ∀ c ∈ ((lineN us i ++ _) ++ Str.ofString ",").cps.toList, _
    have e1 : (Str.ofString ",") = ⟨#[44]⟩ := by decide +kernel
    have e2 : (Str.ofString "\"") = ⟨#[34]⟩ := by decide +kernel
    rw [e1, e2]
    split
    · refine ⟨by rw [len_snoc, len_snoc]; omega, fun c hc => ?_⟩
      rw [toList_snoc, toList_snoc] at hc
      simp only [List.mem_append, List.mem_singleton] at hc
      rcases hc with (hc | hc) | hc
      · have := h2 c hc; omega
      · omega
      · omega
    · refine ⟨by rw [len_snoc, len_snoc]; omega, fun c hc => ?_⟩
      rw [toList_snoc, toList_snoc] at hc
      simp only [List.mem_append, List.mem_singleton] at hc
      rcases hc with (hc | hc) | hc
      · have := h2 c hc; omega
      · omega
      · omega
def letP (c : Nat) : Bool := !Txt.contains (Str.ofString "\",") ⟨#[c]⟩
def letF (us : List (Nat × Str)) (c : Nat) : Str := (us.getD (c - 256) (0, Str.ofString "")).2
def leftStep (us : List (Nat × Str)) (left item : Str) : Str :=
  if Txt.count item (Str.ofString "\"") < 2 then (left ++ Txt.mul (Str.ofString "\"") (Txt.count item (Str.ofString "\""))) ++ Txt.join (Str.ofString "") ((item.cps.toList.filter letP).map (letF us)) else left
def leftStr (us : List (Nat × Str)) : Str := (parseStr (lineN us us.length)).foldl (leftStep us) (Str.ofString "")
theorem letP_off {c : Nat} (h : letP c = true) : c ≠ 34 ∧ c ≠ 44 := by
  refine ⟨fun e => ?_, fun e => ?_⟩
  · subst e; exact absurd h (by decide +kernel)
  · subst e; exact absurd h (by decide +kernel)
theorem left_small {us : List (Nat × Str)} (hus : ∀ q ∈ us, q.2.length ≤ 2) {left item : Str} {k : Nat} (hl : left.length ≤ k * 1000) (hi : item.length ≤ 400) :
    (leftStep us left item).length ≤ (k + 1) * 1000 ∧ (((item.cps.toList.filter letP).map (letF us)).map (·.length)).sum ≤ 800 ∧ (left ++ Txt.mul (Str.ofString "\"") 1).length ≤ k * 1000 + 1 := by
  have h1 : ((item.cps.toList.filter letP).map (letF us)).length ≤ 400 := by
    rw [List.length_map]
    have e1 := List.length_filter_le letP item.cps.toList
    have e2 : item.cps.toList.length = item.length := by simp [Str.length]
    omega
  have h2 := sum_le 2 ((item.cps.toList.filter letP).map (letF us)) (fun y hy => by
    obtain ⟨c, _, rfl⟩ := List.mem_map.mp hy
    unfold letF
    rw [List.getD_eq_getElem?_getD]
    cases e : us[c - 256]? with
    | none => exact Nat.le_trans (Nat.le_of_eq len_nil) (by omega)
    | some q => exact hus q (List.mem_of_getElem? e))
  have h3 : ∀ n : Int, n < 2 → (Txt.mul (Str.ofString "\"") n).length ≤ 1 := fun n hn => by
    unfold Txt.mul
    split
    · exact Nat.zero_le _
    · have : n = 1 := by omega
      subst this
      decide +kernel
  refine ⟨?_, by omega, ?_⟩
  · unfold leftStep
    split
    · rename_i hc
      rw [Str.length_append, Str.length_append, join_nil_len]
      have := h3 _ hc
      omega
    · omega
  · rw [Str.length_append]; have := h3 1 (by decide); omega
section
variable {prog : Program} {w : World} {A : Around} {E : Value → Shared → Prop} {s : Shared} {env : Env}
theorem ldCL {x : Str} {pos : Pos} {C : Addr} {scope : Scope} {cl : List (Str × Addr)} {m : Str → Option Value} {v : Value} {Q : Value → Shared → Prop} (hn : s.heap.Ns C m) (hv : m x = some v) (h : Q v s)
    (hk : (compEnvC scope cl C env).scope.kind = .function := by rfl) (hl : (compEnvC scope cl C env).kindOf x = some .local := by rfl) (hd : (x == ("__debug__" : Str)) = false := by decide +kernel) :
    wpAny (model prog w) A (eval (.Name x pos) (compEnvC scope cl C env)) Q E s := wpAny_Name (wpAny_loadName_local hk hl hn hv h) hd
theorem ldCX {x : Str} {pos : Pos} {C c : Addr} {scope : Scope} {cl : List (Str × Addr)} {o : Obj} {v : Value} {Q : Value → Shared → Prop} (hc : cl.lookup x = some c) (ho : s.heap.get? c = some o) (hd' : o.data = .cell (some v)) (h : Q v s)
    (hk : (compEnvC scope cl C env).scope.kind = .function := by rfl) (hl : (compEnvC scope cl C env).kindOf x = some .cell := by rfl) (hd : (x == ("__debug__" : Str)) = false := by decide +kernel) :
    wpAny (model prog w) A (eval (.Name x pos) (compEnvC scope cl C env)) Q E s := wpAny_Name (wpAny_loadName_cell hk hl hc ⟨o, ho, hd'⟩ h) hd
end
theorem left_spec {prog : Program} {w : World} {A : Around} {s : Shared} {mg mb : Str → Option Value} {fa Du : Addr} {items : Array Value} {us : List (Nat × Str)} {R : Result → Shared → Prop} (G : Gd mg mb s.heap) (hA : Rm 2 A) (hfa : mg (Str.ofString "_law_left") = some (.ref fa))
    (hl : s.heap.IsList Du items) (hu : TupsAt s.heap items.toList us) (hsz : us.length ≤ 150) (hus : ∀ q ∈ us, 0 < q.2.length ∧ q.2.length ≤ 2)
    (hR : ∀ s' t, Wd false s s' → (∀ b o, s.heap.get? b = some o → s'.heap.get? b = some o) → R (.ok (.ret (.str (leftStr us) t))) s') :
    codeAny (model prog w) A (.call (.ref fa) ⟨[.ref Du], []⟩) R s := by
  refine enterC (i := 12) (x := Str.ofString "units") G (by decide) hA hfa (fun _ _ _ => rfl) (by rfl) (fun _ => rfl) (fun s₁ cd oc hoc F N X => ?_)
  have hA' := hA.deeper (envOfC (fname (fnAt 12)) (fscope (fnAt 12)) s.heap.objs.size fa cd)
  have hil : items.size = us.length := by have := hu.length; simpa using this
  obtain ⟨hlf1, hlf2⟩ := line_fine us us.length
  refine wpAny_execs_cons ?_
  iterate 4 (walk_at "goc")
  rename_i s₂ F₂ N₂ X₂
  refine for_range (base := s.heap) hA'.hh (fun i m news => news = [(s.heap.objs.size + 1, oc)] ∧ ∃ t, m (Str.ofString "line") = some (.str (lineN us i) t)) false s rfl rfl ?_
  repeat' (walk_at "goc")
  refine Calls.call_len_list (hl.at fun o e => F₂.keep _ o e) (by rw [hil]; omega) ?_
  repeat' (walk_at "goc")
  refine ⟨_, _, us.length, _, _, _, _, _, rfl, by assumption, by rw [hil], by omega, by assumption, by assumption, by assumption, ?_, ?_, ?_⟩
  · exact ⟨rfl, _, rfl⟩
  · rintro i tp m₁ news₁ s₄ own hi ⟨rfl, t₁, e1⟩ hoo X₄ F₄ N₄
    have hc : us[i]? = some us[i] := by simp [hi]
    rw [lineN_succ hc]
    have e : ov [(Str.ofString "line", .str (lineN us i) t₁)] m₁ = m₁ := ov_self (by
      intro p hp
      simp only [List.mem_cons, List.not_mem_nil, or_false] at hp
      rcases hp with rfl
      exact e1)
    rw [← e] at F₄
    simp only [ov] at F₄
    obtain ⟨hl1, _⟩ := line_fine us i
    obtain ⟨T, tp', tu, hT, hTo⟩ := hu.get hc
    have hT' : items[i]? = some (.ref T) := by simpa using hT
    generalize us[i] = q at hc hTo
    refine wpAny_execs_cons ?_
    have hqb : ∀ t u, (if q.2 = Str.ofString "\"" then Str.ofString "\"" else (⟨#[256 + i]⟩ : Str)).length ≤ 1 + t + u := fun t u => by
      split
      · exact Nat.le_trans (by decide +kernel : (Str.ofString "\"").length ≤ 1) (by omega)
      · exact Nat.le_trans (Nat.le_of_eq (len_one _)) (by omega)
    have hq1 : (Str.ofString "\"").length = 1 := by decide +kernel
    have hq2 := len_one (256 + i)
    have hq3 : (Str.ofString ",").length = 1 := by decide +kernel
    iterate 10 (walk_at "goc")
    refine itemList (hl.at fun o e => F₄.keep _ o e) hT' (by omega) ?_
    iterate 1 (walk_at "goc")
    refine itemTup (j := 1) (x := .str q.2 tu) (tupObj_tup (F₄.keep _ _ hTo)) rfl (by decide) ?_
    repeat' (walk_at "goc")
    · rename_i hm _ _ _ _ s₅ F₅ N₅ X₅
      have hm' : q.2 = Str.ofString "\"" := by simpa using hm
      rw [if_pos hm']
      exact turn_next (news' := [(s.heap.objs.size + 1, oc)]) F₅ N₅ hoo X₅ ⟨rfl, _, rfl⟩
    · rename_i hm _ _ _ _ s₅ F₅ N₅ X₅
      have hm' : ¬ q.2 = Str.ofString "\"" := by simpa using hm
      rw [if_neg hm']
      rw [show ((256 : Int) + (i : Int)).toNat = 256 + i by omega] at F₅
      exact turn_next (news' := [(s.heap.objs.size + 1, oc)]) F₅ N₅ hoo X₅ ⟨rfl, _, rfl⟩
  · rintro m₁ news₁ s₄ ⟨rfl, t₁, e1⟩ X₄ F₄ N₄
    have e : ov [(Str.ofString "line", .str (lineN us us.length) t₁)] m₁ = m₁ := ov_self (by
      intro p hp
      simp only [List.mem_cons, List.not_mem_nil, or_false] at hp
      rcases hp with rfl
      exact e1)
    rw [← e] at F₄
    simp only [ov] at F₄
    obtain ⟨hpf1, hpf2⟩ := parse_fine (lineN us us.length)
    have hls : leftStr us = (parseStr (lineN us us.length)).foldl (leftStep us) (Str.ofString "") := rfl
    iterate 5 (walk_at "goc")
    rename_i s₅ F₅ N₅ X₅
    refine for_list (base := s.heap) hA'.hh (fun i m news => news = [(s.heap.objs.size + 1, oc)] ∧ ∃ t, m (Str.ofString "left") = some (.str (((parseStr (lineN us us.length)).take i).foldl (leftStep us) (Str.ofString "")) t) ∧ (((parseStr (lineN us us.length)).take i).foldl (leftStep us) (Str.ofString "")).length ≤ i * 1000) false s rfl rfl ?_
    have G₅ := G.keeps F₅.keep
    refine callF (i := 1) G₅ (by decide) (fun fb hfb => ?_)
    iterate 3 (walk_at "goc")
    refine ⟨fun _ _ e => e, parse_spec G₅ (hA'.less (by omega)) hfb (by omega) ?_⟩
    intro s₆ D₆ vs₆ X₆ k₆ new₆ hD₆ hv₆
    generalize parseStr (lineN us us.length) = ps at hpf1 hpf2 hv₆ hls
    have hvl : vs₆.toList.length = ps.length := StrsAre.length hv₆
    refine ⟨D₆, vs₆, _, [(s.heap.objs.size + 1, oc)], rfl, hD₆.isList, ?_, ?_, F₅.keeps k₆, news_keeps N₅ k₆, X₅.step X₆ rfl rfl rfl, ⟨rfl, _, rfl, by show (Str.ofString "").length ≤ _; rw [len_nil]; exact Nat.zero_le _⟩, ?_, ?_⟩
    · intro q
      obtain ⟨oL, _, _, hL, _⟩ := F₅.ns
      have new₆' : s₅.heap.get? D₆ = none := new₆
      rw [q] at new₆'
      exact absurd (hL.symm.trans new₆') (by simp)
    · intro p hp q
      have new₆' : s₅.heap.get? D₆ = none := new₆
      have := (N₅ p hp).1
      rw [q, new₆'] at this; cases this
    · rintro i v m₂ news₂ s₇ own hv ⟨rfl, t₂, e2, hsm⟩ hoo X₇ F₇ N₇
      obtain ⟨it, ti, rfl, hit⟩ := StrsAre.item hv₆ i v (by simpa using hv)
      have hitm := hpf1 it (List.mem_of_getElem? hit)
      have hip : i < ps.length := (List.getElem?_eq_some_iff.mp hit).1
      rw [List.take_add_one, hit, Option.toList_some, List.foldl_append, List.foldl_cons, List.foldl_nil]
      generalize (List.take i ps).foldl (leftStep us) (Str.ofString "") = lf at e2 hsm
      obtain ⟨hs1, hs2, hs3⟩ := left_small (us := us) (fun q hq => (hus q hq).2) hsm (show it.length ≤ 400 by omega)
      have e : ov [(Str.ofString "left", .str lf t₂)] m₂ = m₂ := ov_self (by
        intro p hp
        simp only [List.mem_cons, List.not_mem_nil, or_false] at hp
        rcases hp with rfl
        exact e2)
      rw [← e] at F₇
      simp only [ov] at F₇
      refine wpAny_execs_cons ?_
      iterate 3 (walk_at "goc")
      refine GM.count ?_
      iterate 4 (walk_at "goc")
      refine SC.count ?_
      iterate 9 (walk_at "goc")
      · rename_i s₈ F₈ N₈ X₈ hlt
        have hlt' : Txt.count it (Str.ofString "\"") < 2 := by simpa using hlt
        have hge := (count_bounds it (Str.ofString "\"")).1
        have estep : leftStep us lf it = (lf ++ Txt.mul (Str.ofString "\"") (Txt.count it (Str.ofString "\""))) ++ Txt.join (Str.ofString "") ((it.cps.toList.filter letP).map (letF us)) := by
          unfold leftStep; rw [if_pos hlt']
        rw [estep] at hs1 ⊢
        generalize Txt.count it (Str.ofString "\"") = cn at *
        have hmok : MulOk (Str.ofString "\"") cn := by
          refine ⟨?_, fun h1 h2 => ?_, fun h1 h2 => ?_⟩
          · have e : (2 : Int) ^ 63 = 9223372036854775808 := by decide
            rw [e, decide_eq_false (by omega), decide_eq_false (by omega)]; rfl
          · have : cn = 1 := by omega
            subst this; simp at h2
          · have : cn = 1 := by omega
            subst this; simp at h2
        have hml : (Txt.mul (Str.ofString "\"") cn).length ≤ 1 := by
          unfold Txt.mul
          split
          · exact Nat.zero_le _
          · have : cn = 1 := by omega
            subst this; decide +kernel
        iterate 7 (walk_at "goc")
        refine SB.mul hmok (fun t₉ k₉ => ?_)
        generalize Txt.mul (Str.ofString "\"") cn = mk at *
        iterate 8 (walk_at "goc")
        rename_i s₉ F₉ N₉ X₉
        refine GM.join ?_
        iterate 2 (walk_at "goc")
        have up₉ : ∀ b o, s.heap.get? b = some o → s₉.heap.get? b = some o := F₉.keep
        have cell₉ := (N₉ _ (.head _)).1
        refine comp_strC (cl := [(Str.ofString "units", s.heap.objs.size + 1)]) letP (letF us) hA'.hh (by rfl) (by decide +kernel) rfl (by decide +kernel) rfl ?_
        iterate 1 (walk_at "goc")
        refine ⟨it, _, rfl, by show it.length ≤ 2 ^ 24; omega, ?_, ?_, ?_⟩
        · intro C c t s₁₀ m₁₀ E' _ hn hb _
          refine wpAny_tests_one ?_
          iterate 1 (walk_at "goc")
          refine ldCL hn hb ?_
          iterate 1 (walk_at "goc")
          refine SB.notContains ?_
          iterate 1 (walk_at "goc")
          exact ⟨rfl, s₁₀.heap, _, rfl, fun _ _ e => e⟩
        · intro C c t s₁₀ m₁₀ E' hcm hp hn hb hk₁₀
          have hcr := hlf2 c (hitm.1 c hcm)
          have hco := letP_off hp
          have hc1 : 256 ≤ c := by omega
          have hc2 : c - 256 < us.length := by omega
          have hq : us[c - 256]? = some us[c - 256] := by simp [hc2]
          obtain ⟨T, tp', tu, hT, hTo⟩ := hu.get hq
          have hT' : items[c - 256]? = some (.ref T) := by simpa using hT
          have hlF : letF us c = us[c - 256].2 := by unfold letF; rw [List.getD_eq_getElem?_getD, hq]; rfl
          iterate 2 (walk_at "goc")
          refine ldCX (c := s.heap.objs.size + 1) (cl := [(Str.ofString "units", s.heap.objs.size + 1)]) rfl (hk₁₀ _ _ cell₉) hoc ?_
          iterate 2 (walk_at "goc")
          refine nameB (G.keeps fun b o e => hk₁₀ b o (up₉ b o e)) nmOrd ?_
          iterate 2 (walk_at "goc")
          refine ldCL hn hb ?_
          iterate 1 (walk_at "goc")
          refine P.ord_of_char ?_
          iterate 2 (walk_at "goc")
          rw [show (c : Int) - 256 = ((c - 256 : Nat) : Int) by omega]
          refine itemList (hl.at fun o e => hk₁₀ _ o (up₉ _ o e)) hT' (by omega) ?_
          iterate 1 (walk_at "goc")
          refine itemTup (j := 1) (x := .str us[c - 256].2 tu) (tupObj_tup (hk₁₀ _ _ (up₉ _ _ hTo))) rfl (by decide) ?_
          exact ⟨⟨_, by rw [hlF]⟩, s₁₀.heap, _, rfl, fun _ _ e => e⟩
        · intro s₁₀ D₁₀ ys X₁₀ k₁₀ _ hD₁₀ hys
          iterate 1 (walk_at "goc")
          refine join_list hD₁₀.isList hys ?_ (fun t' k' => ?_)
          · show _ + _ * 0 ≤ _; omega
          have hjl := join_nil_len ((it.cps.toList.filter letP).map (letF us))
          generalize Txt.join (Str.ofString "") ((it.cps.toList.filter letP).map (letF us)) = jn at *
          have F₁₀ := F₉.keeps k₁₀
          have N₁₀ := news_keeps N₉ k₁₀
          have X₁₀' := X₉.step X₁₀ rfl rfl rfl
          have hln : (lf ++ mk).length ≤ i * 1000 + 1 := by rw [Str.length_append]; omega
          iterate 2 (walk_at "goc")
          rename_i s₁₁ F₁₁ N₁₁ X₁₁
          iterate 2 (walk_at "goc")
          exact turn_next (news' := [(s.heap.objs.size + 1, oc)]) F₁₁ N₁₁ hoo X₁₁ ⟨rfl, _, rfl, hs1⟩
      · rename_i s₈ F₈ N₈ X₈ hlt
        have hlt' : ¬ Txt.count it (Str.ofString "\"") < 2 := by simpa using hlt
        have estep : leftStep us lf it = lf := by unfold leftStep; rw [if_neg hlt']
        rw [estep] at hs1 ⊢
        iterate 2 (walk_at "goc")
        exact turn_next (news' := [(s.heap.objs.size + 1, oc)]) F₈ N₈ hoo (Wd.like X₈ rfl rfl rfl) ⟨rfl, _, rfl, hs1⟩
    · rintro m₂ news₂ s₇ ⟨rfl, t₂, e2, hsm⟩ X₇ F₇ N₇
      rw [List.take_of_length_le (by rw [← hvl]; simp), ← hls] at e2
      have e : ov [(Str.ofString "left", .str (leftStr us) t₂)] m₂ = m₂ := ov_self (by
        intro p hp
        simp only [List.mem_cons, List.not_mem_nil, or_false] at hp
        rcases hp with rfl
        exact e2)
      rw [← e] at F₇
      simp only [ov] at F₇
      iterate 3 (walk_at "goc")
      exact hR _ _ (Wd.like X₇ rfl rfl rfl) F₇.keep

/-! ## statements of a generator's body -/
section
variable {M : Model} {A : Around} {R : GenEnd} {Y : Protocol} {n : Nat} {s₀ : Shared} {c : Code} {fs : List Frame} {s : Shared} {env : Env}
  {K : Flow → Sem Fin} {H : Value → Sem Fin} {gd : Bool → Bool} {lv : List Value → List Value}
theorem seg_If {test : Expr} {body orelse : List Stmt} {pos : Pos}
    (h : wpAny M (A.over c fs) (isTrue test env (eval test env)) (fun b s' => if b = true then Seg M A R Y n s₀ c ((execs body env).wrap K H gd lv) fs s' else Seg M A R Y n s₀ c ((execs orelse env).wrap K H gd lv) fs s') (fun _ _ => False) s) :
    Seg M A R Y n s₀ c ((exec (.If test body orelse pos) env).wrap K H gd lv) fs s := by
  rw [exec_If]
  refine seg_bind_wrap (wpAny_standAt (seg_bind_wrap (wpAny_mono h (fun b s' hb => ?_) fun _ _ e => e.elim)))
  cases b with
  | true => exact hb
  | false => exact hb
theorem seg_plain {st : Stmt} (h : wpAny M (A.over c fs) (exec st env) (fun f s' => Seg M A R Y n s₀ c (K f) fs s') (fun _ _ => False) s) : Seg M A R Y n s₀ c ((exec st env).wrap K H gd lv) fs s :=
  seg_wrap (wpAny_mono h (fun _ _ e => e) fun _ _ e => e.elim)
def ownK (env : Env) (K : Flow → Sem Fin) (H : Value → Sem Fin) (gd : Bool → Bool) (lv : List Value → List Value) (r : Result) : Sem Fin :=
  ((match r with | .ok f => (.pure f : Sem Flow) | .error e => .raise e).onRaise fun (x : Value) => do
        if (← field x 1) == Value.none then unsupported "frame.own-activation:exception-without-traceback"
        setFlight x env.frame).wrap K H gd lv
theorem seg_For {target iter : Expr} {body orelse : List Stmt} {pos : Pos}
    (h : wpAny M (A.over c fs) (eval iter env) (fun x s₁ => wpAny M (A.over c fs) (pyIter x) (fun it s₂ => ∀ p, Seg M A R Y n s₀ (.forLoop target it body orelse env) (M.den (.forLoop target it body orelse env))
      (.ret (ownK env K H gd lv) none (gd false) (lv []) c p [] :: fs) s₂) (fun _ _ => False) s₁) (fun _ _ => False) s)
    (hs : ∀ x, foldedSetIterable iter env x = pure x := by intro _; rfl) :
    Seg M A R Y n s₀ c ((exec (.For target iter body orelse pos) env).wrap K H gd lv) fs s := by
  rw [exec_For]
  refine seg_bind_wrap (wpAny_standAt (seg_bind_wrap (wpAny_mono h (fun x s₁ h₁ => ?_) fun _ _ e => e.elim)))
  refine seg_bind_wrap (wpAny_of_eq (hs x) (seg_bind_wrap (wpAny_standAt (seg_bind_wrap (wpAny_holding (wpAny_mono h₁ (fun it s₂ h₂ => ?_) fun _ _ e => e.elim))))))
  exact seg_call h₂
end
section
variable {prog : Program} {w : World} {A : Around} {R : GenEnd} {Y : Protocol} {n : Nat} {s₀ : Shared} {fs : List Frame} {s : Shared} {env : Env}
def forK (target : Expr) (it : Value) (body orelse : List Stmt) (env : Env) (f : Flow) : Sem Fin :=
  match f with
  | .next | .cont => .pure (.again (.forLoop target it body orelse env))
  | .brk => .pure (.done .next)
  | .ret v => .pure (.done (.ret v))
def forH (env : Env) (e : Value) : Sem Fin := (do noteFrame e env; theTreesLotGoes e : Sem Unit).wrap (fun _ => .raise e) .raise id id
theorem seg_forLoop {target : Expr} {it : Value} {body orelse : List Stmt}
    (h : wpAny (model prog w) (A.over (.forLoop target it body orelse env) fs) (pyNext it) (fun r s₁ => match r with
      | none => Seg (model prog w) A R Y n s₀ (.block orelse env) ((model prog w).den (.block orelse env)) fs s₁
      | some v => wpAny (model prog w) (A.over (.forLoop target it body orelse env) fs) (letOwnedTupleGo target it v) (fun _ s₂ => wpAny (model prog w) (A.over (.forLoop target it body orelse env) fs) (assign target env v) (fun _ s₃ =>
          Seg (model prog w) A R Y n s₀ (.forLoop target it body orelse env) ((execs body env).wrap (forK target it body orelse env) (forH env) id id) fs s₃) (fun _ _ => False) s₂) (fun _ _ => False) s₁) (fun _ _ => False) s)
    : Seg (model prog w) A R Y n s₀ (.forLoop target it body orelse env) ((model prog w).den (.forLoop target it body orelse env)) fs s := by
  show Seg _ A R Y n s₀ _ ((forTurn target it body orelse env).onRaise (fun x => do noteFrame x env; theTreesLotGoes x)) fs s
  unfold forTurn
  rw [Sem.onRaise_eq_wrap]
  refine seg_bind_wrap (wpAny_standAt (seg_bind_wrap (wpAny_onRaise (wpAny_mono h (fun r s₁ h₁ => ?_) fun _ _ e => e.elim))))
  cases r with
  | none => exact seg_again rfl h₁
  | some v =>
    refine seg_bind_wrap (wpAny_mono h₁ (fun _ s₂ h₂ => seg_bind_wrap (wpAny_mono h₂ (fun _ s₃ h₃ => ?_) fun _ _ e => e.elim)) fun _ _ e => e.elim)
    rw [Sem.bind_eq_wrap', Sem.wrap_wrap]
    rw [Sem.wrap_congr (execs body env) _ _ (K' := forK target it body orelse env) (H' := forH env)
        (fun f => by cases f <;> rfl)
        (fun e => by first | exact Sem.bind_eq_wrap _ _ | (show (do noteFrame e env; theTreesLotGoes e : Sem Unit).bind (fun _ => .raise e) = _; rw [Sem.bind_eq_wrap]; rfl))]
    exact h₃
end

/-! ## _iter_escaped_chars -/
def genFrom : List Nat → Nat → Bool → List (Nat × Str)
  | [], i, esc => if esc = true then [(i - 1, Str.ofString "\\")] else []
  | c :: r, i, true => (i, Str.ofString "\\" ++ (⟨#[c]⟩ : Str)) :: genFrom r (i + 1) false
  | c :: r, i, false => if c = 92 then genFrom r (i + 1) true else (i, (⟨#[c]⟩ : Str)) :: genFrom r (i + 1) false
def genStr (x : Str) : List (Nat × Str) := genFrom x.cps.toList 0 false

def GenS (C n0 : Addr) (s₀ s : Shared) : Prop := ∃ h' tk, s = { s₀ with heap := h', toks := tk } ∧ ∀ b o, b ≠ C → b ≠ n0 → b ≠ n0 + 1 → s₀.heap.get? b = some o → h'.get? b = some o
theorem GenS.refl (C n0 : Addr) (s : Shared) : GenS C n0 s s := ⟨s.heap, s.toks, rfl, fun _ _ _ _ _ e => e⟩
theorem GenS.step {C n0 : Addr} {s₀ s : Shared} (x : GenS C n0 s₀ s) {h' : Heap} {tk : Nat} (hk : ∀ b o, b ≠ C → b ≠ n0 → b ≠ n0 + 1 → s.heap.get? b = some o → h'.get? b = some o) : GenS C n0 s₀ { s with heap := h', toks := tk } := by
  obtain ⟨h₁, tk₁, rfl, hk₁⟩ := x
  exact ⟨h', tk, rfl, fun b o h1 h2 h3 e => hk b o h1 h2 h3 (hk₁ b o h1 h2 h3 e)⟩
def Own3 (C n0 b : Addr) : Prop := b = C ∨ b = n0 ∨ b = n0 + 1
def Kp (b h : Heap) : Prop := ∀ a o, b.get? a = some o → h.get? a = some o
def genY (base : Heap) (us : List (Nat × Str)) (C n0 : Addr) : Protocol := fun m s₀ v s kap =>
  (∃ T p y t u, v = .ref T ∧ us[us.length - 1 - m]? = some (p, y) ∧ s.heap.get? T = some (tupObj p t y u) ∧ s₀.heap.get? T = none ∧ ¬ Own3 C n0 T) ∧ GenS C n0 s₀ s ∧ (∀ b, Own3 C n0 b → b < s.heap.objs.size) ∧
    ∀ s'' : Shared, Kp base s''.heap → (∀ b o, Own3 C n0 b → s.heap.get? b = some o → s''.heap.get? b = some o) → kap (.send .none) s''
def genR (C n0 : Addr) : GenEnd := fun n s₀ r s₁ => r = .ok (.ret .none) ∧ (n = 0 ∧ GenS C n0 s₀ s₁)

theorem drawsU {prog : Program} {w : World} {A : Around} (hh : A.handled = none) (it : Addr) (x : Str) (t : Tok) :
    Draws prog w A it [it] x.cps.size (fun i v => ∃ c u, x.cps[i]? = some c ∧ v = .str ⟨#[c]⟩ u) (fun i h => h.IsStrIter it (strIterType x) x t i) := by
  unfold strIterType
  cases ha : x.cps.all (· < 128)
  · simpa using Draws.strWide hh it x t
  · simpa using Draws.strAscii hh it x t
section
variable {prog : Program} {w : World} {A : Around} {E : Value → Shared → Prop} {s : Shared} {env : Env}
theorem ldNs {x : Str} {pos : Pos} {m : Str → Option Value} {v : Value} {Q : Value → Shared → Prop} (hn : s.heap.Ns env.locals m) (hv : m x = some v) (h : Q v s)
    (hk : env.scope.kind = .function := by rfl) (hl : env.kindOf x = some .local := by rfl) (hd : (x == ("__debug__" : Str)) = false := by decide +kernel) :
    wpAny (model prog w) A (eval (.Name x pos) env) Q E s := wpAny_Name (wpAny_loadName_local hk hl hn hv h) hd
end
theorem next_none {s : Shared} : s.heap.get? s.heap.objs.size = none := by
  cases e : s.heap.get? s.heap.objs.size with
  | none => rfl
  | some o => exact absurd (Heap.lt_size e) (Nat.lt_irrefl _)
theorem at_suffix {us pre : List (Nat × Str)} {q : Nat × Str} {r : List (Nat × Str)} (h : us = pre ++ q :: r) : us[us.length - 1 - r.length]? = some q := by
  subst h
  have e : (pre ++ q :: r).length - 1 - r.length = pre.length := by
    rw [List.length_append, List.length_cons]; omega
  rw [e, List.getElem?_append_right (Nat.le_refl _), Nat.sub_self]; rfl

def genFor : Option Stmt := (fbody (fnAt 3))[2]?
def forTarget : Option Stmt → Expr
  | some (.For t _ _ _ _) => t
  | _ => .Name Str.empty default

theorem gen_yield {prog : Program} {w : World} {A : Around} {base : Heap} {us pre rest : List (Nat × Str)} {C n0 : Addr} {s₀ s : Shared} {p : Nat} {t u : Tok} {y : Str} {R : GenEnd} {c : Code} {fs : List Frame} {tt : Sem Fin} {ss : Shared}
    (hus : us = pre ++ (p, y) :: rest) (hS : GenS C n0 s₀ s) (hex : ∀ b, Own3 C n0 b → b < s.heap.objs.size) (hss : ss = { s with heap := s.heap.push (tupObj p t y u), toks := ss.toks })
    (hgo : ∀ s'' : Shared, Kp base s''.heap → (∀ b o, Own3 C n0 b → s.heap.get? b = some o → s''.heap.get? b = some o) → Seg (model prog w) A R (genY base us C n0) rest.length s'' c tt fs s'')
    (kap : Resume → Shared → Prop) (hk : ∀ x s'', (match x with | .ref _ => False | _ => Seg (model prog w) A R (genY base us C n0) rest.length s'' c tt fs s'') → kap (.send x) s'') :
    genY base us C n0 rest.length s₀ (.ref s.heap.objs.size) ss kap := by
  have hheap : ss.heap = s.heap.push (tupObj p t y u) := by rw [hss]
  refine ⟨⟨s.heap.objs.size, p, y, t, u, rfl, at_suffix hus, ?_, ?_, ?_⟩, ?_, ?_, ?_⟩
  · rw [hheap]; exact Heap.get?_push_size _ rfl
  · cases e : s₀.heap.get? s.heap.objs.size with
    | none => rfl
    | some o =>
      obtain ⟨h₁, tk₁, rfl, hk₁⟩ := hS
      by_cases ho : Own3 C n0 h₁.objs.size
      · exact absurd (hex _ ho) (Nat.lt_irrefl _)
      · have := hk₁ _ o (fun q => ho (.inl q)) (fun q => ho (.inr (.inl q))) (fun q => ho (.inr (.inr q))) e
        exact absurd (Heap.lt_size this) (Nat.lt_irrefl _)
  · intro ho
    exact absurd (hex _ ho) (Nat.lt_irrefl _)
  · rw [hss]
    exact hS.step fun b o _ _ _ e => Heap.get?_push_of_some _ e
  · intro b hb
    rw [hheap, Heap.size_push]
    exact Nat.lt_succ_of_lt (hex b hb)
  · intro s'' hG hkeep
    refine hk .none s'' ?_
    exact hgo s'' hG fun b o hb e => hkeep b o hb (by rw [hheap]; exact Heap.get?_push_of_some _ e)
theorem gen_loop {prog : Program} {w : World} {A : Around} {base : Heap} {us : List (Nat × Str)} {C n0 fa : Addr} {cd : Value} {x : Str} {tx : Tok} {c : Code} {KK : Result → Sem Fin} {p : Pos}
    (hh : A.handled = none) (hC0 : C ≠ n0) (hC1 : C ≠ n0 + 1)
    (hend : ∀ esc s₀ s m tp, s.heap.Ns C m → m (Str.ofString "pos") = some (.int ((x.cps.size - 1 : Nat) : Int) tp) → m (Str.ofString "escape") = some (.bool esc) → GenS C n0 s₀ s → (∀ b, Own3 C n0 b → b < s.heap.objs.size) →
      (∃ pre, us = pre ++ genFrom [] x.cps.size esc) → Seg (model prog w) A (genR C n0) (genY base us C n0) (genFrom [] x.cps.size esc).length s₀ c (KK (.ok .next)) [] s) :
    ∀ (k i : Nat) (esc : Bool) (s₀ s : Shared) (m : Str → Option Value) (tp : Tok), x.cps.size - i = k → i ≤ x.cps.size → ((∃ old, IsEnum s.heap (n0 + 1) n0 i old) ∧ s.heap.IsStrIter n0 (strIterType x) x tx i) → s.heap.Ns C m →
      m (Str.ofString "pos") = some (.int ((i - 1 : Nat) : Int) tp) → m (Str.ofString "escape") = some (.bool esc) → GenS C n0 s₀ s → (∃ pre, us = pre ++ genFrom (x.cps.toList.drop i) i esc) →
      Seg (model prog w) A (genR C n0) (genY base us C n0) (genFrom (x.cps.toList.drop i) i esc).length s₀ (.forLoop (forTarget genFor) (.ref (n0 + 1)) (forBody genFor) [] (envOf (fname (fnAt 3)) (fscope (fnAt 3)) C fa cd))
        ((model prog w).den (.forLoop (forTarget genFor) (.ref (n0 + 1)) (forBody genFor) [] (envOf (fname (fnAt 3)) (fscope (fnAt 3)) C fa cd))) [.ret KK none false [] c p []] s := by
  have hh' : (A.over (.forLoop (forTarget genFor) (.ref (n0 + 1)) (forBody genFor) [] (envOf (fname (fnAt 3)) (fscope (fnAt 3)) C fa cd)) [.ret KK none false [] c p []]).handled = none := hh
  have DR := drawsU (prog := prog) (w := w) (A := (A.over (.forLoop (forTarget genFor) (.ref (n0 + 1)) (forBody genFor) [] (envOf (fname (fnAt 3)) (fscope (fnAt 3)) C fa cd)) [.ret KK none false [] c p []]).in1) hh' n0 x tx
  have WT := WalksT.enumerateD DR (n0 + 1) (Nat.succ_ne_self n0) (by simp) (by simp)
  have hCw : C ∉ [n0 + 1, n0] := by simp [hC0, hC1]
  have own_ex : ∀ {s : Shared} {m : Str → Option Value} {i : Nat}, ((∃ old, IsEnum s.heap (n0 + 1) n0 i old) ∧ s.heap.IsStrIter n0 (strIterType x) x tx i) → s.heap.Ns C m → ∀ b, Own3 C n0 b → b < s.heap.objs.size := by
    rintro s m i ⟨⟨old, he⟩, ⟨o, ho, _⟩⟩ hn b (rfl | rfl | rfl)
    · exact hn.lt
    · exact Heap.lt_size ho
    · exact Heap.lt_size he
  intro k
  induction k with
  | zero =>
    intro i esc s₀ s m tp hk hi hst hn hpos hesc hS hpre
    have hin : i = x.cps.size := by omega
    subst hin
    have hd : x.cps.toList.drop x.cps.size = [] := List.drop_of_length_le (by simp)
    rw [hd] at hpre ⊢
    obtain ⟨⟨old, he⟩, hit⟩ := hst
    refine seg_forLoop (wpAny_pyNext_enum_endD DR he hit fun h' hk' => ?_)
    have he' := hk' _ _ (Nat.succ_ne_self n0) he
    refine seg_leaf (.ok .next) (hend esc s₀ _ m tp (hn.at' fun o e => hk' _ o hC0 e) hpos hesc (hS.step fun b o h1 h2 h3 e => hk' b o h2 e) ?_ hpre)
    rintro b (rfl | rfl | rfl)
    · exact (hn.at' fun o e => hk' _ o hC0 e).lt
    · exact Nat.lt_of_succ_lt (Heap.lt_size he')
    · exact Heap.lt_size he'
  | succ k ih =>
    intro i esc s₀ s m tp hk hi hst hn hpos hesc hS hpre
    have hlt : i < x.cps.size := by omega
    have hc : x.cps[i]? = some x.cps[i] := by simp
    have hd : x.cps.toList.drop i = x.cps[i] :: x.cps.toList.drop (i + 1) := by
      rw [List.drop_eq_getElem_cons (by simpa using hlt)]; simp
    refine seg_forLoop (WT.item i s _ _ hlt hst fun T vals h₁ tk₁ hP hTle hTup hMid hk₁ => ?_)
    obtain ⟨t₁, v₁, ⟨c₁, u₁, hc₁, rfl⟩, rfl⟩ := hP
    have e₁ : x.cps[i] = c₁ := by rw [hc] at hc₁; cases hc₁; rfl
    rw [e₁] at hd hc
    have hTw := WT.apart _ _ _ hMid
    refine WT.go _ _ _ i T _ _ _ hMid fun h₂ hst₂ hk₂ => ?_
    have hT₂ : h₂.IsTuple T #[.int i t₁, .str ⟨#[c₁]⟩ u₁] := hTup.at fun o e => hk₂ _ o hTw e
    refine kcp_assign (env := envOf (fname (fnAt 3)) (fscope (fnAt 3)) C fa cd) hh' hT₂ rfl rfl rfl ((hn.at' fun o e => hk₁ _ o hCw e).at' fun o e => hk₂ _ o hCw e) fun h₃ tk₃ hn₃ hk₃ => ?_
    have hst₃ := WT.frame _ _ _ hst₂ fun b hb o e => hk₃ b o (fun q => hCw (by rw [show C = b from q.symm]; exact hb)) e
    have hS₃ : GenS C n0 s₀ { s with heap := h₃, toks := tk₃ } := hS.step fun b o h1 h2 h3 e => hk₃ b o h1 (hk₂ b o (by simp [h2, h3]) (hk₁ b o (by simp [h2, h3]) e))
    rw [hd] at hpre ⊢
    obtain ⟨pre, hpre⟩ := hpre
    generalize hs₃ : ({ s with heap := h₃, toks := tk₃ } : Shared) = s₃ at hS₃
    have hheap₃ : s₃.heap = h₃ := by rw [← hs₃]
    rw [← hheap₃] at hn₃ hst₃
    have hex₃ := own_ex hst₃ hn₃
    have hgS : ∀ (s₄ : Shared) (m₄ : Str → Option Value) (es : Bool) (t₄ : Tok), s₄.heap.Ns C m₄ → m₄ (Str.ofString "pos") = some (.int (i : Int) t₄) → m₄ (Str.ofString "escape") = some (.bool es) →
        ((∃ old, IsEnum s₄.heap (n0 + 1) n0 ((i + 1 : Nat) : Int) old) ∧ s₄.heap.IsStrIter n0 (strIterType x) x tx (i + 1)) → ∀ s₀', GenS C n0 s₀' s₄ → (∃ pre, us = pre ++ genFrom (x.cps.toList.drop (i + 1)) (i + 1) es) →
        Seg (model prog w) A (genR C n0) (genY base us C n0) (genFrom (x.cps.toList.drop (i + 1)) (i + 1) es).length s₀' (.forLoop (forTarget genFor) (.ref (n0 + 1)) (forBody genFor) [] (envOf (fname (fnAt 3)) (fscope (fnAt 3)) C fa cd))
          (forK (forTarget genFor) (.ref (n0 + 1)) (forBody genFor) [] (envOf (fname (fnAt 3)) (fscope (fnAt 3)) C fa cd) .next) [.ret KK none false [] c p []] s₄ := by
      intro s₄ m₄ es t₄ hn₄ hp₄ he₄ hst₄ s₀' hS₄ hpre₄
      exact seg_again rfl (ih (i + 1) es s₀' s₄ m₄ t₄ (by omega) hlt hst₄ hn₄ (by rw [hp₄]; simp) he₄ hS₄ hpre₄)
    have stK : ∀ {s₄ s₅ : Shared}, ((∃ old, IsEnum s₄.heap (n0 + 1) n0 ((i + 1 : Nat) : Int) old) ∧ s₄.heap.IsStrIter n0 (strIterType x) x tx (i + 1)) → (∀ b ∈ [n0 + 1, n0], ∀ o, s₄.heap.get? b = some o → s₅.heap.get? b = some o) →
        ((∃ old, IsEnum s₅.heap (n0 + 1) n0 ((i + 1 : Nat) : Int) old) ∧ s₅.heap.IsStrIter n0 (strIterType x) x tx (i + 1)) := fun h1 h2 => WT.frame _ _ _ h1 h2
    have own2 : ∀ b ∈ [n0 + 1, n0], Own3 C n0 b := by
      intro b hb
      rcases List.mem_cons.mp hb with rfl | hb
      · exact .inr (.inr rfl)
      · exact .inr (.inl (List.mem_singleton.mp hb))
    have neC : ∀ b ∈ [n0 + 1, n0], b ≠ C := fun b hb q => hCw (by rw [← q]; exact hb)
    refine seg_execs_cons (seg_If ?_)
    refine isTrue_plain (ldNs hn₃ (by exact hesc) ?_)
    refine wpAny_truthy_bool ?_
    cases esc with
    | true =>
      simp only [if_true]
      refine seg_execs_cons (seg_Expr_Yield rfl rfl rfl ?_)
      refine Tuple_ (args_cons (ldNs hn₃ rfl (args_cons (wpAny_BinOp (Calls.Constant_str (ldNs hn₃ rfl ?_))))))
      refine SB.add (fun t₄ k₄ => ?_) (by have h1 : (Str.ofString "\\").length = 1 := by decide +kernel
                                          have h2 := len_one c₁
                                          show _ ≤ 2 ^ 24; omega)
      refine args_nil (wpAny_newTuple ?_ (by size_fits))
      intro kap hkap
      refine gen_yield (p := i) (y := Str.ofString "\\" ++ ⟨#[c₁]⟩) hpre hS₃ hex₃ rfl (fun s₄ G₄ hk₄ => ?_) kap hkap
      have hn₄ := hn₃.at' fun o e => hk₄ C o (.inl rfl) e
      have hst₄ := stK hst₃ fun b hb o e => hk₄ b o (own2 b hb) e
      refine seg_execs_cons (seg_plain (wpAny_Assign_Name (Constant_bool (wpAny_storeName_local rfl hn₄ (fun h₅ hn₅ hs₅ => ?_) rfl))))
      refine seg_execs_nil (seg_execs_nil ?_)
      exact hgS _ _ false _ hn₅ rfl rfl (stK hst₄ fun b hb o e => hs₅.extBut b o (neC b hb) e) s₄ ((GenS.refl C n0 s₄).step fun b o h1 _ _ e => hs₅.extBut b o h1 e) ⟨pre ++ [(i, Str.ofString "\\" ++ (⟨#[c₁]⟩ : Str))], by rw [hpre, List.append_assoc]; rfl⟩
    | false =>
      simp only [Bool.false_eq_true, if_false]
      refine seg_execs_cons (seg_If ?_)
      refine wpAny_isTrue_Compare1 (ldNs hn₃ rfl (Calls.Constant_str (PyProof.Rows.eq_str (wpAny_truthy_bool ?_))))
      rw [sign92]
      by_cases h92 : c₁ = 92
      · have eg : genFrom (c₁ :: x.cps.toList.drop (i + 1)) i false = genFrom (x.cps.toList.drop (i + 1)) (i + 1) true := by
          show (if c₁ = 92 then _ else _) = _
          rw [if_pos h92]
        rw [eg] at hpre ⊢
        rw [if_pos (by simpa using h92)]
        refine seg_execs_cons (seg_plain (wpAny_Assign_Name (Constant_bool (wpAny_storeName_local rfl hn₃ (fun h₅ hn₅ hs₅ => ?_) rfl))))
        refine seg_execs_nil (seg_execs_nil (seg_execs_nil ?_))
        exact hgS _ _ true _ hn₅ rfl rfl (stK hst₃ fun b hb o e => hs₅.extBut b o (neC b hb) e) s₀ (hS₃.step fun b o h1 _ _ e => hs₅.extBut b o h1 e) ⟨pre, hpre⟩
      · have eg : genFrom (c₁ :: x.cps.toList.drop (i + 1)) i false = (i, (⟨#[c₁]⟩ : Str)) :: genFrom (x.cps.toList.drop (i + 1)) (i + 1) false := by
          show (if c₁ = 92 then _ else _) = _
          rw [if_neg h92]
        rw [eg] at hpre ⊢
        rw [if_neg (by simpa using h92), List.length_cons]
        refine seg_execs_cons (seg_Expr_Yield rfl rfl rfl ?_)
        refine Tuple_ (args_cons (ldNs hn₃ rfl (args_cons (ldNs hn₃ rfl (args_nil (wpAny_newTuple ?_ (by size_fits)))))))
        intro kap hkap
        refine gen_yield (p := i) (y := ⟨#[c₁]⟩) hpre hS₃ hex₃ rfl (fun s₄ G₄ hk₄ => ?_) kap hkap
        have hn₄ := hn₃.at' fun o e => hk₄ C o (.inl rfl) e
        have hst₄ := stK hst₃ fun b hb o e => hk₄ b o (own2 b hb) e
        refine seg_execs_nil (seg_execs_nil (seg_execs_nil ?_))
        exact hgS _ _ false _ hn₄ rfl hesc hst₄ s₄ (GenS.refl C n0 s₄) ⟨pre ++ [(i, (⟨#[c₁]⟩ : Str))], by rw [hpre, List.append_assoc]; rfl⟩
theorem gen_start {prog : Program} {w : World} {A : Around} {mg mb : Str → Option Value} {base : Heap} {C fa : Addr} {cd : Value} {x : Str} {tx : Tok} {s : Shared} {m : Str → Option Value}
    (hh : A.handled = none) (G : Gd mg mb base) (hC : base.get? C = none) (hb : Kp base s.heap) (hn : s.heap.Ns C m) (hm : m (Str.ofString "addr") = some (.str x tx)) :
    Seg (model prog w) A (genR C s.heap.objs.size) (genY base (genStr x) C s.heap.objs.size) (genStr x).length s (.func (fbody (fnAt 3)) (envOf (fname (fnAt 3)) (fscope (fnAt 3)) C fa cd))
      ((model prog w).den (.func (fbody (fnAt 3)) (envOf (fname (fnAt 3)) (fscope (fnAt 3)) C fa cd))) [] s := by
  have hCl : C < s.heap.objs.size := hn.lt
  refine seg_func (seg_execs_cons (seg_plain (wpAny_Assign_Name (wpAny_Constant_int (wpAny_storeName_local rfl hn (fun h₁ hn₁ hs₁ => ?_) rfl)))))
  refine seg_execs_cons (seg_plain (wpAny_Assign_Name (Constant_bool (wpAny_storeName_local rfl hn₁ (fun h₂ hn₂ hs₂ => ?_) rfl))))
  have hz₁ : h₁.objs.size = s.heap.objs.size := hs₁.1
  have hz₂ : h₂.objs.size = s.heap.objs.size := hs₂.1.trans hz₁
  have neB : ∀ b o, base.get? b = some o → b ≠ C := fun b o e q => by rw [q, hC] at e; cases e
  have k₂ : ∀ b o, b ≠ C → s.heap.get? b = some o → h₂.get? b = some o := fun b o h e => hs₂.extBut b o h (hs₁.extBut b o h e)
  have G₂ : Gd mg mb h₂ := G.keeps fun b o e => k₂ b o (neB b o e) (hb b o e)
  refine seg_execs_cons (seg_For ?_)
  refine Call_ (nameB G₂ nmEnum (PySem.Pv.callWith_type1 (args_cons (ldNs hn₂ (by exact hm) (args_nil ?_)))))
  refine call_enumerate_str (fun h₃ he₃ hi₃ hz₃ hk₃ => ?_)
  refine wpAny_pyIter_enum he₃ (fun p => ?_)
  dsimp only at he₃ hi₃ hz₃ hk₃ ⊢
  rw [hz₂] at he₃ hi₃
  rw [hz₂]
  have hn₃ := hn₂.keeps hk₃
  have hg : genStr x = genFrom (x.cps.toList.drop 0) 0 false := rfl
  rw [hg]
  refine gen_loop (base := base) hh (Nat.ne_of_lt hCl) (Nat.ne_of_lt (Nat.lt_succ_of_lt hCl)) ?_ x.cps.size 0 false s _ _ _ rfl (Nat.zero_le _) ⟨⟨_, he₃⟩, hi₃⟩ hn₃ rfl rfl ⟨h₃, _, rfl, fun b o h1 _ _ e => hk₃ b o (k₂ b o h1 e)⟩ ⟨[], rfl⟩
  intro esc s₀ s₄ m₄ tp hn₄ hpos hesc hS hex hpre
  obtain ⟨pre, hpre⟩ := hpre
  refine seg_execs_cons (seg_If ?_)
  refine isTrue_plain (ldNs hn₄ hesc ?_)
  refine wpAny_truthy_bool ?_
  cases esc with
  | true =>
    simp only [if_true]
    refine seg_execs_cons (seg_Expr_Yield rfl rfl rfl ?_)
    refine Tuple_ (args_cons (ldNs hn₄ hpos (args_cons (Calls.Constant_str (args_nil (wpAny_newTuple ?_ (by size_fits)))))))
    intro kap hkap
    refine gen_yield (p := x.cps.size - 1) (y := Str.ofString "\\") (rest := []) hpre hS hex rfl (fun s₅ _ hk₅ => ?_) kap hkap
    refine seg_execs_nil (seg_execs_nil ?_)
    exact seg_end (.ok (.ret .none)) ⟨rfl, rfl, GenS.refl _ _ _⟩
  | false =>
    simp only [Bool.false_eq_true, if_false]
    refine seg_execs_nil (seg_execs_nil ?_)
    exact seg_end (.ok (.ret .none)) ⟨rfl, rfl, hS⟩

/-! ## the generator as an object -/
section
variable {prog : Program} {w : World} {A : Around} {E : Value → Shared → Prop} {s : Shared}
theorem pyNext_genQ {a : Addr} {g n : Nat} {gs : GenState} {P : Nat → Shared → Shared → Prop} {Y : Protocol} {Q : Option Value → Shared → Prop} (hh : A.handled = none)
    (hl : s.heap.NoLimit) (hroom : A.depth < recursionLimit)
    (hg : s.heap.IsGen a g) (hgs : s.gens[g]? = some gs)
    (hgo : gs.Goes (model prog w) A.in1 (fun n s₀ r s₁ => r = .ok (.ret .none) ∧ P n s₀ s₁) Y n (.send .none) (s.setGen g .running))
    (hY : ∀ v s₁ gs', gs'.bare = true → Y (n - 1) (s.setGen g .running) v s₁ (fun r' s'' => match n with
        | 0 => False
        | m + 1 => gs'.Goes (model prog w) A.in1 (fun n s₀ r s₁ => r = .ok (.ret .none) ∧ P n s₀ s₁) Y m r' s'') → Q (some v) (s₁.setGen g gs'))
    (hP : ∀ s₁, P n (s.setGen g .running) s₁ → ∀ h', (∀ b o, s₁.heap.get? b = some o → h'.get? b = some o) → Q none { s₁.setGen g .finished with heap := h' }) :
    wpAny (model prog w) A (pyNext (.ref a)) Q E s := by
  unfold pyNext
  refine wpAny_bind (wpAny_attempt (wpAny_callSpecial?_slot (name := Str.ofString "__next__") hg.typeIs slot_gen_next
    (wpAny_call_entry slot_gen_next hg.typeIs entry_gen_next ?_ (args_gen_next _))))
  show wpAny _ A.in1 (Builtin.Generator.genWake (.ref a) (.send .none)) _ _ s
  unfold Builtin.Generator.genWake
  refine wpAny_bind (wpAny_holding (wpAny_genNumber hg (wpAny_bind (wpAny_genState hgs ?_))))
  cases gs with
  | running => exact hgo.elim
  | finished => exact hgo.elim
  | _ =>
    refine wpAny_bind (wpAny_roomToWake hl hroom ?_)
    show wpAny _ A.in1 (.resume g (.send .none) [] _) _ _ s
    refine wpAny_resumeQ hgs hgo (fun x s₁ hx => ?_) (fun v s₁ gs' hb hv => ?_)
    · obtain ⟨rfl, hp⟩ := hx
      show wpAny _ A.in1 (newExc (.type "StopIteration") [] >>= _) _ _ _
      refine wpAny_bind ?_
      simp only [newExc, newTuple]
      refine wpAny_bind (wpAny_newObj_type ?_ (by size_fits))
      refine wpAny_bind (m := firstArgMember _ _) (wpAny_of_eq (a := Value.none) (by first | rfl | (simp only [firstArgMember]; rfl)) ?_)
      refine wpAny_newObj_type ?_ (by size_fits)
      simp only [raiseNew]
      refine wpAny_bind (wpAny_bind (wpAny_handled ?_))
      first | rw [show A.in1.handled = none from hh] | rw [hh]
      refine wpAny_throw ?_
      refine wpAny_bind (wpAny_isInstance (T := "StopIteration") (b := true) ⟨_, Heap.get?_push_size _ rfl, rfl⟩ isSubtype_stop ?_)
      exact wpAny_pure (hP s₁ hp _ fun b o hb => Heap.get?_push_of_some _ (Heap.get?_push_of_some _ hb))
    · exact wpAny_pure ⟨v, rfl, wpAny_pure (hY v s₁ gs' hb hv)⟩
end

def GenSt (prog : Program) (w : World) (A : Around) (base : Heap) (us : List (Nat × Str)) (a : Addr) (g : Nat) (C : Addr) (fp : List Addr) (j : Nat) (s : Shared) : Prop :=
  s.heap.IsGen a g ∧ ∃ gs, s.gens[g]? = some gs ∧ gs.bare = true ∧ ∀ s'' : Shared, Kp base s''.heap → (∀ b ∈ fp, ∀ o, s.heap.get? b = some o → s''.heap.get? b = some o) →
    ∃ n0, (∀ b, Own3 C n0 b → b ∈ fp ∨ s''.heap.get? b = none) ∧ gs.Goes (model prog w) A.in1 (genR C n0) (genY base us C n0) (us.length - j) (.send .none) s''
theorem GenSt.keeps {prog : Program} {w : World} {A : Around} {base : Heap} {us : List (Nat × Str)} {a : Addr} {g : Nat} {C : Addr} {fp : List Addr} {j : Nat} {s s' : Shared} (x : GenSt prog w A base us a g C fp j s)
    (hg : s'.gens[g]? = s.gens[g]?) (hk : ∀ b ∈ a :: fp, ∀ o, s.heap.get? b = some o → s'.heap.get? b = some o) : GenSt prog w A base us a g C fp j s' := by
  obtain ⟨⟨o, nm, qn, ho, r⟩, gs, h1, h2, h3⟩ := x
  exact ⟨⟨o, nm, qn, hk a (.head _) o ho, r⟩, gs, hg.trans h1, h2, fun s'' hb hkp => h3 s'' hb fun b hb' o e => hkp b hb' o (hk b (.tail _ hb') o e)⟩

structure GenStep (g : Nat) (s s₁ : Shared) : Prop where
  os : s₁.os = s.os
  drawn : s₁.drawn = s.drawn
  gens : GenOnly g s.gens s₁.gens
  bare : ∀ x, s₁.gens[g]? = some x → x.bare = true

section
variable {prog : Program} {w : World} {A : Around} {E : Value → Shared → Prop} {s : Shared} {base : Heap} {us : List (Nat × Str)} {a : Addr} {g : Nat} {C : Addr} {fp : List Addr} {j : Nat} {Q : Option Value → Shared → Prop}
theorem gen_item (hh : A.handled = none) (hroom : A.depth < recursionLimit) (hl : s.heap.NoLimit) (hb : Kp base s.heap) (x : GenSt prog w A base us a g C fp j s) (hj : j < us.length) (haf : a ∉ fp)
    (hQ : ∀ T p y t u s₁ fp', us[j]? = some (p, y) → s₁.heap.get? T = some (tupObj p t y u) → s.heap.get? T = none → T ∉ a :: fp' → (∀ b ∈ fp', b ∈ fp ∨ s.heap.get? b = none) → a ∉ fp' → (∀ b o, b ∉ fp → s.heap.get? b = some o → s₁.heap.get? b = some o) →
      GenSt prog w A base us a g C fp' (j + 1) s₁ → GenStep g s s₁ → Q (some (.ref T)) s₁) : wpAny (model prog w) A (pyNext (.ref a)) Q E s := by
  obtain ⟨hg, gs, hgs, hba, hgo⟩ := x
  obtain ⟨n0, hown, hgo⟩ := hgo (s.setGen g .running) hb fun _ _ _ e => e
  obtain ⟨m, hm⟩ : ∃ m, us.length - j = m + 1 := ⟨us.length - j - 1, by omega⟩
  rw [hm] at hgo
  obtain ⟨oa, nm, qn, hoa, ra⟩ := hg
  have haO : ¬ Own3 C n0 a := fun h => (hown a h).elim haf fun e => by
    have e' : s.heap.get? a = none := e
    rw [hoa] at e'; cases e'
  refine pyNext_genQ (P := fun n s₀ s₁ => n = 0 ∧ GenS C n0 s₀ s₁) hh hl hroom ⟨oa, nm, qn, hoa, ra⟩ hgs hgo (fun v s₁ gs' hbr hv => ?_) (fun s₁ hp h' hk => ?_)
  · obtain ⟨⟨T, p, y, t, u, rfl, hidx, hT, hTn, hTo⟩, ⟨h₁, tk₁, rfl, hk₁⟩, _, hkap⟩ := hv
    have e1 : us.length - 1 - (m + 1 - 1) = j := by omega
    rw [e1] at hidx
    have e2 : us.length - (j + 1) = m := by omega
    have hTa : T ≠ a := fun q => by
      have e' : s.heap.get? T = none := hTn
      rw [q, hoa] at e'; cases e'
    refine hQ T p y t u _ [C, n0, n0 + 1] hidx hT hTn ?_ ?_ ?_ ?_ ⟨⟨oa, nm, qn, hk₁ a oa (fun q => haO (.inl q)) (fun q => haO (.inr (.inl q))) (fun q => haO (.inr (.inr q))) hoa, ra⟩, gs', setGen_self (gs := .running) (setGen_self hgs), hbr, fun s'' hb' hkp => ⟨n0, ?_, ?_⟩⟩ ⟨rfl, rfl, (GenOnly.setGen s g .running).trans (GenOnly.setGen _ g gs'), ?_⟩
    · intro h
      rcases List.mem_cons.mp h with h | h
      · exact hTa h
      · simp only [List.mem_cons, List.not_mem_nil, or_false] at h
        exact hTo h
    · intro b hb'
      simp only [List.mem_cons, List.not_mem_nil, or_false] at hb'
      exact hown b hb'
    · intro h
      simp only [List.mem_cons, List.not_mem_nil, or_false] at h
      exact haO h
    · intro b o hbf e
      have : ¬ Own3 C n0 b := fun h => (hown b h).elim hbf fun e' => by
        have e'' : s.heap.get? b = none := e'
        rw [e] at e''; cases e''
      exact hk₁ b o (fun q => this (.inl q)) (fun q => this (.inr (.inl q))) (fun q => this (.inr (.inr q))) e
    · intro b hb'
      left
      simp only [List.mem_cons, List.not_mem_nil, or_false]
      exact hb'
    · rw [e2]
      exact hkap s'' hb' fun b o ho e => hkp b (by simp only [List.mem_cons, List.not_mem_nil, or_false]; exact ho) o e
    · intro z hz
      have e3 := setGen_self (s := ({ s.setGen g .running with heap := h₁, toks := tk₁ } : Shared)) (x := gs') (setGen_self hgs)
      have e4 : some z = some gs' := hz.symm.trans e3
      cases e4; exact hbr
  · exact absurd hp.1 (Nat.succ_ne_zero m)
theorem gen_done (hh : A.handled = none) (hroom : A.depth < recursionLimit) (hl : s.heap.NoLimit) (hb : Kp base s.heap) (x : GenSt prog w A base us a g C fp us.length s) (hbf : ∀ b ∈ fp, base.get? b = none)
    (hQ : ∀ s₁, (∀ b o, b ∉ fp → s.heap.get? b = some o → s₁.heap.get? b = some o) → GenStep g s s₁ → Q none s₁) : wpAny (model prog w) A (pyNext (.ref a)) Q E s := by
  obtain ⟨hg, gs, hgs, hba, hgo⟩ := x
  obtain ⟨n0, hown, hgo⟩ := hgo (s.setGen g .running) hb fun _ _ _ e => e
  rw [Nat.sub_self] at hgo
  refine pyNext_genQ (P := fun n s₀ s₁ => n = 0 ∧ GenS C n0 s₀ s₁) hh hl hroom hg hgs hgo (fun v s₁ gs' hbr hv => ?_) (fun s₁ hp h' hk => ?_)
  · obtain ⟨_, ⟨h₁, tk₁, rfl, hk₁⟩, _, hkap⟩ := hv
    refine (hkap { s with heap := h₁ } ?_ fun _ _ _ e => e).elim
    intro b o e
    have e5 := hb b o e
    refine hk₁ b o (fun q => ?_) (fun q => ?_) (fun q => ?_) e5
    · rcases hown b (.inl q) with h | h
      · rw [hbf b h] at e; cases e
      · have h' : s.heap.get? b = none := h
        rw [e5] at h'; cases h'
    · rcases hown b (.inr (.inl q)) with h | h
      · rw [hbf b h] at e; cases e
      · have h' : s.heap.get? b = none := h
        rw [e5] at h'; cases h'
    · rcases hown b (.inr (.inr q)) with h | h
      · rw [hbf b h] at e; cases e
      · have h' : s.heap.get? b = none := h
        rw [e5] at h'; cases h'
  · obtain ⟨_, h₁, tk₁, rfl, hk₁⟩ := hp
    refine hQ _ (fun b o hbf e => hk b o ?_) ⟨rfl, rfl, (GenOnly.setGen s g .running).trans (GenOnly.setGen _ g .finished), ?_⟩
    · have : ¬ Own3 C n0 b := fun h => (hown b h).elim hbf fun e' => by
        have e'' : s.heap.get? b = none := e'
        rw [e] at e''; cases e''
      exact hk₁ b o (fun q => this (.inl q)) (fun q => this (.inr (.inl q))) (fun q => this (.inr (.inr q))) e
    · intro z hz
      have := setGen_self (s := ({ s.setGen g .running with heap := h₁, toks := tk₁ } : Shared)) (x := GenState.finished) (setGen_self hgs)
      have e4 : some z = some GenState.finished := hz.symm.trans this
      cases e4; rfl
end

section
variable {prog : Program} {w : World} {A : Around} {s : Shared} {mg mb : Str → Option Value}
theorem gen_call {fa : Addr} {x : Str} {tx : Tok} {R : Result → Shared → Prop} {k : Nat} {base : Heap} (Gb : Gd mg mb base) (hbs : Kp base s.heap) (hA : Rm k A) (hfa : mg (Str.ofString "_iter_escaped_chars") = some (.ref fa))
    (hR : ∀ s' a C gs, (∀ b o, s.heap.get? b = some o → s'.heap.get? b = some o) → s.heap.get? a = none → s.heap.get? C = none → (a ≠ C ∧ ∃ o, s'.heap.get? C = some o) → s'.os = s.os → s'.drawn = s.drawn → s'.gens = s.gens.push gs → gs.bare = true →
      (∀ A' : Around, A'.handled = none → GenSt prog w A' base (genStr x) a s.gens.size C [C] 0 s') → R (.ok (.ret (.ref a))) s') :
    codeAny (model prog w) A (.call (.ref fa) ⟨[.str x tx], []⟩) R s := by
  have G := Gb.keeps hbs
  have hCb : base.get? s.heap.objs.size = none := by
    cases e : base.get? s.heap.objs.size with
    | none => rfl
    | some o => exact absurd (Heap.lt_size (hbs _ _ e)) (Nat.lt_irrefl _)
  obtain ⟨a, o, pm, code, doc, h1, h2, h3, h4⟩ := G.fn 3 (by decide)
  obtain rfl : fa = a := by
    have h1' : mg (Str.ofString "_iter_escaped_chars") = some (.ref a) := h1
    rw [hfa] at h1'; cases h1'; rfl
  refine codeAny_call_generator hA.room h2 h3 rfl rfl rfl h4 ?_
  refine wpAny_of_eq (show bindArgs (docDef (fname (fnAt 3)) (fparams (fnAt 3)) (fbody (fnAt 3)) (fscope (fnAt 3)) pm code doc) ⟨[.str x tx], []⟩ = pure [(Str.ofString "addr", .str x tx)] from rfl) ?_
  refine wpAny_newFunctionEnv (show ∀ x ∈ (fscope (fnAt 3)).names, x.2 ≠ .cell from by decide +kernel) (by intro y hy; rw [List.mem_singleton.mp hy]; rfl) (fun h' hn' hs' => ?_) rfl
  dsimp only at hs' ⊢
  have keep : ∀ b o, s.heap.get? b = some o → h'.get? b = some o := fun b o e => hs'.extBut b o (Nat.ne_of_lt (Heap.lt_size e)) (Heap.get?_push_of_some _ e)
  have hz : h'.objs.size = s.heap.objs.size + 1 := by rw [hs'.1, Heap.size_push]
  refine ⟨G.nolimit.keeps keep, hR _ h'.objs.size s.heap.objs.size _ (fun b o e => Heap.get?_push_of_some _ (keep b o e)) ?_ next_none ⟨by rw [hz]; exact Nat.succ_ne_self _, by obtain ⟨oC, _, _, hoC, _⟩ := hn'; exact ⟨oC, Heap.get?_push_of_some _ hoC⟩⟩ rfl rfl rfl rfl ?_⟩
  · cases e : s.heap.get? h'.objs.size with
    | none => rfl
    | some o => exact absurd (Heap.lt_size e) (by rw [hz]; exact Nat.not_lt.mpr (Nat.le_succ _))
  · intro A' hA'
    refine ⟨⟨_, _, _, Heap.get?_push_size _ rfl, rfl, rfl, rfl⟩, _, Array.getElem?_push_size .., rfl, fun s'' hb hkp => ⟨s''.heap.objs.size, ?_, rfl, ?_⟩⟩
    · rintro b (rfl | rfl | rfl)
      · exact .inl (.head _)
      · exact .inr next_none
      · right
        cases e : s''.heap.get? (s''.heap.objs.size + 1) with
        | none => rfl
        | some o => exact absurd (Heap.lt_size e) (Nat.not_lt.mpr (Nat.le_succ _))
    · rw [Nat.sub_zero]
      exact gen_start (A := A'.in1) (m := fun y => [(Str.ofString "addr", Value.str x tx)].reverse.lookup y) (tx := tx) hA' Gb hCb hb ((hn'.push _).at' fun o e => hkp _ (.head _) o e) rfl
end

/-! ## a loop over the generator -/
section
variable {prog : Program} {w : World} {A : Around} {E : Value → Shared → Prop} {s : Shared}
theorem letGo_gen {elts : List Expr} {x1} {pos : Pos} {I T : Addr} {g : Nat} {Q : Unit → Shared → Prop} (hg : s.heap.IsGen I g) (hQ : Q () s) :
    wpAny (model prog w) A (letOwnedTupleGo (.Tuple elts x1 pos) (.ref I) (.ref T)) Q E s := by
  obtain ⟨o, nm, qn, ho, hc, hd, _⟩ := hg
  unfold letOwnedTupleGo
  refine wpAny_bind (wpAny_load ho ?_)
  simp only [hc, hd]
  exact wpAny_pure hQ
end
theorem wd_gen {s₀ s s₁ : Shared} {g : Nat} (x : Wd true s₀ s) (y : GenStep g s s₁) (hg : s₀.gens.size ≤ g) : Wd true s₀ s₁ := by
  obtain ⟨x1, x2, x3⟩ := x
  simp only [if_true] at x3
  obtain ⟨x3, x4⟩ := x3
  refine ⟨y.os.trans x1, y.drawn.trans x2, ?_⟩
  simp only [if_true]
  refine ⟨fun hb z hz => ?_, fun i v e => ?_⟩
  · obtain ⟨i, hi, rfl⟩ := Array.mem_iff_getElem.mp hz
    by_cases e : i = g
    · subst e; exact y.bare _ (Array.getElem?_eq_getElem hi)
    · have h1 := y.gens.2 i e
      rw [Array.getElem?_eq_getElem hi] at h1
      obtain ⟨hi', e'⟩ := Array.getElem?_eq_some_iff.mp h1.symm
      exact e' ▸ x3 hb _ (Array.getElem_mem hi')
  · have hlt : i < s₀.gens.size := (Array.getElem?_eq_some_iff.mp e).1
    have hne : i ≠ g := by omega
    rw [y.gens.2 i hne]
    exact x4 i v e
theorem Wd.keepsGens {s₀ s : Shared} (x : Wd false s₀ s) : s.gens = s₀.gens := x.gens

section
variable {prog : Program} {w : World} {A : Around} {s : Shared} {env : Env} {base : Heap} {xa xb : Str} {body : List Stmt} {Q : Flow → Shared → Prop} {mg mb : Str → Option Value}
theorem forLoop_gen {pa pb tp : Pos} {kk : Nat} {us : List (Nat × Str)} {a C : Addr} {g : Nat} {m : Str → Option Value} {news : List (Addr × Obj)} (hh : A.handled = none) (hroom : A.depth < recursionLimit) (G : Gd mg mb base)
    (J : Nat → (Str → Option Value) → List (Addr × Obj) → Prop) (ds : List Addr) (hJ : ∀ i m news, J i m news → news.map (·.1) = ds) (s₀ : Shared) (hg0 : s₀.gens.size ≤ g)
    (hxa : env.kindOf xa = some .local) (hxb : env.kindOf xb = some .local) (hp : (env.scope.kind == .class || (env.scope.kind == .module && env.locals != env.globals)) = false)
    (hst : GenSt prog w A base us a g C [C] 0 s) (haC : a ≠ C) (hLa : env.locals ≠ a) (hLC : env.locals ≠ C) (hba : base.get? a = none) (hbC : base.get? C = none) (hna : a ∉ ds) (hnC : C ∉ ds)
    (F : Fr base env.locals s.heap m) (N : News base env.locals s.heap news) (hr : Wd true s₀ s) (hj : J 0 m news)
    (turn : ∀ i p y t u m₁ news₁ s₁ own, us[i]? = some (p, y) → J i m₁ news₁ → OwnOff own (news₁.map (·.1)) → Wd true s₀ s₁ → Fr base env.locals s₁.heap (fun z => if z = xb then some (.str y u) else if z = xa then some (.int (p : Nat) t) else m₁ z) → News base env.locals s₁.heap (news₁ ++ own) →
      wpAny (model prog w) A (execs body env) (TurnOut base env.locals own (J (i + 1)) false s₁ Q) (fun _ _ => False) s₁)
    (done : ∀ m₁ news₁ s₁, J us.length m₁ news₁ → Wd true s₀ s₁ → Fr base env.locals s₁.heap m₁ → News base env.locals s₁.heap news₁ → Q .next s₁) {E : Value → Shared → Prop} :
    codeAny (model prog w) A (.forLoop (.Tuple [.Name xa pa, .Name xb pb] kk tp) (.ref a) body [] env) (fun r s' => match r with | .ok f => Q f s' | .error e => cameBackBy (model prog w) A env E e s') s := by
  refine codeAny_forLoop_any (fun k s' => ∃ i fp m' news', i ≤ us.length ∧ k = us.length + 1 - i ∧ GenSt prog w A base us a g C fp i s' ∧ a ∉ fp ∧ env.locals ∉ a :: fp ∧ (∀ b ∈ a :: fp, base.get? b = none) ∧ (∀ d ∈ ds, d ∉ a :: fp) ∧
      Fr base env.locals s'.heap m' ∧ News base env.locals s'.heap news' ∧ Wd true s₀ s' ∧ J i m' news') ?_ (us.length + 1)
    ⟨0, [C], m, news, Nat.zero_le _, rfl, hst, by simp [haC], by simp [hLa, hLC], ?_, ?_, F, N, hr, hj⟩
  · rintro k s' ⟨i, fp, m', news', hi, rfl, hst', haf, hLf, hbf, hdf, F', N', hr', hj'⟩
    have hLfp : env.locals ∉ fp := fun h => hLf (.tail _ h)
    have hbfp : ∀ b ∈ fp, base.get? b = none := fun b hb => hbf b (.tail _ hb)
    have hnews' : ∀ p ∈ news', p.1 ∉ a :: fp := fun p hp' => hdf _ (by rw [← hJ _ _ _ hj']; exact List.mem_map.mpr ⟨p, hp', rfl⟩)
    by_cases hlt : i < us.length
    · refine gen_item hh hroom (G.keeps F'.keep).nolimit F'.keep hst' hlt haf (fun T p y t u s₁ fp' hu hT hTn hTf hfp hafp hk₁ hst₁ hstep => ?_)
      have F₁ : Fr base env.locals s₁.heap m' := fr_moved F' hLfp hbfp hk₁
      have N₁ : News base env.locals s₁.heap news' := news_moved N' (fun p hp' h => hnews' p hp' (.tail _ h)) hk₁
      have hLex : ∃ o, s'.heap.get? env.locals = some o := by obtain ⟨o, _, _, ho, _⟩ := F'.ns; exact ⟨o, ho⟩
      have hLf' : env.locals ∉ a :: fp' := fun h => by
        rcases List.mem_cons.mp h with h | h
        · exact hLf (h ▸ .head _)
        · rcases hfp _ h with h | h
          · exact hLfp h
          · obtain ⟨o, ho⟩ := hLex; rw [ho] at h; cases h
      have hbf' : ∀ b ∈ a :: fp', base.get? b = none := fun b hb => by
        rcases List.mem_cons.mp hb with rfl | hb
        · exact hbf _ (.head _)
        · rcases hfp _ hb with h | h
          · exact hbfp b h
          · cases e : base.get? b with
            | none => rfl
            | some o => rw [F'.keep _ _ e] at h; cases h
      have hdf' : ∀ d ∈ ds, d ∉ a :: fp' := fun d hd h => by
        rw [← hJ _ _ _ hj'] at hd
        obtain ⟨p', hp', rfl⟩ := List.mem_map.mp hd
        rcases List.mem_cons.mp h with h | h
        · exact hnews' p' hp' (h ▸ .head _)
        · rcases hfp _ h with h | h
          · exact hnews' p' hp' (.tail _ h)
          · rw [(N' p' hp').1] at h; cases h
      have hr₁ : Wd true s₀ s₁ := wd_gen hr' hstep hg0
      refine letGo_gen hst₁.1 ?_
      refine kcp_assign hh (tupObj_is hT) hxa hxb hp F₁.ns fun h₂ tk₂ hn₂ hk₂ => ?_
      have F₂ : Fr base env.locals h₂ (fun z => if z = xb then some (.str y u) else if z = xa then some (.int (p : Nat) t) else m' z) :=
        ⟨hn₂, fun b o e => hk₂ b o (fun q => by
          have hab := F'.above
          have := Heap.lt_size e
          rw [q] at this
          exact absurd this (Nat.not_lt.mpr hab)) (F₁.keep b o e), F'.above⟩
      have N₂ : News base env.locals h₂ news' := fun p' hp' => ⟨hk₂ _ _ (N₁ p' hp').2.1 (N₁ p' hp').1, (N₁ p' hp').2⟩
      have hst₂ : GenSt prog w A base us a g C fp' (i + 1) { s₁ with heap := h₂, toks := tk₂ } := hst₁.keeps rfl fun b hb o e => hk₂ b o (fun q => hLf' (q ▸ hb)) e
      have hown : News base env.locals h₂ (standing base h₂ (a :: fp')) := fun q hq => by
        obtain ⟨h1, h2, h3⟩ := standing_mem hq
        exact ⟨h3, fun h => hLf' (h ▸ h1), h2⟩
      have hN₃ : News base env.locals h₂ (news' ++ standing base h₂ (a :: fp')) := fun q hq => (List.mem_append.mp hq).elim (N₂ q) (hown q)
      have hoo : OwnOff (standing base h₂ (a :: fp')) (news'.map (·.1)) := fun q hq b hb e => by
        rw [hJ _ _ _ hj'] at hb
        exact hdf' b hb (e ▸ (standing_mem hq).1)
      refine wpAny_mono (turn i p y t u m' news' { s₁ with heap := h₂, toks := tk₂ } (standing base h₂ (a :: fp')) hu hj' hoo hr₁.upd F₂ hN₃) (fun f s₃ h₃ => ?_) fun _ _ e => e.elim
      have fin : (∃ m' news', Fr base env.locals s₃.heap m' ∧ News base env.locals s₃.heap (news' ++ standing base h₂ (a :: fp')) ∧ OwnOff (standing base h₂ (a :: fp')) (news'.map (·.1)) ∧ Wd false { s₁ with heap := h₂, toks := tk₂ } s₃ ∧ J (i + 1) m' news') →
          ∃ m, m < us.length + 1 - i ∧ ∃ i fp m' news', i ≤ us.length ∧ m = us.length + 1 - i ∧ GenSt prog w A base us a g C fp i s₃ ∧ a ∉ fp ∧ env.locals ∉ a :: fp ∧ (∀ b ∈ a :: fp, base.get? b = none) ∧ (∀ d ∈ ds, d ∉ a :: fp) ∧
            Fr base env.locals s₃.heap m' ∧ News base env.locals s₃.heap news' ∧ Wd true s₀ s₃ ∧ J i m' news' := by
        rintro ⟨m₃, news₃, F₃, N₃, hoo₃, hr₃, hj₃⟩
        have keep : ∀ b ∈ a :: fp', ∀ o, h₂.get? b = some o → s₃.heap.get? b = some o := fun b hb o e => (N₃ (b, o) (List.mem_append.mpr (.inr (mem_standing hb (hbf' b hb) e)))).1
        refine ⟨us.length + 1 - (i + 1), by omega, i + 1, fp', m₃, news₃, hlt, rfl, hst₂.keeps (by rw [hr₃.keepsGens]) keep, hafp, hLf', hbf', hdf', F₃, fun q hq => N₃ q (List.mem_append.mpr (.inl hq)), hr₁.upd.trans hr₃.up, hj₃⟩
      cases f with
      | next => exact fin h₃
      | cont => exact fin h₃
      | brk => exact h₃
      | ret v => exact h₃
    · have hin : i = us.length := by omega
      subst hin
      refine gen_done hh hroom (G.keeps F'.keep).nolimit F'.keep hst' hbfp fun s₁ hk₁ hstep => wpAny_execs_nil ?_
      exact done m' news' s₁ hj' (wd_gen hr' hstep hg0) (fr_moved F' hLfp hbfp hk₁) (news_moved N' (fun p hp' h => hnews' p hp' (.tail _ h)) hk₁)
  · intro b hb
    rcases List.mem_cons.mp hb with rfl | hb
    · exact hba
    · rw [List.mem_singleton.mp hb]; exact hbC
  · intro d hd h
    rcases List.mem_cons.mp h with h | h
    · exact hna (h ▸ hd)
    · exact hnC (List.mem_singleton.mp h ▸ hd)
end

/-! ## list of the generator -/
theorem TupsAt.moved {h h' : Heap} : ∀ {vs : List Value} {us : List (Nat × Str)}, TupsAt h vs us → (∀ T o, Value.ref T ∈ vs → h.get? T = some o → h'.get? T = some o) → TupsAt h' vs us
  | _, _, .nil, _ => .nil
  | _, _, .cons e r, hk => .cons (hk _ _ (.head _) e) (r.moved fun T o hm e' => hk T o (.tail _ hm) e')
theorem TupsAt.live {h : Heap} : ∀ {vs : List Value} {us : List (Nat × Str)}, TupsAt h vs us → ∀ T, Value.ref T ∈ vs → ∃ o, h.get? T = some o
  | _, _, .nil, _, hm => nomatch hm
  | _, _, .cons (T := T') e r, T, hm => by
    rcases List.mem_cons.mp hm with e' | hm
    · cases e'; exact ⟨_, e⟩
    · exact r.live T hm
theorem TupsAt.snoc {h : Heap} {T : Addr} {p : Nat} {t : Tok} {x : Str} {u : Tok} (e : h.get? T = some (tupObj p t x u)) : ∀ {vs : List Value} {us : List (Nat × Str)}, TupsAt h vs us → TupsAt h (vs ++ [.ref T]) (us ++ [(p, x)])
  | _, _, .nil => .cons e .nil
  | _, _, .cons e' r => .cons e' (r.snoc e)

section
variable {prog : Program} {w : World} {A : Around} {R : Result → Shared → Prop} {mg mb : Str → Option Value} {base : Heap} {us : List (Nat × Str)} {a C S : Addr} {g : Nat} {s₀ : Shared} {h0 : Heap}
theorem ext_loop (hh : A.handled = none) (hroom : A.depth < recursionLimit) (G : Gd mg mb base) (hbh : Kp base h0) (hbC : base.get? C = none) (hg0 : s₀.gens.size ≤ g) (hS0 : h0.get? S = none) (hn : us.length ≤ 1000) (res : Value)
    (hR : ∀ s' acc c, Wd true s₀ s' → (∀ b o, b ≠ C → h0.get? b = some o → s'.heap.get? b = some o) → s'.heap.get? S = some { cls := .type "list", dict := none, data := .seq acc c, slots := #[] } → TupsAt s'.heap acc.toList us → R (.ok (.ret res)) s') :
    ∀ (k i : Nat) (s : Shared) (fp : List Addr) (acc : Array Value) (c : Nat), us.length - i = k → i ≤ us.length → GenSt prog w A.in1 base us a g C fp i s → a ∉ fp → (∀ b ∈ fp, b = C ∨ h0.get? b = none) → S ∉ a :: fp → (∀ b o, b ≠ C → h0.get? b = some o → s.heap.get? b = some o) →
      Wd true s₀ s → s.heap.get? S = some { cls := .type "list", dict := none, data := .seq acc c, slots := #[] } → TupsAt s.heap acc.toList (us.take i) → (∀ T, Value.ref T ∈ acc.toList → T ∉ S :: fp) →
      codeAny (model prog w) A (.builtin "list.extend.loop" ⟨[.ref S, .ref a, res], []⟩) R s := by
  have hkb : ∀ {s : Shared}, (∀ b o, b ≠ C → h0.get? b = some o → s.heap.get? b = some o) → Kp base s.heap := fun hk b o e => hk b o (fun q => by rw [q, hbC] at e; cases e) (hbh b o e)
  intro k
  induction k with
  | zero =>
    intro i s fp acc c hk hi hst haf hfp hSf hkeep hr hS hT hTo
    have hin : i = us.length := by omega
    subst hin
    refine codeAny_builtin F.entry_extend_loop ?_
    rw [Around.under_plainId F.plain_extend_loop _]
    show wpAny _ A.in1 (pyNext (.ref a) >>= _) _ _ s
    rw [List.take_length] at hT
    refine wpAny_bind (gen_done (A := A.in1) hh hroom (G.keeps (hkb hkeep)).nolimit (hkb hkeep) hst ?_ fun s' hk' hstep => ?_)
    · intro b hb
      rcases hfp b hb with rfl | h
      · exact hbC
      · cases e : base.get? b with
        | none => rfl
        | some o => rw [hbh _ _ e] at h; cases h
    refine wpAny_pure (hR s' acc c (wd_gen hr hstep hg0) (fun b o hb e => hk' b o (fun hm => ?_) (hkeep b o hb e)) (hk' S _ (fun h => hSf (.tail _ h)) hS) (hT.moved fun T o hm e => hk' T o (fun h => hTo T hm (.tail _ h)) e))
    rcases hfp b hm with q | q
    · exact hb q
    · rw [q] at e; cases e
  | succ k ih =>
    intro i s fp acc c hk hi hst haf hfp hSf hkeep hr hS hT hTo
    have hlt : i < us.length := by omega
    have hacc : acc.size = i := by
      have := hT.length
      rw [List.length_take] at this
      have e : acc.toList.length = acc.size := by simp
      omega
    refine codeAny_builtin F.entry_extend_loop ?_
    rw [Around.under_plainId F.plain_extend_loop _]
    show wpAny _ A.in1 (pyNext (.ref a) >>= _) _ _ s
    refine wpAny_bind (gen_item (A := A.in1) hh hroom (G.keeps (hkb hkeep)).nolimit (hkb hkeep) hst hlt haf fun T p y t u s' fp' hu hTn hT0 hTf hfp' hafp hk' hst' hstep => ?_)
    have hS' := hk' S _ (fun h => hSf (.tail _ h)) hS
    have hTS : T ≠ S := fun q => by rw [q, hS] at hT0; cases hT0
    have hS'f : S ∉ a :: fp' := fun h => by
      rcases List.mem_cons.mp h with h | h
      · exact hSf (h ▸ .head _)
      · rcases hfp' S h with h | h
        · exact hSf (.tail _ h)
        · rw [hS] at h; cases h
    have hT' := hT.moved (h' := s'.heap) fun T' o hm e => hk' T' o (fun h => hTo T' hm (.tail _ h)) e
    have hTo' : ∀ T', Value.ref T' ∈ acc.toList → T' ∉ S :: fp' := fun T' hm h => by
      rcases List.mem_cons.mp h with h | h
      · exact hTo T' hm (h ▸ .head _)
      · rcases hfp' T' h with h | h
        · exact hTo T' hm (.tail _ h)
        · obtain ⟨o, ho⟩ := hT.live T' hm; rw [ho] at h; cases h
    show wpAny _ A.in1 (updateSeq S (·.push (.ref T)) >>= _) _ _ _
    refine wpAny_bind ?_
    refine wpAny_updateSeq hS' rfl (wpAny_pure ⟨plainId_quiet F.plain_extend_loop _, ih (i + 1) _ fp' (acc.push (.ref T)) _ (by omega) hlt (hst'.keeps rfl fun b hb o e => ?_) hafp (fun b hb => ?_) hS'f (fun b o hb e => ?_) ((wd_gen hr hstep hg0).upd) (Heap.get?_update_self _ hS' rfl) ?_ ?_⟩)
      (by rw [hacc]; show _ ≤ 2 ^ 24; omega) (by show (acc.push (.ref T)).size ≤ sizeLine + 1; rw [Array.size_push, hacc]; show _ ≤ 2 ^ 24 + 1; omega)
    · exact (Heap.get?_update_other _ _ (fun h : S = b => hS'f (by rw [h]; exact hb))).trans e
    · rcases hfp' b hb with h | h
      · exact hfp b h
      · by_cases hbC' : b = C
        · exact .inl hbC'
        · right
          cases e : h0.get? b with
          | none => rfl
          | some o => rw [hkeep b o hbC' e] at h; cases h
    · refine (Heap.get?_update_other _ _ (fun h : S = b => by rw [← h, hS0] at e; cases e)).trans (hk' b o (fun hm => ?_) (hkeep b o hb e))
      rcases hfp b hm with q | q
      · exact hb q
      · rw [q] at e; cases e
    · rw [List.take_add_one, hu, Option.toList_some, Array.toList_push]
      have hT'' : TupsAt (s'.heap.update S (Obj.mapSeq (·.push (Value.ref T)))) acc.toList (us.take i) := hT'.moved fun T' o hm e => (Heap.get?_update_other _ _ (fun h : S = T' => hTo' T' hm (h ▸ .head _))).trans e
      exact hT''.snoc ((Heap.get?_update_other _ _ hTS.symm).trans hTn)
    · intro T' hm
      rw [Array.toList_push] at hm
      rcases List.mem_append.mp hm with hm | hm
      · exact hTo' T' hm
      · cases List.mem_singleton.mp hm
        intro h
        rcases List.mem_cons.mp h with h | h
        · exact hTS h
        · exact hTf (.tail _ h)
end
section
variable {prog : Program} {w : World} {A : Around} {E : Value → Shared → Prop} {s : Shared} {mg mb : Str → Option Value} {base : Heap} {us : List (Nat × Str)} {a C : Addr} {g : Nat} {Q : Value → Shared → Prop}
theorem list_gen (hh : A.handled = none) (hroom : A.depth < recursionLimit) (G : Gd mg mb base) (hb : Kp base s.heap) (hbC : base.get? C = none) (haC : a ≠ C) (hst : GenSt prog w A.in1.in1 base us a g C [C] 0 s) (s₀ : Shared) (hg0 : s₀.gens.size ≤ g) (hr : Wd true s₀ s) (hn : us.length ≤ 1000) (hC : ∃ o, s.heap.get? C = some o)
    (hQ : ∀ s' D acc c, Wd true s₀ s' → (∀ b o, b ≠ C → s.heap.get? b = some o → s'.heap.get? b = some o) → s.heap.get? D = none → s'.heap.get? D = some { cls := .type "list", dict := none, data := .seq acc c, slots := #[] } → TupsAt s'.heap acc.toList us → Q (.ref D) s') :
    wpAny (model prog w) A (call (.type "list") [.ref a]) Q E s := by
  obtain ⟨oa, nm, qn, hoa, ra⟩ := id hst.1
  refine callType_codes (Q₁ := fun obj s₁ => obj = .ref s.heap.objs.size ∧ s₁ = { s with heap := s.heap.push { cls := .type "list", data := .seq #[] } }) F.called_list (F.typeCall_list_1 _) F.entry_list_init
    (code_list_new _ ⟨rfl, rfl⟩) fun obj s₁ h₁ => ?_
  obtain ⟨rfl, rfl⟩ := h₁
  have hS : (s.heap.push { cls := .type "list", data := .seq #[] }).get? s.heap.objs.size = some { cls := .type "list", data := .seq #[] } := Heap.get?_push_size _ rfl
  have hSa : s.heap.objs.size ≠ a := fun q => by rw [← q] at hoa; exact absurd (Heap.lt_size hoa) (Nat.lt_irrefl _)
  have hSC : s.heap.objs.size ≠ C := fun q => by obtain ⟨o, ho⟩ := hC; rw [← q] at ho; exact absurd (Heap.lt_size ho) (Nat.lt_irrefl _)
  generalize hSz : s.heap.objs.size = S at hS hSa hSC
  have hS0 : s.heap.get? S = none := by rw [← hSz]; exact next_none
  generalize hH1 : s.heap.push { cls := .type "list", data := .seq #[] } = H1 at hS
  have k1 : ∀ b o, s.heap.get? b = some o → H1.get? b = some o := fun b o e => hH1 ▸ Heap.get?_push_of_some _ e
  refine ⟨⟨_, hS, rfl⟩, F.args_list_init_2 _ _, ?_⟩
  show wpAny _ A.in1.in1 (do let old ← Builtin.List.listItems (.ref S); Builtin.List.listUpdate (.ref S) (fun _ => #[]); letGo old.toList.reverse; Builtin.List.listExtendWith (.ref S) (.ref a) .none) _ _ _
  refine wpAny_bind ?_
  unfold Builtin.List.listItems
  refine wpAny_bind (wpAny_seqItems hS rfl (wpAny_pure ?_))
  show wpAny _ A.in1.in1 (updateSeq S (fun _ => #[]) >>= fun _ => letGo (#[] : Array Value).toList.reverse >>= fun _ => Builtin.List.listExtendWith (.ref S) (.ref a) .none) _ _ _
  refine wpAny_bind (wpAny_updateSeq hS rfl ?_)
  have hS₂ := Heap.get?_update_self (Obj.mapSeq (fun _ => (#[] : Array Value))) hS rfl
  have k2 : ∀ b o, s.heap.get? b = some o → (H1.update S (Obj.mapSeq (fun _ => (#[] : Array Value)))).get? b = some o :=
    fun b o e => (Heap.get?_update_other _ _ (fun h : S = b => by rw [← h, hS0] at e; cases e)).trans (k1 b o e)
  generalize H1.update S (Obj.mapSeq (fun _ => (#[] : Array Value))) = H2 at hS₂ k2
  refine wpAny_bind (wpAny_letGo ?_)
  have hT : ∀ st : Shared, st.heap.get? a = some oa → st.TypeIs (.ref a) "generator" := fun st e => ⟨oa, e, ra.1⟩
  unfold Builtin.List.listExtendWith
  refine wpAny_bind (wpAny_typeOf (hT _ (k2 a oa hoa)) ?_)
  have h1 : Builtin.List.listSameRef (.ref S) (.ref a) = false := by simp [Builtin.List.listSameRef, hSa]
  have h2 : (Value.type "generator" == Value.type "list") = false := by decide
  have h3 : (Value.type "generator" == Value.type "tuple") = false := by decide
  simp only [h1, h2, h3, Bool.or_false, Bool.false_eq_true, if_false]
  refine wpAny_bind (wpAny_pyIter_gen (g := g) ⟨oa, nm, qn, k2 a oa hoa, ra⟩ ?_)
  refine wpAny_bind (wpAny_holding ?_)
  unfold Builtin.List.listLengthHint
  refine wpAny_bind (wpAny_specialOf (hT _ (k2 a oa hoa)) F.gen_no_len ?_)
  show wpAny _ A.in1.in1 (specialOf (Value.ref a) (Str.ofString "__length_hint__") >>= _) _ _ _
  refine wpAny_bind (wpAny_specialOf (hT _ (k2 a oa hoa)) F.gen_no_hint ?_)
  refine wpAny_pure ?_
  show wpAny _ A.in1.in1 (rule "list.extend.makes-room" >>= fun _ => Builtin.List.listTouch (.ref S) >>= fun _ =>
    again (.builtin "list.extend.loop" ⟨[.ref S, .ref a, .none], []⟩)) _ _ _
  refine wpAny_bind (wpAny_rule ?_)
  refine wpAny_bind ?_
  show wpAny _ A.in1.in1 (updateSeq S (·.push .none) >>= fun _ => updateSeq S (·.pop)) _ _ _
  refine wpAny_bind (wpAny_updateSeq hS₂ rfl ?_)
  have hS₃ := Heap.get?_update_self (Obj.mapSeq (·.push Value.none)) hS₂ rfl
  refine wpAny_updateSeq (hz := by seq_fits) hS₃ rfl ?_
  have hS₄ := Heap.get?_update_self (Obj.mapSeq (·.pop)) hS₃ rfl
  have k3 : ∀ b o, s.heap.get? b = some o → ((H2.update S (Obj.mapSeq (·.push Value.none))).update S (Obj.mapSeq (·.pop))).get? b = some o := fun b o e =>
    have hne : S ≠ b := fun h => by rw [← h, hS0] at e; cases e
    (Heap.get?_update_other _ _ hne).trans ((Heap.get?_update_other _ _ hne).trans (k2 b o e))
  refine wpAny_pure ⟨plainId_quiet F.plain_extend_loop _, ext_loop (A := A.in1) (h0 := s.heap) (s₀ := s₀) (us := us) (base := base) (g := g) (C := C) hh hroom G hb hbC hg0 hS0 hn .none (fun s' acc c hr' hk' hS' hT' => ⟨rfl, hQ s' S acc c hr' hk' hS0 hS' hT'⟩) us.length 0 _ [C] _ _ rfl (Nat.zero_le _)
    (hst.keeps rfl fun b _ o e => k3 b o e) (by simp [haC]) (by simp) (by simp [hSa, hSC]) (fun b o _ e => k3 b o e) hr.upd hS₄ .nil (fun T hm => nomatch hm)⟩
end

/-! ## _strip_quoted_realnames -/
structure SSt where
  start : Nat
  op : Option Nat
  res : List Str
def sstep (x : Str) (σ : SSt) (q : Nat × Str) : SSt :=
  if q.2 = Str.ofString "\"" then
    match σ.op with
    | none => ⟨σ.start, some q.1, σ.res⟩
    | some o => ⟨q.1 + 1, none, if σ.start ≠ o then σ.res ++ [Txt.slice x (some (σ.start : Nat)) (some (o : Nat))] else σ.res⟩
  else σ
def sst (x : Str) (us : List (Nat × Str)) : SSt := us.foldl (sstep x) ⟨0, none, []⟩
def stripStr (x : Str) : Str :=
  if Txt.contains x (Str.ofString "\"") = true then
    Txt.join (Str.ofString "") (if (sst x (genStr x)).start < x.length then (sst x (genStr x)).res ++ [Txt.slice x (some ((sst x (genStr x)).start : Nat)) none] else (sst x (genStr x)).res)
  else x
theorem gen_len : ∀ (l : List Nat) (i : Nat) (esc : Bool), (genFrom l i esc).length ≤ l.length + 1
  | [], i, esc => by cases esc <;> simp [genFrom]
  | c :: r, i, true => by
    have := gen_len r (i + 1) false
    show (genFrom r (i + 1) false).length + 1 ≤ r.length + 1 + 1
    omega
  | c :: r, i, false => by
    show (if c = 92 then genFrom r (i + 1) true else (i, (⟨#[c]⟩ : Str)) :: genFrom r (i + 1) false).length ≤ r.length + 1 + 1
    split
    · have := gen_len r (i + 1) true; omega
    · have := gen_len r (i + 1) false
      rw [List.length_cons]; omega

def optV : Option Nat → Tok → Value
  | none, _ => .none
  | some q, t => .int (q : Nat) t
def SInv (x : Str) (tx : Tok) (D : Addr) (i : Nat) (σ : SSt) (m : Str → Option Value) (news : List (Addr × Obj)) : Prop :=
  ∃ vs n ts top, news = [(D, ({ cls := .type "list", data := .seq vs.toArray n } : Obj))] ∧ StrsAre vs σ.res ∧ σ.res.length ≤ i ∧ (∀ y ∈ σ.res, y.length ≤ x.length) ∧
    m (Str.ofString "addr") = some (.str x tx) ∧ m (Str.ofString "start") = some (.int (σ.start : Nat) ts) ∧ m (Str.ofString "open_pos") = some (optV σ.op top) ∧ m (Str.ofString "result") = some (.ref D)

theorem strip_turn {prog : Program} {w : World} {A : Around} {s : Shared} {base : Heap} {L a D : Addr} {cd : Value} {u₀ : Str → Option Value} {vs : List Value} {n i p : Nat} {ts top tx t u : Tok} {σ : SSt} {x y : Str} {own Q}
   (F : Fr base L s.heap (fun z => if z = Str.ofString "ch" then some (.str y u) else if z = Str.ofString "pos" then some (.int (p : Nat) t) else ov [(Str.ofString "addr", .str x tx), (Str.ofString "start", .int (σ.start : Nat) ts), (Str.ofString "open_pos", optV σ.op top), (Str.ofString "result", .ref D)] u₀ z))
   (N : News base L s.heap ((D, { cls := .type "list", data := .seq vs.toArray n }) :: own)) (hoo : OwnOff own [D]) (hv : StrsAre vs σ.res) (hr : σ.res.length ≤ i) (hy : ∀ y ∈ σ.res, y.length ≤ x.length) (hi : i ≤ 600) (hx : x.length ≤ 500) :
   wpAny (model prog w) A (execs (forBody (fbody (fnAt 4))[4]?) (envOf (fname (fnAt 4)) (fscope (fnAt 4)) L a cd)) (TurnOut base L own (fun m' news' => ∃ σ', sstep x σ (p, y) = σ' ∧ SInv x tx D (i + 1) σ' m' news') false s Q) (fun _ _ => False) s := by
  obtain ⟨start, op, res⟩ := σ
  dsimp only at F hv hr hy ⊢
  simp only [ov] at F
  have X : Wd false s s := Wd.refl
  have hap : ∀ p ∈ own, p.1 ≠ D := fun p hp => hoo p hp D (.head _)
  have hvl : vs.length ≤ 1000 := by rw [StrsAre.length hv]; omega
  have hy' : ∀ z ∈ res, z.length ≤ x.length := hy
  refine wpAny_execs_cons ?_
  iterate 7 (walk_at "go")
  · rename_i hq
    have hq' : y = Str.ofString "\"" := by simpa using hq
    cases op with
    | none =>
      have F' : Fr base L s.heap (fun z => if z = Str.ofString "ch" then some (.str y u) else if z = Str.ofString "pos" then some (.int (p : Nat) t) else if z = Str.ofString "addr" then some (.str x tx) else if z = Str.ofString "start" then some (.int (start : Nat) ts) else if z = Str.ofString "open_pos" then some .none else if z = Str.ofString "result" then some (.ref D) else u₀ z) := F
      clear F
      iterate 5 (walk_at "go")
      refine is_none_none ?_
      iterate 2 (walk_at "go")
      · repeat' (walk_at "go")
        rename_i s₂ F₂ N₂ X₂
        refine turn_next (news' := [(D, _)]) F₂ N₂ hoo X₂ ⟨⟨start, some p, res⟩, ?_, vs, n, _, _, rfl, hv, ?_, hy', rfl, rfl, rfl, rfl⟩
        · unfold sstep; rw [if_pos hq']
        · show res.length ≤ i + 1; omega
      · rename_i hf; exact absurd rfl hf
    | some o =>
      have F' : Fr base L s.heap (fun z => if z = Str.ofString "ch" then some (.str y u) else if z = Str.ofString "pos" then some (.int (p : Nat) t) else if z = Str.ofString "addr" then some (.str x tx) else if z = Str.ofString "start" then some (.int (start : Nat) ts) else if z = Str.ofString "open_pos" then some (.int (o : Nat) top) else if z = Str.ofString "result" then some (.ref D) else u₀ z) := F
      clear F
      iterate 5 (walk_at "go")
      refine is_int_none ?_
      iterate 2 (walk_at "go")
      · rename_i hf; cases hf
      · iterate 8 (walk_at "go")
        · rename_i hne
          have hne' : start ≠ o := by
            intro e; subst e; simp at hne
          iterate 9 (walk_at "go")
          refine sliceW (part_some ?_)
          iterate 1 (walk_at "go")
          refine part_some ?_
          iterate 1 (walk_at "go")
          refine part_none ?_
          intro s₅ sl₅ X₅ k₅ hsl₅
          have F₅ := F'.keeps k₅
          have N₅ := news_keeps N k₅
          have W₅ : Wd false s s₅ := X.step X₅ rfl rfl rfl
          refine strSliceTail (l := some (start, _)) (u := some (o, _)) hsl₅ (by show x.length ≤ 2 ^ 24; omega) ?_ rfl
          intro t' k'
          have hsl' : (Txt.slice x (some (start : Int)) (some (o : Int))).length ≤ x.length := Txt.slice_le ..
          clear N F'
          dsimp only [Option.map]
          repeat' (walk_at "go")
          rename_i s₆ F₆ N₆ X₆
          refine turn_next (news' := [(D, _)]) F₆ N₆ hoo X₆ ⟨⟨p + 1, none, res ++ [_]⟩, ?_, _, _, _, top, rfl, hv.append' (.cons _ _ .nil), ?_, ?_, rfl, rfl, rfl, rfl⟩
          · unfold sstep; rw [if_pos hq']; dsimp only; rw [if_pos hne']
          · show (res ++ [_]).length ≤ i + 1; rw [List.length_append, List.length_singleton]; omega
          · intro z hm
            rcases List.mem_append.mp hm with hm | hm
            · exact hy' z hm
            · rw [List.mem_singleton.mp hm]; exact hsl'
        · rename_i hne
          have hne' : ¬ start ≠ o := by
            intro e
            exact hne (by rw [bne_iff_ne]; intro h; exact e (Int.ofNat_inj.mp h))
          repeat' (walk_at "go")
          rename_i s₆ F₆ N₆ X₆
          refine turn_next (news' := [(D, _)]) F₆ N₆ hoo X₆ ⟨⟨p + 1, none, res⟩, ?_, vs, n, _, top, rfl, hv, ?_, hy', rfl, rfl, rfl, rfl⟩
          · unfold sstep; rw [if_pos hq']; dsimp only; rw [if_neg hne']
          · show res.length ≤ i + 1; omega
  · rename_i hq
    have hq' : ¬ y = Str.ofString "\"" := by simpa using hq
    iterate 2 (walk_at "go")
    refine turn_next (news' := [(D, _)]) F N hoo (Wd.like X rfl rfl rfl) ⟨⟨start, op, res⟩, ?_, vs, n, _, _, rfl, hv, ?_, hy', rfl, rfl, rfl, rfl⟩
    · unfold sstep; rw [if_neg hq']
    · show res.length ≤ i + 1; omega

theorem sst_take {x : Str} {us : List (Nat × Str)} {i : Nat} {q : Nat × Str} (h : us[i]? = some q) : sst x (us.take (i + 1)) = sstep x (sst x (us.take i)) q := by
  unfold sst
  rw [List.take_add_one, h, Option.toList_some, List.foldl_append]; rfl

theorem strip_spec {prog : Program} {w : World} {A : Around} {s : Shared} {mg mb : Str → Option Value} {fa : Addr} {x : Str} {t : Tok} {R : Result → Shared → Prop} (G : Gd mg mb s.heap) (hA : Rm 2 A) (hfa : mg (Str.ofString "_strip_quoted_realnames") = some (.ref fa)) (hx : x.length ≤ 500)
    (hR : ∀ s' t', Wd true s s' → (∀ b o, s.heap.get? b = some o → s'.heap.get? b = some o) → R (.ok (.ret (.str (stripStr x) t'))) s') :
    codeAny (model prog w) A (.call (.ref fa) ⟨[.str x t], []⟩) R s := by
  refine enter (i := 4) (binds := [(Str.ofString "addr", .str x t)]) G (by decide) hA hfa (fun _ _ _ => rfl) (by rfl) (fun s₁ cd F N X => ?_)
  have hA' := hA.deeper (envOf (fname (fnAt 4)) (fscope (fnAt 4)) s.heap.objs.size fa cd)
  have hgl : (genStr x).length ≤ 501 := by
    have := gen_len x.cps.toList 0 false
    have e : x.cps.toList.length = x.length := by simp [Str.length]
    unfold genStr; omega
  refine wpAny_execs_cons ?_
  iterate 4 (walk_at "go")
  refine SB.notContains ?_
  iterate 2 (walk_at "go")
  · rename_i hc
    iterate 3 (walk_at "go")
    have e : stripStr x = x := by
      unfold stripStr
      rw [if_neg (by simpa using hc)]
    rw [← e] at F
    rw [show (Value.str x t) = Value.str (stripStr x) t by rw [e]]
    exact hR _ _ (Wd.up (Wd.like X (by rfl) (by rfl) (by rfl))) (by exact F.keep)
  · rename_i hc
    have hs : stripStr x = Txt.join (Str.ofString "") (if (sst x (genStr x)).start < x.length then (sst x (genStr x)).res ++ [Txt.slice x (some ((sst x (genStr x)).start : Nat)) none] else (sst x (genStr x)).res) := by
      unfold stripStr
      rw [if_pos (by simpa using hc)]
    iterate 15 (walk_at "go")
    rename_i _ _ _ _ _ _ _ _ s₂ D F₂ N₂ X₂ _ hD₂ s₃ F₃ N₃ X₃
    iterate 1 (walk_at "go")
    have G₃ := G.keeps F₃.keep
    refine wpAny_For (callF (i := 3) G₃ (by decide) (fun fb hfb => ?_))
    iterate 3 (walk_at "go")
    refine ⟨fun _ _ e => e, gen_call (base := s.heap) G F₃.keep (hA'.less (k := 1) (j := 1) (by omega)) hfb ?_⟩
    intro s₄ a C gs k₄ hna hnC haC hos hdr hgs hbr hst
    have F₄ := F₃.keeps k₄
    have N₄ := news_keeps N₃ k₄
    have X₄ : Wd true s s₄ := by
      refine ⟨hos.trans X₃.os, hdr.trans X₃.drawn, ?_⟩
      simp only [if_true]
      have e3 : s₄.gens = s.gens.push gs := by rw [hgs]; show s₃.gens.push gs = _; rw [X₃.keepsGens]
      rw [e3]
      refine ⟨fun h => h.push hbr, fun i v e => ?_⟩
      have hi := (Array.getElem?_eq_some_iff.mp e).1
      rw [Array.getElem?_push_lt hi, ← Array.getElem?_eq_getElem hi]; exact e
    have hex : ∀ b, s₃.heap.get? b = none → s.heap.objs.size ≠ b ∧ s.heap.get? b = none ∧ D ≠ b := fun b hb => by
      refine ⟨fun q => ?_, ?_, fun q => ?_⟩
      · obtain ⟨oL, _, _, hL, _⟩ := F₃.ns
        rw [← q] at hb; rw [hb] at hL; cases hL
      · cases e : s.heap.get? b with
        | none => rfl
        | some o => rw [F₃.keep _ _ e] at hb; cases hb
      · have := (N₃ _ (.head _)).1
        rw [← q, this] at hb; cases hb
    have ha' := hex a hna
    have hC' := hex C hnC
    refine wpAny_pyIter_gen (hst _ hA'.hh).1 ?_
    refine forLoop_gen (base := s.heap) hA'.hh hA'.room G (fun i m news => SInv x t D i (sst x ((genStr x).take i)) m news) [D] ?_ s (Nat.le_of_eq (by show s.gens.size = s₃.gens.size; rw [X₃.keepsGens])) rfl rfl rfl (hst _ hA'.hh) haC.1 ha'.1 hC'.1 ha'.2.1 hC'.2.1 (by simp [ha'.2.2.symm]) (by simp [hC'.2.2.symm]) F₄ N₄ X₄ ?_ ?_ ?_
    · rintro i m news ⟨vs, n, ts, top, rfl, _⟩; rfl
    · exact ⟨[], _, _, 0, rfl, .nil, Nat.zero_le _, (fun y hm => nomatch hm), rfl, rfl, rfl, rfl⟩
    · rintro i p y t₁ u₁ m₁ news₁ s₅ own hu ⟨vs, n, ts, top, rfl, hv, hr, hy, e1, e2, e3, e4⟩ hoo X₅ F₅ N₅
      have hi : i < (genStr x).length := (List.getElem?_eq_some_iff.mp hu).1
      rw [sst_take hu]
      have e : ov [(Str.ofString "addr", .str x t), (Str.ofString "start", .int ((sst x ((genStr x).take i)).start : Nat) ts), (Str.ofString "open_pos", optV (sst x ((genStr x).take i)).op top), (Str.ofString "result", .ref D)] m₁ = m₁ := ov_self (by
        intro p hp
        simp only [List.mem_cons, List.not_mem_nil, or_false] at hp
        rcases hp with rfl | rfl | rfl | rfl
        · exact e1
        · exact e2
        · exact e3
        · exact e4)
      rw [← e] at F₅
      exact wpAny_mono (strip_turn F₅ N₅ hoo hv hr hy (by omega) hx) (fun f s₃ h₃ => h₃.mono fun m n h => by obtain ⟨σ', rfl, a5⟩ := h; exact a5) fun _ _ e => e
    · rintro m₁ news₁ s₅ ⟨vs, n, ts, top, rfl, hv, hr, hy, e1, e2, e3, e4⟩ X₅ F₅ N₅
      rw [List.take_length] at hv hr hy e2 e3
      generalize sst x (genStr x) = σ at hv hr hy e2 e3 hs
      have e : ov [(Str.ofString "addr", .str x t), (Str.ofString "start", .int (σ.start : Nat) ts), (Str.ofString "result", .ref D)] m₁ = m₁ := ov_self (by
        intro p hp
        simp only [List.mem_cons, List.not_mem_nil, or_false] at hp
        rcases hp with rfl | rfl | rfl
        · exact e1
        · exact e2
        · exact e4)
      rw [← e] at F₅
      simp only [ov] at F₅
      have hvl : vs.length ≤ 1000 := by rw [StrsAre.length hv]; omega
      have hap : ∀ p ∈ ([] : List (Addr × Obj)), p.1 ≠ D := fun p hp => nomatch hp
      have hsum := sum_le x.length σ.res hy
      have hsum2 : σ.res.length * x.length ≤ 501 * 500 := Nat.mul_le_mul (by omega) hx
      iterate 14 (walk_at "go")
      · rename_i hlt
        have hlt' : σ.start < x.length := by simpa using hlt
        rw [if_pos hlt'] at hs
        iterate 9 (walk_at "go")
        refine sliceW (part_some ?_)
        iterate 1 (walk_at "go")
        refine part_none (part_none ?_)
        intro s₆ sl₆ X₆ k₆ hsl₆
        have F₆ := F₅.keeps k₆
        have N₆ := news_keeps N₅ k₆
        have W₆ : Wd true s s₆ := X₅.step X₆ rfl rfl rfl
        refine strSliceTail (l := some (σ.start, _)) (u := none) hsl₆ (by show x.length ≤ 2 ^ 24; omega) ?_ rfl
        intro t' k'
        have hsl' : (Txt.slice x (some (σ.start : Int)) none).length ≤ x.length := Txt.slice_le ..
        clear N₅ F₅
        dsimp only [Option.map]
        iterate 7 (walk_at "go")
        rename_i s₇ F₇ N₇ X₇
        refine GM.join ?_
        iterate 4 (walk_at "go")
        refine join_list (N₇.isList (.head _)) (hv.append' (.cons _ _ .nil)) ?_ (fun t₂ k₂ => ?_)
        · rw [List.map_append, List.sum_append, List.map_singleton, List.sum_singleton]
          show _ + _ * 0 ≤ _
          omega
        rw [← hs]
        exact hR _ _ (Wd.like X₇ rfl rfl rfl) F₇.keep
      · rename_i hlt
        have hlt' : ¬ σ.start < x.length := by simpa using hlt
        rw [if_neg hlt'] at hs
        iterate 5 (walk_at "go")
        refine GM.join ?_
        iterate 4 (walk_at "go")
        refine join_list (N₅.isList (.head _)) hv ?_ (fun t₂ k₂ => ?_)
        · show _ + _ * 0 ≤ _
          omega
        rw [← hs]
        exact hR _ _ (Wd.like X₅ rfl rfl rfl) F₅.keep

/-! ## _check_parenthesis -/
def balU : Nat → List Str → Bool
  | k, [] => k == 0
  | k, u :: r => if u = Str.ofString "(" then balU (k + 1) r else if u = Str.ofString ")" then (match k with | 0 => false | k' + 1 => balU k' r) else balU k r
def checkStr (x : Str) : Bool := balU 0 ((genStr (stripStr x)).map (·.2))

/-- the state behind a call that makes the generator -/
theorem made_gen {s s₃ s₄ : Shared} {gs : GenState} (X₃ : Wd true s s₃) (hos : s₄.os = s₃.os) (hdr : s₄.drawn = s₃.drawn) (hgs : s₄.gens = s₃.gens.push gs) (hbr : gs.bare = true) : Wd true s s₄ := by
  refine ⟨hos.trans X₃.os, hdr.trans X₃.drawn, ?_⟩
  have x3 := X₃.gens
  simp only [if_true] at x3 ⊢
  rw [hgs]
  refine ⟨fun h => (x3.1 h).push hbr, fun i v e => ?_⟩
  have e' := x3.2 i v e
  have hi := (Array.getElem?_eq_some_iff.mp e').1
  rw [Array.getElem?_push_lt hi, ← Array.getElem?_eq_getElem hi]; exact e'
theorem gens_le {s s' : Shared} (X : Wd true s s') : s.gens.size ≤ s'.gens.size := by
  have x3 := X.gens
  simp only [if_true] at x3
  rcases Nat.lt_or_ge s'.gens.size s.gens.size with h | h
  · have e := x3.2 s'.gens.size _ (Array.getElem?_eq_getElem h)
    have := (Array.getElem?_eq_some_iff.mp e).1
    omega
  · exact h

theorem check_turn {prog : Program} {w : World} {A : Around} {s : Shared} {base : Heap} {L a : Addr} {cd : Value} {u₀ : Str → Option Value} {k p : Nat} {tk t u : Tok} {y : Str} {r : List Str} {own} {Q : Flow → Shared → Prop}
   (F : Fr base L s.heap (fun z => if z = Str.ofString "ch" then some (.str y u) else if z = Str.ofString "pos" then some (.int (p : Nat) t) else ov [(Str.ofString "opens", .int (k : Nat) tk)] u₀ z))
   (N : News base L s.heap own) (hoo : OwnOff own [])
   (hret : balU k (y :: r) = false → ∀ s', Wd false s s' → (∀ b o, base.get? b = some o → s'.heap.get? b = some o) → Q (.ret (.bool false)) s') :
   wpAny (model prog w) A (execs (forBody (fbody (fnAt 5))[2]?) (envOf (fname (fnAt 5)) (fscope (fnAt 5)) L a cd)) (TurnOut base L own (fun m' news' => news' = [] ∧ ∃ k' t', m' (Str.ofString "opens") = some (.int (k' : Nat) t') ∧ balU k (y :: r) = balU k' r) false s Q) (fun _ _ => False) s := by
  simp only [ov] at F
  have X : Wd false s s := Wd.refl
  refine wpAny_execs_cons ?_
  iterate 7 (walk_at "go")
  · rename_i hq
    have hq' : y = Str.ofString "(" := by simpa using hq
    have eb : balU k (y :: r) = balU (k + 1) r := by show (if y = _ then _ else _) = _; rw [if_pos hq']
    iterate 4 (walk_at "go")
    refine PyProof.Rows.iadd_int ?_
    rw [show (k : Int) + 1 = ((k + 1 : Nat) : Int) by omega]
    repeat' (walk_at "go")
    rename_i s₂ F₂ N₂ X₂
    exact turn_next (news' := []) F₂ N₂ hoo X₂ ⟨rfl, k + 1, _, rfl, eb⟩
  · rename_i hq
    have hq' : ¬ y = Str.ofString "(" := by simpa using hq
    iterate 8 (walk_at "go")
    · rename_i hc
      have hc' : y = Str.ofString ")" := by simpa using hc
      iterate 4 (walk_at "go")
      refine PyProof.Rows.isub_int ?_
      cases k with
      | zero =>
        have eb : balU 0 (y :: r) = false := by show (if y = _ then _ else if y = _ then _ else _) = _; rw [if_neg hq', if_pos hc']
        iterate 9 (walk_at "go")
        · rename_i s₂ F₂ N₂ X₂ _
          repeat' (walk_at "go")
          exact hret eb _ (Wd.like X₂ rfl rfl rfl) F₂.keep
        · rename_i hf; exact absurd (by decide) hf
      | succ k' =>
        have eb : balU (k' + 1) (y :: r) = balU k' r := by show (if y = _ then _ else if y = _ then _ else _) = _; rw [if_neg hq', if_pos hc']
        rw [show (((k' + 1 : Nat) : Int) - 1) = ((k' : Nat) : Int) by omega]
        iterate 9 (walk_at "go")
        · rename_i hf
          simp only [decide_eq_true_eq] at hf
          omega
        · rename_i s₂ F₂ N₂ X₂ _
          repeat' (walk_at "go")
          exact turn_next (news' := []) F₂ N₂ hoo (Wd.like X₂ rfl rfl rfl) ⟨rfl, k', _, rfl, eb⟩
    · rename_i hc
      have hc' : ¬ y = Str.ofString ")" := by simpa using hc
      have eb : balU k (y :: r) = balU k r := by show (if y = _ then _ else if y = _ then _ else _) = _; rw [if_neg hq', if_neg hc']
      repeat' (walk_at "go")
      exact turn_next (news' := []) F N hoo (Wd.like X rfl rfl rfl) ⟨rfl, k, _, rfl, eb⟩

theorem check_spec {prog : Program} {w : World} {A : Around} {s : Shared} {mg mb : Str → Option Value} {fa : Addr} {x : Str} {t : Tok} {R : Result → Shared → Prop} (G : Gd mg mb s.heap) (hA : Rm 3 A) (hfa : mg (Str.ofString "_check_parenthesis") = some (.ref fa)) (hx : x.length ≤ 500)
    (hR : ∀ s', Wd true s s' → (∀ b o, s.heap.get? b = some o → s'.heap.get? b = some o) → R (.ok (.ret (.bool (checkStr x)))) s') :
    codeAny (model prog w) A (.call (.ref fa) ⟨[.str x t], []⟩) R s := by
  refine enter (i := 5) (binds := [(Str.ofString "addr", .str x t)]) G (by decide) hA hfa (fun _ _ _ => rfl) (by rfl) (fun s₁ cd F N X => ?_)
  have hA' := hA.deeper (envOf (fname (fnAt 5)) (fscope (fnAt 5)) s.heap.objs.size fa cd)
  refine wpAny_execs_cons ?_
  iterate 1 (walk_at "go")
  have G₁ := G.keeps F.keep
  refine callF (i := 4) G₁ (by decide) (fun fb hfb => ?_)
  iterate 3 (walk_at "go")
  refine ⟨fun _ _ e => e, strip_spec G₁ (hA'.less (by omega)) hfb hx ?_⟩
  intro s₂ t₂ X₂ k₂
  have F₂ := F.keeps k₂
  have N₂ := news_keeps N k₂
  have X₂' : Wd true s s₂ := (Wd.up (g := true) (Wd.like X rfl rfl rfl)).trans X₂
  have hcx : checkStr x = balU 0 ((genStr (stripStr x)).map (·.2)) := rfl
  generalize stripStr x = z at hcx
  show wpAny _ _ (storeName _ _ _) _ _ _
  iterate 6 (walk_at "go")
  rename_i s₃ F₃ N₃ X₃
  have G₃ := G.keeps F₃.keep
  refine wpAny_For (callF (i := 3) G₃ (by decide) (fun fc hfc => ?_))
  iterate 3 (walk_at "go")
  refine ⟨fun _ _ e => e, gen_call (base := s.heap) G F₃.keep (hA'.less (j := 1) (by omega)) hfc ?_⟩
  intro s₄ a C gs k₄ hna hnC haC hos hdr hgs hbr hst
  have F₄ := F₃.keeps k₄
  have N₄ := news_keeps N₃ k₄
  have X₄ : Wd true s s₄ := made_gen X₃ hos hdr hgs hbr
  have hex : ∀ b, s₃.heap.get? b = none → s.heap.objs.size ≠ b ∧ s.heap.get? b = none := fun b hb => by
    refine ⟨fun q => ?_, ?_⟩
    · obtain ⟨oL, _, _, hL, _⟩ := F₃.ns
      rw [← q] at hb; rw [hb] at hL; cases hL
    · cases e : s.heap.get? b with
      | none => rfl
      | some o => rw [F₃.keep _ _ e] at hb; cases hb
  have ha' := hex a hna
  have hC' := hex C hnC
  refine wpAny_pyIter_gen (hst _ hA'.hh).1 ?_
  refine forLoop_gen (base := s.heap) hA'.hh hA'.room G (fun i m news => news = [] ∧ ∃ k t, m (Str.ofString "opens") = some (.int (k : Nat) t) ∧ balU 0 ((genStr z).map (·.2)) = balU k (((genStr z).drop i).map (·.2))) [] ?_ s (by show s.gens.size ≤ s₃.gens.size; exact gens_le X₃) rfl rfl rfl (hst _ hA'.hh) haC.1 ha'.1 hC'.1 ha'.2 hC'.2 (by simp) (by simp) F₄ N₄ X₄ ?_ ?_ ?_
  · rintro i m news ⟨rfl, _⟩; rfl
  · exact ⟨rfl, 0, _, rfl, rfl⟩
  · rintro i p y t₁ u₁ m₁ news₁ s₅ own hu ⟨rfl, k, tk, e1, e2⟩ hoo X₅ F₅ N₅
    have hi : i < (genStr z).length := (List.getElem?_eq_some_iff.mp hu).1
    have hdr' : (genStr z).drop i = (p, y) :: (genStr z).drop (i + 1) := by
      rw [List.drop_eq_getElem_cons hi]
      rw [List.getElem?_eq_getElem hi] at hu; rw [Option.some.inj hu]
    rw [hdr', List.map_cons] at e2
    have e : ov [(Str.ofString "opens", .int (k : Nat) tk)] m₁ = m₁ := ov_self (by
      intro p hp
      simp only [List.mem_cons, List.not_mem_nil, or_false] at hp
      rcases hp with rfl
      exact e1)
    rw [← e] at F₅
    refine wpAny_mono (check_turn (r := ((genStr z).drop (i + 1)).map (·.2)) F₅ N₅ hoo (fun hf s₆ X₆ k₆ => ?_)) (fun f s₃ h₃ => h₃.mono fun m n h => by obtain ⟨h1, k', t', h2, h3⟩ := h; exact ⟨h1, k', t', h2, e2.trans h3⟩) fun _ _ e => e
    have hf' : checkStr x = false := by rw [hcx, e2]; exact hf
    rw [← hf']
    exact hR _ (X₅.trans X₆.up) k₆
  · rintro m₁ news₁ s₅ ⟨rfl, k, tk, e1, e2⟩ X₅ F₅ N₅
    rw [List.drop_length] at e2
    have e : ov [(Str.ofString "opens", .int (k : Nat) tk)] m₁ = m₁ := ov_self (by
      intro p hp
      simp only [List.mem_cons, List.not_mem_nil, or_false] at hp
      rcases hp with rfl
      exact e1)
    rw [← e] at F₅
    simp only [ov] at F₅
    iterate 6 (walk_at "go")
    have hf : checkStr x = ((k : Int) == 0) := by
      rw [hcx, e2]
      show (k == 0) = _
      rw [Bool.eq_iff_iff]; simp
    rw [← hf]
    exact hR _ (Wd.like X₅ rfl rfl rfl) F₅.keep

/-! ## _pre_parse_validation -/
def badStr : Str := Str.ofString "('', '')"
def preOf (v : Str) : Str := if checkStr v = true then v else badStr
theorem pre_spec {prog : Program} {w : World} {A : Around} {s : Shared} {mg mb : Str → Option Value} {fa Dx : Addr} {items : List Value} {xs : List Str} {R : Result → Shared → Prop} (G : Gd mg mb s.heap) (hA : Rm 4 A) (hfa : mg (Str.ofString "_pre_parse_validation") = some (.ref fa))
    (hl : s.heap.IsList Dx items.toArray) (hi : StrsAre items xs) (hsz : xs.length ≤ 1000) (hx : ∀ y ∈ xs, y.length ≤ 500)
    (hR : ∀ s' D vs n, Wd true s s' → (∀ b o, s.heap.get? b = some o → s'.heap.get? b = some o) → s.heap.get? D = none → s'.heap.get? D = some { cls := .type "list", data := .seq (vs : List Value).toArray n } → StrsAre vs (xs.map preOf) → R (.ok (.ret (.ref D))) s') :
    codeAny (model prog w) A (.call (.ref fa) ⟨[.ref Dx], []⟩) R s := by
  refine enter (i := 6) (binds := [(Str.ofString "email_header_fields", .ref Dx)]) G (by decide) hA hfa (fun _ _ _ => rfl) (by rfl) (fun s₁ cd F N X => ?_)
  have hA' := hA.deeper (envOf (fname (fnAt 6)) (fscope (fnAt 6)) s.heap.objs.size fa cd)
  have X' : Wd true s s₁ := X.up
  refine wpAny_execs_cons ?_
  iterate 3 (walk_at "go")
  refine newListW F N X' ?_ (by size_fits)
  intro s₂ D F₂ N₂ X₂ _ hD₀
  iterate 2 (walk_at "go")
  rename_i s₃ F₃ N₃ X₃
  have hD : s.heap.get? D = none := by
    cases e : s.heap.get? D with
    | none => rfl
    | some o => rw [F.keep _ _ e] at hD₀; cases hD₀
  have hDx : ∃ o, s.heap.get? Dx = some o := by obtain ⟨o, ho, _⟩ := hl; exact ⟨o, ho⟩
  have hne : D ≠ Dx := fun q => by obtain ⟨o, ho⟩ := hDx; rw [q, ho] at hD; cases hD
  refine for_list (base := s.heap) hA'.hh (fun i m news => ∃ vs n, news = [(D, ({ cls := .type "list", data := .seq vs.toArray n } : Obj))] ∧ StrsAre vs ((xs.take i).map preOf) ∧ m (Str.ofString "accepted_values") = some (.ref D)) true s rfl rfl ?_
  iterate 1 (walk_at "go")
  refine ⟨Dx, _, _, _, rfl, hl.at fun o e => F₃.keep _ o e, ?_, ?_, F₃, N₃, X₃, ⟨[], _, rfl, .nil, rfl⟩, ?_, ?_⟩
  · intro q
    obtain ⟨o, ho⟩ := hDx
    have := Heap.lt_size ho
    rw [show Dx = s.heap.objs.size from q] at this
    exact Nat.lt_irrefl _ this
  · intro p hp
    rw [List.mem_singleton.mp hp]; exact hne
  · rintro i v m₁ news₁ s₄ own hv ⟨vs, n, rfl, hvs, e1⟩ hoo X₄ F₄ N₄
    obtain ⟨y, ty, rfl, hy⟩ := StrsAre.item hi i v (by simpa using hv)
    have hyl := hx y (List.mem_of_getElem? hy)
    have hilt : i < xs.length := (List.getElem?_eq_some_iff.mp hy).1
    have hap : ∀ p ∈ own, p.1 ≠ D := fun p hp => hoo p hp D (.head _)
    have hvl : vs.length ≤ 1000 := by rw [StrsAre.length hvs, List.length_map, List.length_take]; omega
    have e : ov [(Str.ofString "accepted_values", .ref D)] m₁ = m₁ := ov_self (by
      intro p hp
      simp only [List.mem_cons, List.not_mem_nil, or_false] at hp
      rcases hp with rfl
      exact e1)
    rw [← e] at F₄
    simp only [ov] at F₄
    have G₄ := G.keeps F₄.keep
    have etk : (xs.take (i + 1)).map preOf = (xs.take i).map preOf ++ [preOf y] := by
      rw [List.take_add_one, hy, Option.toList_some, List.map_append]; rfl
    rw [etk]
    refine wpAny_execs_cons ?_
    iterate 1 (walk_at "go")
    refine isTrue_not (isTrue_plain ?_)
    refine callF (i := 5) G₄ (by decide) (fun fb hfb => ?_)
    iterate 3 (walk_at "go")
    refine ⟨fun _ _ e => e, check_spec G₄ hA' hfb hyl ?_⟩
    intro s₅ X₅ k₅
    have F₅ := F₄.keeps k₅
    have N₅ := news_keeps N₄ k₅
    have W₅ : Wd true s s₅ := X₄.trans X₅
    show wpAny _ _ _ _ _ _
    iterate 2 (walk_at "go")
    · rename_i hc
      have hp : preOf y = badStr := by
        unfold preOf; rw [if_neg (by simpa using hc)]
      rw [hp]
      repeat' (walk_at "go")
      rename_i s₆ F₆ N₆ X₆
      exact turn_next (news' := [(D, _)]) F₆ N₆ hoo X₆ ⟨_, _, rfl, hvs.append' (.cons _ _ .nil), rfl⟩
    · rename_i hc
      have hp : preOf y = y := by
        unfold preOf; rw [if_pos (by simpa using hc)]
      rw [hp]
      repeat' (walk_at "go")
      rename_i s₆ F₆ N₆ X₆
      exact turn_next (news' := [(D, _)]) F₆ N₆ hoo X₆ ⟨_, _, rfl, hvs.append' (.cons _ _ .nil), rfl⟩
  · rintro m₁ news₁ s₄ ⟨vs, n, rfl, hvs, e1⟩ X₄ F₄ N₄
    rw [List.take_of_length_le (by have := StrsAre.length hi; simp; omega)] at hvs
    have e : ov [(Str.ofString "accepted_values", .ref D)] m₁ = m₁ := ov_self (by
      intro p hp
      simp only [List.mem_cons, List.not_mem_nil, or_false] at hp
      rcases hp with rfl
      exact e1)
    rw [← e] at F₄
    simp only [ov] at F₄
    iterate 3 (walk_at "go")
    exact hR _ D vs n (Wd.like X₄ rfl rfl rfl) F₄.keep hD (N₄ _ (.head _)).1 hvs

/-! ## what is held between the steps of law -/
section
variable {base h h' : Heap} {L : Addr} {m m' : Str → Option Value} {fp : List Addr}
theorem held_news (hL : L ∉ fp) : News base L h (standing base h fp) := fun q hq => by
  obtain ⟨h1, h2, h3⟩ := standing_mem hq
  exact ⟨h3, fun e => hL (e ▸ h1), h2⟩
theorem held_kept {rest : List (Addr × Obj)} (F : Fr base L h m) (F' : Fr base L h' m') (N' : News base L h' rest) (hs : ∀ p ∈ standing base h fp, p ∈ rest) : ∀ b ∈ fp, ∀ o, h.get? b = some o → h'.get? b = some o := fun b hb o e => by
  cases hq : base.get? b with
  | some o' =>
    have e1 := F.keep b o' hq
    rw [e] at e1; cases e1
    exact F'.keep b o hq
  | none => exact (N' (b, o) (hs _ (mem_standing hb hq e))).1
end
/-- the places of a list's pairs -/
def refsOf : List Value → List Addr
  | [] => []
  | .ref a :: r => a :: refsOf r
  | _ :: r => refsOf r
theorem mem_refsOf : ∀ {vs : List Value} {T : Addr}, Value.ref T ∈ vs → T ∈ refsOf vs
  | v :: r, T, hm => by
    rcases List.mem_cons.mp hm with e | hm
    · subst e; exact .head _
    · have := mem_refsOf hm
      cases v <;> first | exact this | exact .tail _ this
theorem refsOf_mem : ∀ {vs : List Value} {T : Addr}, T ∈ refsOf vs → Value.ref T ∈ vs
  | v :: r, T, hm => by
    cases v with
    | ref a =>
      rcases List.mem_cons.mp hm with e | hm
      · subst e; exact .head _
      · exact .tail _ (refsOf_mem hm)
    | _ => exact .tail _ (refsOf_mem hm)
theorem TupsAt.tup {h : Heap} : ∀ {vs : List Value} {us : List (Nat × Str)}, TupsAt h vs us → ∀ T, Value.ref T ∈ vs → ∃ p t x u, h.get? T = some (tupObj p t x u)
  | _, _, .nil, _, hm => nomatch hm
  | _, _, .cons (T := T') e r, T, hm => by
    rcases List.mem_cons.mp hm with e' | hm
    · cases e'; exact ⟨_, _, _, _, e⟩
    · exact r.tup T hm
theorem refs_off {base h : Heap} {L : Addr} {m : Str → Option Value} {vs : List Value} {us : List (Nat × Str)} (F : Fr base L h m) (hT : TupsAt h vs us) : L ∉ refsOf vs := fun hm => by
  obtain ⟨p, t, x, u, e⟩ := hT.tup L (refsOf_mem hm)
  obtain ⟨o, es, n, ho, hd, _⟩ := F.ns
  rw [ho] at e; cases e; cases hd

/-! ## lists that are alike -/
theorem canAll_tups : ∀ {us : List (Nat × Str)}, (∀ q ∈ us, PyData.strOk q.2 = true) → PyData.canLayAll0 (us.map fun q => PyData.tuple [.int q.1, .str q.2]) = true
  | [], _ => by simp [PyData.canLayAll0]
  | q :: r, h => by
    have h1 := h q (.head _)
    have h2 := canAll_tups (us := r) fun z hz => h z (.tail _ hz)
    simp only [List.map_cons, PyData.canLayAll0, PyData.canLay0, h1, h2, Bool.and_true]
theorem canAll_strs : ∀ {xs : List Str}, (∀ q ∈ xs, PyData.strOk q = true) → PyData.canLayAll0 (xs.map PyData.str) = true
  | [], _ => by simp [PyData.canLayAll0]
  | q :: r, h => by
    have h1 := h q (.head _)
    have h2 := canAll_strs (xs := r) fun z hz => h z (.tail _ hz)
    simp only [List.map_cons, PyData.canLayAll0, PyData.canLay0, h1, h2, Bool.and_true]
theorem depth_tups : ∀ (us : List (Nat × Str)), PyData.depthAll (us.map fun q => PyData.tuple [.int q.1, .str q.2]) ≤ 1
  | [] => by simp [PyData.depthAll]
  | q :: r => by
    have := depth_tups r
    simp only [List.map_cons, PyData.depthAll, PyData.depth]
    omega
theorem depth_strs : ∀ (xs : List Str), PyData.depthAll (xs.map PyData.str) ≤ 0
  | [] => by simp [PyData.depthAll]
  | q :: r => by
    have := depth_strs r
    simp only [List.map_cons, PyData.depthAll, PyData.depth]
    omega
theorem strs_reads {h : Heap} : ∀ {vs : List Value} {xs : List Str}, StrsAre vs xs → ∃ as, ReadsAll h vs (xs.map PyData.str) as
  | _, _, .nil => ⟨_, .nil⟩
  | _, _, .cons y t r => by
    obtain ⟨as, q⟩ := strs_reads (h := h) r
    exact ⟨_, .cons (.str _ _) q⟩
section
variable {prog : Program} {w : World} {A : Around} {E : Value → Shared → Prop} {s : Shared} {Q : Value → Shared → Prop} {k : Nat}
theorem ne_tups {a b : Addr} {us : List (Nat × Str)} {vs ws : Array Value} (hA : Rm k A) (ha : s.heap.IsList a vs) (hb : s.heap.IsList b ws) (h1 : TupsAt s.heap vs.toList us) (h2 : TupsAt s.heap ws.toList us) (hok : ∀ q ∈ us, PyData.strOk q.2 = true)
    (h : Q (.bool false) s) : wpAny (model prog w) A (compareOp .NotEq (.ref a) (.ref b)) Q E s := by
  obtain ⟨oa, ea, ca, na, da⟩ := ha
  obtain ⟨ob, eb, cb, nb, db⟩ := hb
  obtain ⟨as, r1⟩ := h1.reads
  obtain ⟨bs, r2⟩ := h2.reads
  have hc : PyData.canLay0 (.list (us.map fun q => PyData.tuple [.int q.1, .str q.2])) = true := by simp only [PyData.canLay0]; exact canAll_tups hok
  have hsh : SeqAt.shaped (.list (us.map fun q => PyData.tuple [.int q.1, .str q.2])) = true := by
    unfold SeqAt.shaped
    rw [hc, Bool.true_and]
    have := depth_tups us
    simp only [PyData.depth]
    exact decide_eq_true (by omega)
  refine SeqAt.compareNe_shaped (.list ea ca da r1) (.list eb cb db r2) hsh hsh hA.units ?_
  rw [SeqAt.eqv_refl _ hc]
  exact h
theorem ne_strs {a b : Addr} {xs : List Str} {vs ws : Array Value} (hA : Rm k A) (ha : s.heap.IsList a vs) (hb : s.heap.IsList b ws) (h1 : StrsAre vs.toList xs) (h2 : StrsAre ws.toList xs) (hok : ∀ q ∈ xs, PyData.strOk q = true)
    (h : Q (.bool false) s) : wpAny (model prog w) A (compareOp .NotEq (.ref a) (.ref b)) Q E s := by
  obtain ⟨oa, ea, ca, na, da⟩ := ha
  obtain ⟨ob, eb, cb, nb, db⟩ := hb
  obtain ⟨as, r1⟩ := strs_reads (h := s.heap) h1
  obtain ⟨bs, r2⟩ := strs_reads (h := s.heap) h2
  have hc : PyData.canLay0 (.list (xs.map PyData.str)) = true := by simp only [PyData.canLay0]; exact canAll_strs hok
  have hsh : SeqAt.shaped (.list (xs.map PyData.str)) = true := by
    unfold SeqAt.shaped
    rw [hc, Bool.true_and]
    have := depth_strs xs
    simp only [PyData.depth]
    exact decide_eq_true (by omega)
  refine SeqAt.compareNe_shaped (.list ea ca da r1) (.list eb cb db r2) hsh hsh hA.units ?_
  rw [SeqAt.eqv_refl _ hc]
  exact h
end

/-! ## law's own comprehension -/
def fitOf (y : Str) : Str := if closesStr (leftStr (unitsStr y)) = true then y else badStr
def stAt : Option Stmt → Stmt
  | some s => s
  | none => .Pass default
section
variable {prog : Program} {w : World} {A : Around} {E : Value → Shared → Prop} {s : Shared} {env : Env}
/-- a comprehension over a list, stored under a name at once -/
theorem asg_comp_list {elt iter : Expr} {x y : Str} {px py : Pos} {ifs : List Expr} {scope : Scope} {pos spos : Pos} {Q : Flow → Shared → Prop} (p : Value → Bool) (T : Value → Value → Prop) (hh : A.handled = none)
    (hsw : swapsWith (.ListComp elt [⟨.Name x px, iter, ifs, 0⟩] scope pos) (some (.Name y py)) spos.line env = pure true)
    (hfree : ∀ y ∈ scope.names, y.2 ≠ .free) (hcell : ∀ y ∈ scope.names, y.2 ≠ .cell) (hkind : scope.kind = .function)
    (hnames : ∀ y ∈ scope.names, y.2 = .local → scope.names.lookup y.1 = some .local) (hx : scope.names.lookup x = some .local)
    (hy : env.kindOf y = some .local) (hp : (env.scope.kind == .class || (env.scope.kind == .module && env.locals != env.globals)) = false)
    (h : wpAny (model prog w) A (eval iter env) (fun xv s₁ => ∃ ax items m, xv = .ref ax ∧ s₁.heap.IsList ax items ∧ items.size ≤ sizeLine ∧ s₁.heap.Ns env.locals m ∧
      (∀ C v s₂ m₂ E', v ∈ items → s₂.heap.Ns C m₂ → m₂ x = some v → (∀ b o, s₁.heap.get? b = some o → s₂.heap.get? b = some o) →
        wpAny (model prog w) A (forIn ifs true fun c r => if r = true then do let ok ← isTrue c (compEnv scope C env) (eval c (compEnv scope C env)); pure (ForInStep.yield ok) else pure (ForInStep.yield r))
          (fun ok s₃ => ok = p v ∧ Keeps s₂ s₃) E' s₂) ∧
      (∀ C v s₂ m₂ E', v ∈ items → p v = true → s₂.heap.Ns C m₂ → m₂ x = some v → (∀ b o, s₁.heap.get? b = some o → s₂.heap.get? b = some o) → wpAny (model prog w) A (eval elt (compEnv scope C env)) (fun y s₃ => T v y ∧ Keeps s₂ s₃) E' s₂) ∧
      (∀ s' D ys, Wd false s₁ s' → (∀ b o, b ≠ env.locals → s₁.heap.get? b = some o → s'.heap.get? b = some o) → s'.heap.Ns env.locals (fun z => if z = y then some (.ref D) else m z) → s₁.heap.get? D = none → s'.heap.PlainList D ys → Paired T (items.toList.filter p) ys.toList → Q .next s')) E s)
    (hs : ∀ x, foldedSetIterable iter env x = pure x := by intro _; rfl) :
    wpAny (model prog w) A (exec (.Assign [.Name y py] (.ListComp elt [⟨.Name x px, iter, ifs, 0⟩] scope pos) spos) env) Q E s := by
  refine wpAny_Assign_ListComp_walk p T hsw hfree hcell hkind hnames hx hy hp (wpAny_mono h (fun xv s₁ h₁ => ?_) fun _ _ e => e) hs
  obtain ⟨ax, items, m, rfl, hl, hsz, hm, ht, he, hQ⟩ := h₁
  have hax : ax < s₁.heap.objs.size := by obtain ⟨o, ho, _⟩ := hl; exact Heap.lt_size ho
  have nI : ∀ b o, s₁.heap.get? b = some o → b ∉ [s₁.heap.objs.size] := fun b o e hb => absurd (Heap.lt_size e) ((List.mem_singleton.mp hb) ▸ Nat.lt_irrefl _)
  have nL : env.locals ∉ [s₁.heap.objs.size] := by obtain ⟨o, _, _, ho, _⟩ := hm; exact nI _ _ ho
  refine wpAny_pyIter_list hl ⟨_, _, _, items.size, _, _, m, rfl, Walks.list hh s₁.heap.objs.size ax (Nat.ne_of_lt hax) items, hsz, ⟨⟨_, Heap.get?_push_size _ rfl, rfl, rfl⟩, hl.push _⟩, ?_, nL, hm.keeps fun _ _ e => Heap.get?_push_of_some _ e, ⟨?_, ?_⟩, ?_⟩
  · intro b hb
    rw [Heap.size_push]
    rcases List.mem_cons.mp hb with rfl | hb
    · exact Nat.lt_succ_self _
    · rw [List.mem_singleton.mp hb]; exact Nat.lt_succ_of_lt hax
  · intro C i v s₃ m₃ E' hv hn hm hk _
    exact ht C v s₃ m₃ E' (Array.mem_of_getElem? hv) hn hm fun b o e => hk b o (nI b o e) (Heap.get?_push_of_some _ e)
  · intro C i v s₃ m₃ E' hv hp hn hm hk _
    exact he C v s₃ m₃ E' (Array.mem_of_getElem? hv) hp hn hm fun b o e => hk b o (nI b o e) (Heap.get?_push_of_some _ e)
  · intro D h' tk ys vs hD _ hpl hlen hP hF hn hk
    have e : vs = items.toList := by
      refine List.ext_getElem? fun j => ?_
      cases hj : vs[j]? with
      | some v => rw [Array.getElem?_toList]; exact (hP j v hj).symm
      | none =>
        rw [Array.getElem?_toList]
        have := List.getElem?_eq_none_iff.mp hj
        exact (Array.getElem?_eq_none (by omega)).symm
    rw [e] at hF
    refine hQ _ D ys Wd.refl.upd (fun b o hb e => hk b o hb (nI b o e) (Heap.get?_push_of_some _ e)) hn ?_ hpl hF
    cases hq : s₁.heap.get? D with
    | none => rfl
    | some o => have := Heap.get?_push_of_some { cls := .type "list_iterator", data := .fields #[.ref ax, .int 0 0] } hq; exact absurd (hD.symm.trans this) (by simp)
end
theorem fit_comp {prog : Program} {w : World} {A : Around} {s : Shared} {mg mb : Str → Option Value} {base : Heap} {L fa D : Addr} {cd : Value} {m : Str → Option Value} {vs : List Value} {rs : List Str} {Q : Flow → Shared → Prop} {E : Value → Shared → Prop} (G : Gd mg mb base) (hA : Rm 2 A)
    (F : Fr base L s.heap m) (hm : m (Str.ofString "due") = some (.ref D)) (hD : s.heap.IsList D vs.toArray) (hv : StrsAre vs rs) (hl : ∀ y ∈ rs, y.length ≤ 40 ∧ (leftStr (unitsStr y)).length ≤ 500) (hn : rs.length ≤ 1000)
    (hQ : ∀ s' D' ys, Wd false s s' → Fr base L s'.heap (fun z => if z = Str.ofString "fit" then some (.ref D') else m z) → (∀ b o, b ≠ L → s.heap.get? b = some o → s'.heap.get? b = some o) → s.heap.get? D' = none → s'.heap.PlainList D' ys → StrsAre ys.toList (rs.map fitOf) → Q .next s') :
    wpAny (model prog w) A (exec (stAt (forBody (fbody (fnAt 14))[1]?)[11]?) (envOf (fname (fnAt 14)) (fscope (fnAt 14)) L fa cd)) Q E s := by
  refine asg_comp_list (fun _ => true) (fun v y => ∀ x t, v = .str x t → ∃ u, y = .str (fitOf x) u) hA.hh (by rfl) (by decide +kernel) (by decide +kernel) rfl (by decide +kernel) rfl (by rfl) (by rfl) ?_
  refine ld F hm ⟨D, _, m, rfl, hD, ?_, F.ns, ?_, ?_, ?_⟩
  · rw [List.size_toArray, StrsAre.length hv]; show rs.length ≤ 2 ^ 24; omega
  · intro C v s₂ m₂ E' _ _ _ _
    exact wpAny_tests_nil ⟨rfl, s₂.heap, s₂.toks, rfl, fun _ _ e => e⟩
  · intro C v s₂ m₂ E' hm' _ hn₂ hv₂ k₂
    have hm'' : v ∈ vs := by simpa using hm'
    obtain ⟨i, hi⟩ := List.getElem?_of_mem hm''
    obtain ⟨x, t, rfl, hx⟩ := StrsAre.item hv i v hi
    obtain ⟨hx1, hx2⟩ := hl x (List.mem_of_getElem? hx)
    obtain ⟨hu1, hu2⟩ := units_len x
    have G₂ : Gd mg mb s₂.heap := G.keeps fun b o e => k₂ _ _ (F.keep _ _ e)
    iterate 1 (walk_at "go")
    refine isTrue_plain ?_
    refine callF (i := 13) G₂ (by decide) (fun f1 h1 => ?_)
    refine args_cons ?_
    refine callF (i := 12) G₂ (by decide) (fun f2 h2 => ?_)
    refine args_cons ?_
    refine callF (i := 9) G₂ (by decide) (fun f3 h3 => ?_)
    refine args_cons ?_
    refine ldC hn₂ hv₂ ?_
    refine args_nil ?_
    refine ⟨fun _ _ e => e, units_spec G₂ (hA.less (by omega)) h3 (by omega) ?_⟩
    intro s₃ D₃ v₃ X₃ k₃ _ hD₃ hT₃
    have G₃ := G₂.keeps k₃
    show wpAny _ _ _ _ _ _
    refine args_nil ?_
    refine ⟨k₃, left_spec G₃ (hA.less (by omega)) h2 hD₃.isList hT₃ (by omega) hu2 ?_⟩
    intro s₄ t₄ X₄ k₄
    have G₄ := G₃.keeps k₄
    show wpAny _ _ _ _ _ _
    refine args_nil ?_
    refine ⟨fun b o e => k₄ _ _ (k₃ _ _ e), closes_spec G₄ hA h1 hx2 ?_⟩
    intro s₅ X₅ k₅
    show wpAny _ _ _ _ _ _
    iterate 1 (walk_at "go")
    have k₂₅ : ∀ b o, s₂.heap.get? b = some o → s₅.heap.get? b = some o := fun b o e => k₅ _ _ (k₄ _ _ (k₃ _ _ e))
    have K : Keeps s₂ s₅ := ((X₃.trans X₄).trans X₅).keeps k₂₅
    cases hc : closesStr (leftStr (unitsStr x)) with
    | true =>
      rw [if_pos rfl]
      refine ldC (hn₂.keeps k₂₅) hv₂ ⟨fun x' t' e => ?_, K⟩
      cases e; exact ⟨_, by unfold fitOf; rw [hc]; rfl⟩
    | false =>
      rw [if_neg (by decide)]
      iterate 1 (walk_at "go")
      refine ⟨fun x' t' e => ?_, ((X₃.trans X₄).trans X₅).upd.keeps k₂₅⟩
      cases e; exact ⟨_, by unfold fitOf; rw [hc]; rfl⟩
  · intro s' D' ys X hk hns hnew hpl hp
    refine hQ s' D' ys X ⟨hns, fun b o e => hk b o (Nat.ne_of_lt (Nat.lt_of_lt_of_le (Heap.lt_size e) F.above)) (F.keep b o e), F.above⟩ hk hnew hpl (strs_paired hv ?_)
    rw [List.filter_eq_self.mpr (fun _ _ => rfl)] at hp
    exact hp

/-! ## law -/
structure PL (x : Str) : Prop where
  len : x.length ≤ 40
  gu : genStr x = unitsStr x
  pi : parseStr x = itemsStr (genStr x)
  sl : stripStr x = leftStr (genStr x)
  cc : checkStr x = closesStr (leftStr (genStr x))
  ones : ∀ y ∈ parseStr x, checkStr y = closesStr (leftStr (unitsStr y)) ∧ (leftStr (unitsStr y)).length ≤ 500
  ll : (leftStr (genStr x)).length ≤ 500
  okU : ∀ q ∈ genStr x, PyData.strOk q.2 = true
  okI : ∀ y ∈ parseStr x, PyData.strOk y = true
  ok : PyData.strOk x = true

theorem law_turn {prog : Program} {w : World} {A : Around} {s s₀ : Shared} {mg mb : Str → Option Value} {base : Heap} {L a : Addr} {cd : Value} {m₁ : Str → Option Value} {tx : Tok} {x : Str} {own Q} (G : Gd mg mb base) (hA : Rm 5 A) (P : PL x)
   (F : Fr base L s.heap (fun z => if z = Str.ofString "text" then some (.str x tx) else m₁ z)) (N : News base L s.heap own) (hoo : OwnOff own []) (X : Wd true s₀ s) :
   wpAny (model prog w) A (execs (forBody (fbody (fnAt 14))[1]?) (envOf (fname (fnAt 14)) (fscope (fnAt 14)) L a cd)) (TurnOut base L own (fun _ news' => news' = []) true s₀ Q) (fun _ _ => False) s := by
  have hx := P.len
  have hgl : (genStr x).length ≤ 41 := by
    have := gen_len x.cps.toList 0 false
    have e : x.cps.toList.length = x.length := by simp [Str.length]
    unfold genStr; omega
  have hus : ∀ q ∈ genStr x, 0 < q.2.length ∧ q.2.length ≤ 2 := by rw [P.gu]; exact (units_len x).2
  refine wpAny_execs_cons ?_
  iterate 5 (walk_at "go")
  have G₀ := G.keeps F.keep
  refine callF (i := 3) G₀ (by decide) (fun fb hfb => ?_)
  iterate 3 (walk_at "go")
  refine ⟨fun _ _ e => e, gen_call (base := base) G F.keep hA hfb ?_⟩
  intro s₁ ga C gs k₁ hna hnC haC hos hdr hgs hbr hst
  have F₁ := F.keeps k₁
  have N₁ := news_keeps N k₁
  have X₁ : Wd true s₀ s₁ := made_gen X hos hdr hgs hbr
  have hnb : ∀ b, s.heap.get? b = none → base.get? b = none := fun b hb => by
    cases e : base.get? b with
    | none => rfl
    | some o => rw [F.keep _ _ e] at hb; cases hb
  have hLC : L ≠ C := fun q => by
    obtain ⟨oL, _, _, hL, _⟩ := F.ns
    have hnC' : s.heap.get? C = none := hnC
    rw [← q] at hnC'; exact absurd (hL.symm.trans hnC') (by simp)
  have hoC : ∀ p ∈ own, p.1 ≠ C := fun p hp q => by
    have hnC' : s.heap.get? C = none := hnC
    have := (N p hp).1; rw [q, hnC'] at this; cases this
  show wpAny _ _ _ _ _ _
  iterate 1 (walk_at "go")
  refine list_gen hA.hh hA.room G F₁.keep (hnb C hnC) haC.1 (hst _ hA.hh) s₀ (by show s₀.gens.size ≤ s.gens.size; exact gens_le X) X₁ (by omega) haC.2 ?_
  intro s₂ Du vu nu X₂ k₂ hDu hgu hTu
  have F₂ : Fr base L s₂.heap _ := fr_moved (wr := [C]) F₁ (by simpa using hLC) (by simpa using hnb C hnC) fun b o hb e => k₂ b o (by simpa using hb) e
  have N₂ : News base L s₂.heap own := news_moved (wr := [C]) N₁ (fun p hp => by simpa using hoC p hp) fun b o hb e => k₂ b o (by simpa using hb) e
  have hLDu : L ≠ Du := fun q => by
    obtain ⟨oL, _, _, hL, _⟩ := F₁.ns
    rw [← q] at hDu; exact absurd (hL.symm.trans hDu) (by simp)
  have hLU : L ∉ Du :: refsOf vu.toList := fun h => (List.mem_cons.mp h).elim hLDu (refs_off F₂ hTu)
  generalize hRU : standing base s₂.heap (Du :: refsOf vu.toList) = RU
  have NU : News base L s₂.heap RU := hRU ▸ held_news hLU
  have N₂' : News base L s₂.heap (RU ++ own) := fun p hp => (List.mem_append.mp hp).elim (NU p) (N₂ p)
  have keepU : ∀ {h' : Heap} {m' : Str → Option Value} {R : List (Addr × Obj)}, Fr base L h' m' → News base L h' R → (∀ p ∈ RU, p ∈ R) → h'.IsList Du vu ∧ TupsAt h' vu.toList (genStr x) := by
    intro h' m' R F' N' hs
    have hk := held_kept (fp := Du :: refsOf vu.toList) F₂ F' N' (by rw [hRU]; exact hs)
    exact ⟨⟨_, hk Du (.head _) _ hgu, rfl, _, rfl⟩, hTu.moved fun T o hm e => hk T (.tail _ (mem_refsOf hm)) o e⟩
  clear hTu hgu
  refine stW F₂ N₂' X₂ ?_
  intro s₃ F₃ N₃ X₃
  iterate 4 (walk_at "go")
  obtain ⟨hU₃, hT₃⟩ := keepU F₃ N₃ fun p hp => List.mem_append.mpr (.inl hp)
  have G₃ := G.keeps F₃.keep
  refine callF (i := 9) G₃ (by decide) (fun fc hfc => ?_)
  iterate 3 (walk_at "go")
  refine ⟨fun _ _ e => e, units_spec G₃ (hA.less (by omega)) hfc (by omega) ?_⟩
  intro s₄ D₄ v₄ X₄ k₄ _ hD₄ hT₄
  show wpAny _ _ _ _ _ _
  rw [← P.gu] at hT₄
  refine ne_tups hA (hU₃.at fun o e => k₄ _ o e) hD₄.isList (hT₃.keeps k₄) hT₄ P.okU ?_
  have F₄ := F₃.keeps k₄
  have N₄ := news_keeps N₃ k₄
  have W₄ : Wd true s₀ s₄ := X₃.step X₄ rfl rfl rfl
  clear F₃ N₃ hU₃ hT₃ hT₄ hD₄
  iterate 2 (walk_at "go")
  · rename_i hf; cases hf
  iterate 3 (walk_at "go")
  have G₄ := G.keeps F₄.keep
  refine callF (i := 1) G₄ (by decide) (fun fd hfd => ?_)
  iterate 3 (walk_at "go")
  refine ⟨fun _ _ e => e, parse_spec G₄ (hA.less (by omega)) hfd (by omega) ?_⟩
  intro s₅ Di vi X₅ k₅ nDi hDi hvi
  obtain ⟨li, rfl⟩ : ∃ l : List Value, vi = l.toArray := ⟨vi.toList, rfl⟩
  change StrsAre li _ at hvi
  show wpAny _ _ _ _ _ _
  obtain ⟨ni, ei⟩ := hDi
  have F₅ := F₄.keeps k₅
  have NI : News base L s₅.heap [(Di, _)] := news_one F₄ nDi ei
  have N₅ : News base L s₅.heap ((Di, { cls := .type "list", data := .seq li.toArray ni }) :: (RU ++ own)) := fun p hp => (List.mem_cons.mp hp).elim (fun e => NI p (e ▸ .head _)) fun h => news_keeps N₄ k₅ p h
  have W₅ : Wd true s₀ s₅ := W₄.step X₅ rfl rfl rfl
  clear N₄ F₄ NI
  refine stW F₅ N₅ W₅ ?_
  intro s₆ F₆ N₆ X₆
  iterate 2 (walk_at "go")
  have G₆ := G.keeps F₆.keep
  obtain ⟨hU₆, hT₆⟩ := keepU F₆ N₆ fun p hp => .tail _ (List.mem_append.mpr (.inl hp))
  refine callF (i := 11) G₆ (by decide) (fun fe hfe => ?_)
  iterate 3 (walk_at "go")
  refine ⟨fun _ _ e => e, items_spec G₆ (hA.less (by omega)) hfe hU₆ hT₆ (by omega) hus ?_⟩
  intro s₇ Dd vd X₇ k₇ nDd hDd hvd
  obtain ⟨ldd, rfl⟩ : ∃ l : List Value, vd = l.toArray := ⟨vd.toList, rfl⟩
  change StrsAre ldd _ at hvd
  show wpAny _ _ _ _ _ _
  obtain ⟨nd, ed⟩ := hDd
  have F₇ := F₆.keeps k₇
  have ND : News base L s₇.heap [(Dd, _)] := news_one F₆ nDd ed
  have N₇ : News base L s₇.heap ((Dd, { cls := .type "list", data := .seq ldd.toArray nd }) :: (Di, { cls := .type "list", data := .seq li.toArray ni }) :: (RU ++ own)) := fun p hp => (List.mem_cons.mp hp).elim (fun e => ND p (e ▸ .head _)) fun h => news_keeps N₆ k₇ p h
  have W₇ : Wd true s₀ s₇ := X₆.step X₇ rfl rfl rfl
  clear N₆ F₆ ND hU₆ hT₆ N₅ F₅
  refine stW F₇ N₇ W₇ ?_
  intro s₈ F₈ N₈ X₈
  iterate 5 (walk_at "go")
  rw [← P.pi] at hvd
  refine ne_strs hA ⟨_, (N₈ _ (.tail _ (.head _))).1, rfl, _, rfl⟩ ⟨_, (N₈ _ (.head _)).1, rfl, _, rfl⟩ hvi hvd P.okI ?_
  iterate 2 (walk_at "go")
  · rename_i hf; cases hf
  iterate 3 (walk_at "go")
  have G₈ := G.keeps F₈.keep
  obtain ⟨hU₈, hT₈⟩ := keepU F₈ N₈ fun p hp => .tail _ (.tail _ (List.mem_append.mpr (.inl hp)))
  refine callF (i := 12) G₈ (by decide) (fun ff hff => ?_)
  iterate 3 (walk_at "go")
  refine ⟨fun _ _ e => e, left_spec G₈ (hA.less (by omega)) hff hU₈ hT₈ (by omega) hus ?_⟩
  intro s₉ t₉ X₉ k₉
  show wpAny _ _ _ _ _ _
  have F₉ := F₈.keeps k₉
  have N₉ := news_keeps N₈ k₉
  have W₉ : Wd true s₀ s₉ := X₈.step X₉ rfl rfl rfl
  clear N₈ F₈ hU₈ hT₈ N₇ F₇
  have hll := P.ll
  have hsl := P.sl
  have hcc := P.cc
  generalize leftStr (genStr x) = lf at hll hsl hcc
  refine stW F₉ N₉ W₉ ?_
  intro s₁₀ F₁₀ N₁₀ X₁₀
  clear N₉ F₉
  iterate 3 (walk_at "go")
  have G₁₀ := G.keeps F₁₀.keep
  refine callF (i := 4) G₁₀ (by decide) (fun fg hfg => ?_)
  iterate 3 (walk_at "go")
  refine ⟨fun _ _ e => e, strip_spec G₁₀ (hA.less (by omega)) hfg (by omega) ?_⟩
  intro s₁₁ t₁₁ X₁₁ k₁₁
  show wpAny _ _ _ _ _ _
  have F₁₁ := F₁₀.keeps k₁₁
  have N₁₁ := news_keeps N₁₀ k₁₁
  have W₁₁ : Wd true s₀ s₁₁ := X₁₀.trans X₁₁
  clear N₁₀ F₁₀
  iterate 4 (walk_at "go")
  · rename_i hf
    rw [hsl] at hf; simp at hf
  iterate 3 (walk_at "go")
  have G₁₁ := G.keeps F₁₁.keep
  refine callF (i := 5) G₁₁ (by decide) (fun fh hfh => ?_)
  iterate 3 (walk_at "go")
  refine ⟨fun _ _ e => e, check_spec G₁₁ (hA.less (by omega)) hfh (by omega) ?_⟩
  intro s₁₂ X₁₂ k₁₂
  show wpAny _ _ _ _ _ _
  have F₁₂ := F₁₁.keeps k₁₂
  have N₁₂ := news_keeps N₁₁ k₁₂
  have W₁₂ : Wd true s₀ s₁₂ := W₁₁.trans X₁₂
  clear N₁₁ F₁₁
  refine stW F₁₂ N₁₂ W₁₂ ?_
  intro s₁₃ F₁₃ N₁₃ X₁₃
  clear N₁₂ F₁₂
  iterate 2 (walk_at "go")
  refine isTrue_or (isTrue_not (isTrue_plain ?_))
  iterate 8 (walk_at "go")
  refine call_isinstance_yes (PyProof.Rows.typeIs_bool' _ _) meta_bool sub_bool_bool ?_
  iterate 1 (walk_at "go")
  rw [if_neg (by decide)]
  refine isTrue_or ?_
  iterate 2 (walk_at "go")
  have G₁₃ := G.keeps F₁₃.keep
  refine callF (i := 13) G₁₃ (by decide) (fun fi hfi => ?_)
  iterate 3 (walk_at "go")
  refine ⟨fun _ _ e => e, closes_spec G₁₃ (hA.less (by omega)) hfi hll ?_⟩
  intro s₁₄ X₁₄ k₁₄
  show wpAny _ _ _ _ _ _
  have F₁₄ := F₁₃.keeps k₁₄
  have N₁₄ := news_keeps N₁₃ k₁₄
  have W₁₄ : Wd true s₀ s₁₄ := X₁₃.step X₁₄ rfl rfl rfl
  clear N₁₃ F₁₃
  refine ne_bool ?_
  iterate 1 (walk_at "go")
  rw [hcc, bne_self_eq_false, if_neg (by decide)]
  refine isTrue_or_nil ?_
  rw [if_neg (by decide)]
  obtain ⟨hpf1, hpf2⟩ := parse_fine x
  have hli : li.length ≤ 41 := by rw [StrsAre.length hvi]; omega
  have hld : ldd.length ≤ 41 := by rw [StrsAre.length hvd]; omega
  iterate 9 (walk_at "go")
  refine newListW F₁₄ N₁₄ (Wd.like W₁₄ rfl rfl rfl) ?_ (by size_fits)
  intro s₁₅ Dt F₁₅ N₁₅ X₁₅ lt₁₅ _
  refine add_lists F₁₅ N₁₅ (N₁₅.isList (.tail _ (.tail _ (.head _)))) (N₁₅.isList (.head _)) (fun h₁₆ F₁₆ N₁₆ => ?_) (by show _ ≤ 2 ^ 24; simp; omega)
  generalize s₁₅.heap.objs.size = Da at N₁₆ ⊢
  refine stW F₁₆ N₁₆ X₁₅.upd ?_
  intro s₁₇ F₁₇ N₁₇ X₁₇
  clear N₁₆ F₁₆ N₁₅ F₁₅ N₁₄ F₁₄ h₁₆
  iterate 2 (walk_at "go")
  have G₁₇ := G.keeps F₁₇.keep
  refine callF (i := 6) G₁₇ (by decide) (fun fj hfj => ?_)
  iterate 3 (walk_at "go")
  have hask : StrsAre (li ++ [Value.str x tx]) (parseStr x ++ [x]) := hvi.append' (.cons _ _ .nil)
  refine ⟨fun _ _ e => e, pre_spec G₁₇ (hA.less (by omega)) hfj (N₁₇.isList (.head _)) hask (by simp; omega) (fun y hy => ?_) ?_⟩
  · rcases List.mem_append.mp hy with hy | hy
    · have := (hpf1 y hy).2; omega
    · rw [List.mem_singleton.mp hy]; omega
  intro s₁₈ Dk lk nk X₁₈ k₁₈ nDk ek hvk
  show wpAny _ _ _ _ _ _
  have F₁₈ := F₁₇.keeps k₁₈
  have NK : News base L s₁₈.heap [(Dk, _)] := news_one F₁₇ nDk ek
  have hkn : ∀ p ∈ ((Da, { cls := .type "list", data := .seq (li ++ [Value.str x tx]).toArray }) :: (Dt, { cls := .type "list", data := .seq #[Value.str x tx] }) :: (Dd, { cls := .type "list", data := .seq ldd.toArray nd }) :: (Di, { cls := .type "list", data := .seq li.toArray ni }) :: (RU ++ own) : List (Addr × Obj)), p.1 ≠ Dk := fun p hp q => by
    have := (N₁₇ p hp).1; rw [q, nDk] at this; cases this
  have N₁₈ : News base L s₁₈.heap ((Dk, { cls := .type "list", data := .seq lk.toArray nk }) :: _) := fun p hp => (List.mem_cons.mp hp).elim (fun e => NK p (e ▸ .head _)) fun h => news_keeps N₁₇ k₁₈ p h
  have W₁₈ : Wd true s₀ s₁₈ := X₁₇.trans X₁₈
  clear N₁₇ F₁₇ NK
  refine stW F₁₈ N₁₈ W₁₈ ?_
  intro s₁₉ F₁₉ N₁₉ X₁₉
  clear N₁₈ F₁₈
  iterate 1 (walk_at "go")
  refine fit_comp G (hA.less (by omega)) F₁₉ rfl (N₁₉.isList (.tail _ (.tail _ (.tail _ (.head _))))) hvd (fun y hy => ⟨by have := (hpf1 y hy).2; omega, (P.ones y hy).2⟩) (by omega) ?_
  intro s₂₀ Df vf X₂₀ F₂₀ k₂₀ nDf hDf hvf
  obtain ⟨lff, rfl⟩ : ∃ l : List Value, vf = l.toArray := ⟨vf.toList, rfl⟩
  change StrsAre lff _ at hvf
  obtain ⟨nf, ef⟩ := hDf
  have NF : News base L s₂₀.heap [(Df, _)] := news_one F₁₉ nDf ef
  have N₂₀ : News base L s₂₀.heap ((Df, { cls := .type "list", data := .seq lff.toArray nf }) :: _) := fun p hp => (List.mem_cons.mp hp).elim (fun e => NF p (e ▸ .head _)) fun h => ⟨k₂₀ _ _ (N₁₉ p h).2.1 (N₁₉ p h).1, (N₁₉ p h).2⟩
  have W₂₀ : Wd true s₀ s₂₀ := X₁₉.trans X₂₀.up
  clear N₁₉ F₁₉ NF
  show wpAny _ _ _ _ _ _
  iterate 8 (walk_at "go")
  refine wpAny_mono (?_ : wpAny (model prog w) A _ (fun v s' => ∃ t' k', v = .str (preOf x) t' ∧ s' = { s₂₀ with toks := k' }) _ s₂₀) (fun v s' h => ?_) (fun _ _ e => e)
  · iterate 4 (walk_at "go")
    split
    · rename_i hc
      iterate 1 (walk_at "go")
      exact ⟨_, _, by unfold preOf; rw [if_pos hc], rfl⟩
    · rename_i hc
      iterate 1 (walk_at "go")
      exact ⟨_, _, by unfold preOf; rw [if_neg hc]; rfl, rfl⟩
  obtain ⟨t₂₁, k₂₁, rfl, rfl⟩ := h
  iterate 1 (walk_at "go")
  have hlf : lff.length ≤ 41 := by rw [StrsAre.length hvf, List.length_map]; omega
  have hlk : lk.length ≤ 42 := by rw [StrsAre.length hvk, List.length_map, List.length_append]; simp; omega
  refine newListW (s := { s₂₀ with toks := k₂₁ }) F₂₀ N₂₀ (Wd.like W₂₀ rfl rfl rfl) ?_ (by size_fits)
  intro s₂₂ Dv F₂₂ N₂₂ X₂₂ lt₂₂ _
  refine add_lists F₂₂ N₂₂ (N₂₂.isList (.tail _ (.head _))) (N₂₂.isList (.head _)) (fun h₂₃ F₂₃ N₂₃ => ?_) (by show _ ≤ 2 ^ 24; simp; omega)
  have ltW : ∀ p ∈ ((Dv, ({ cls := .type "list", data := .seq [Value.str (preOf x) t₂₁].toArray } : Obj)) :: (Df, { cls := .type "list", data := .seq lff.toArray nf }) :: _ : List (Addr × Obj)), p.1 < s₂₂.heap.objs.size := fun p hp => Heap.lt_size (N₂₂ p hp).1
  have hlv := lt₂₂
  generalize s₂₂.heap.objs.size = Dw at N₂₃ ltW ⊢
  have hofk : (parseStr x ++ [x]).map preOf = (parseStr x).map fitOf ++ [preOf x] := by
    rw [List.map_append]
    refine congrArg (· ++ _) (List.map_congr_left fun y hy => ?_)
    unfold preOf fitOf
    rw [(P.ones y hy).1]
  have hokp : ∀ y, PyData.strOk y = true → PyData.strOk (preOf y) = true := fun y hy => by
    unfold preOf
    split
    · exact hy
    · decide +kernel
  rw [hofk] at hvk
  refine ne_strs hA (N₂₃.isList (.tail _ (.tail _ (.tail _ (.head _))))) (N₂₃.isList (.head _)) hvk (hvf.append' (.cons _ _ .nil)) (fun y hy => ?_) ?_
  · rw [← hofk] at hy
    obtain ⟨z, hz, rfl⟩ := List.mem_map.mp hy
    rcases List.mem_append.mp hz with hz | hz
    · exact hokp z (P.okI z hz)
    · rw [List.mem_singleton.mp hz]; exact hokp x P.ok
  iterate 2 (walk_at "go")
  · rename_i hf; cases hf
  iterate 5 (walk_at "go")
  have N₂₄ : News base L h₂₃ ((Dk, { cls := .type "list", data := .seq lk.toArray nk }) :: (Da, { cls := .type "list", data := .seq (li ++ [Value.str x tx]).toArray }) :: (Dd, { cls := .type "list", data := .seq ldd.toArray nd }) :: own) := news_sub N₂₃ fun p hp => by
    rcases List.mem_cons.mp hp with rfl | hp
    · exact .tail _ (.tail _ (.tail _ (.head _)))
    · rcases List.mem_cons.mp hp with rfl | hp
      · exact .tail _ (.tail _ (.tail _ (.tail _ (.head _))))
      · rcases List.mem_cons.mp hp with rfl | hp
        · exact .tail _ (.tail _ (.tail _ (.tail _ (.tail _ (.tail _ (.head _))))))
        · exact .tail _ (.tail _ (.tail _ (.tail _ (.tail _ (.tail _ (.tail _ (.tail _ (List.mem_append.mpr (.inr hp)))))))))
  have hap : ∀ p ∈ ((Da, { cls := .type "list", data := .seq (li ++ [Value.str x tx]).toArray }) :: (Dd, { cls := .type "list", data := .seq ldd.toArray nd }) :: own : List (Addr × Obj)), p.1 ≠ Dk := fun p hp => hkn p (by
    rcases List.mem_cons.mp hp with rfl | hp
    · exact .head _
    · rcases List.mem_cons.mp hp with rfl | hp
      · exact .tail _ (.tail _ (.head _))
      · exact .tail _ (.tail _ (.tail _ (.tail _ (List.mem_append.mpr (.inr hp))))))
  refine getMethod_append_N N₂₄ (List.Mem.head _) ?_
  iterate 4 (walk_at "go")
  refine appW F₂₃ N₂₄ hap X₂₂.upd ?_ (by size_fits)
  intro s₂₅ F₂₅ N₂₅ X₂₅
  clear N₂₄ N₂₃ F₂₃ N₂₂ F₂₂ N₂₀ F₂₀ hap h₂₃ ltW hlv lt₂₂
  show wpAny _ _ _ _ _ _
  iterate 10 (walk_at "go")
  refine newListW F₂₅ N₂₅ (Wd.like X₂₅ rfl rfl rfl) ?_ (by size_fits)
  intro s₂₆ Dy F₂₆ N₂₆ X₂₆ _ _
  refine add_lists F₂₆ N₂₆ (N₂₆.isList (.tail _ (.tail _ (.tail _ (.head _))))) (N₂₆.isList (.head _)) (fun h₂₇ F₂₇ N₂₇ => ?_) (by show _ ≤ 2 ^ 24; simp; omega)
  generalize s₂₆.heap.objs.size = Dz at N₂₇ ⊢
  refine ne_strs hA (N₂₇.isList (.tail _ (.tail _ (.tail _ (.head _))))) (N₂₇.isList (.head _)) hask (hvd.append' (.cons _ _ .nil)) (fun y hy => ?_) ?_
  · rcases List.mem_append.mp hy with hy | hy
    · exact P.okI y hy
    · rw [List.mem_singleton.mp hy]; exact P.ok
  iterate 2 (walk_at "go")
  · rename_i hf; cases hf
  iterate 2 (walk_at "go")
  exact turn_next (news' := []) F₂₇ (news_sub N₂₇ fun p hp => .tail _ (.tail _ (.tail _ (.tail _ (.tail _ hp))))) hoo X₂₆.upd rfl

/-! ## law, whole -/
theorem strOk_app (a b : Str) : PyData.strOk (a ++ b) = (PyData.strOk a && PyData.strOk b) := by
  show (a.cps ++ b.cps).all _ = _
  rw [Array.all_append]; rfl
theorem drawn_ok : ∀ cs : List Str, (∀ y ∈ cs, ∃ c, y = ⟨#[c]⟩ ∧ c < 1114112) → PyData.strOk (Txt.join (Str.ofString "") cs) = true ∧ (Txt.join (Str.ofString "") cs).length = cs.length := by
  intro cs h
  unfold Txt.join
  rw [StrLaws.glued_eq_join]
  show PyData.strOk (Str.join ⟨#[]⟩ cs) = true ∧ (Str.join ⟨#[]⟩ cs).length = _
  induction cs with
  | nil => exact ⟨by decide +kernel, rfl⟩
  | cons y r ih =>
    obtain ⟨h1, h2⟩ := ih fun z hz => h z (.tail _ hz)
    obtain ⟨c, rfl, hc⟩ := h y (.head _)
    rw [join_nil_cons, strOk_app, h1, Str.length_append, h2, List.length_cons]
    refine ⟨?_, by show 1 + _ = _; omega⟩
    show ((#[c] : Array Nat).all fun x => decide (x < 1114112)) && true = true
    simp [hc]
theorem signs_paired : ∀ {vs ys : List Value}, Paired (fun _ y => ∃ c t, y = Value.str ⟨#[c]⟩ t ∧ c < 1114112) vs ys → ∃ cs : List Str, StrsAre ys cs ∧ cs.length = vs.length ∧ ∀ y ∈ cs, ∃ c, y = ⟨#[c]⟩ ∧ c < 1114112
  | _, _, .nil => ⟨[], .nil, rfl, fun _ h => nomatch h⟩
  | _, _, .cons ha hb => by
    obtain ⟨c, t, rfl, hc⟩ := ha
    obtain ⟨cs, h1, h2, h3⟩ := signs_paired hb
    refine ⟨_ :: cs, .cons _ _ h1, by simp [h2], fun y hy => ?_⟩
    rcases List.mem_cons.mp hy with rfl | hy
    · exact ⟨c, rfl, hc⟩
    · exact h3 y hy
theorem law_spec {prog : Program} {w : World} {A : Around} {s : Shared} {mg mb : Str → Option Value} {fa D : Addr} {vs : List Value} {ns : List Int} {R : Result → Shared → Prop} (G : Gd mg mb s.heap) (hA : Rm 6 A) (hfa : mg (Str.ofString "law") = some (.ref fa))
    (hD : s.heap.IsList D vs.toArray) (hI : IntsAre vs ns) (hn : ns.length ≤ 63) (hPL : ∀ x : Str, x.length ≤ 20 → PyData.strOk x = true → PL x)
    (hR : ∀ s', Wd true s s' → (∀ b o, s.heap.get? b = some o → s'.heap.get? b = some o) → R (.ok (.ret (.bool true))) s') :
    codeAny (model prog w) A (.call (.ref fa) ⟨[.ref D], []⟩) R s := by
  refine enter (i := 14) (binds := [(Str.ofString "script", .ref D)]) G (by decide) hA hfa (fun _ _ _ => rfl) (by rfl) (fun s₁ cd F N X => ?_)
  have hA' := hA.deeper (envOf (fname (fnAt 14)) (fscope (fnAt 14)) s.heap.objs.size fa cd)
  refine wpAny_execs_cons ?_
  iterate 3 (walk_at "go")
  refine GM.join ?_
  iterate 2 (walk_at "go")
  refine comp_list (fun _ => true) (fun v y => ∃ c t, y = .str ⟨#[c]⟩ t ∧ c < 1114112) hA'.hh (by decide +kernel) (by decide +kernel) rfl (by decide +kernel) rfl ?_
  iterate 2 (walk_at "go")
  refine sliceW (part_none (part_some ?_))
  iterate 1 (walk_at "go")
  refine part_none ?_
  intro s₂ sl X₂ k₂ hsl
  have F₂ := F.keeps k₂
  have hvl : vs.length = ns.length := by have := hI.sizeZ; simp at this; omega
  refine sliceTail (lo := none) (hi := some ((8 : Nat) : Int)) (st := none) ((hD.at fun o e => F.keep _ o e).at fun o e => k₂ _ o e) hsl .none (.int _ _) .none (by simp) ?_ (by simp; show _ ≤ 2 ^ 24; omega) rfl
  intro s₃ D₃ X₃ k₃ _ hD₃
  rw [slicePick_upto'] at hD₃
  have F₃ := F₂.keeps k₃
  refine ⟨D₃, _, rfl, hD₃.isList, by simp; show _ ≤ 2 ^ 24; omega, ?_, ?_, ?_⟩
  · intro C v s₄ m₄ E' _ _ _ _
    exact wpAny_tests_nil ⟨rfl, s₄.heap, s₄.toks, rfl, fun _ _ e => e⟩
  · intro C v s₄ m₄ E' hm' _ hn₄ hv₄ k₄
    have hm'' : v ∈ vs := by
      have : v ∈ vs.take 8 := by simpa using hm'
      exact List.mem_of_mem_take this
    obtain ⟨n, t, rfl⟩ := hI.all v hm''
    have G₄ : Gd mg mb s₄.heap := G.keeps fun b o e => k₄ _ _ (F₃.keep _ _ e)
    refine callF (i := 8) G₄ (by decide) (fun f1 h1 => ?_)
    refine args_cons ?_
    refine ldC hn₄ hv₄ ?_
    refine args_nil ?_
    refine ⟨fun _ _ e => e, sign_spec G₄ (hA'.less (by omega)) h1 ?_⟩
    intro s₅ c t₅ X₅ k₅ hc
    exact ⟨⟨c, t₅, rfl, hc⟩, X₅.keeps k₅⟩
  intro s₄ D₄ ys X₄ k₄ _ hD₄ hp
  rw [List.filter_eq_self.mpr (fun _ _ => rfl)] at hp
  obtain ⟨cs, hys, hcl, hcs⟩ := signs_paired hp
  obtain ⟨hok, hdl⟩ := drawn_ok cs hcs
  have hcl8 : cs.length ≤ 8 := by rw [hcl]; simp; omega
  have hsum : (cs.map (·.length)).sum ≤ 8 := by rw [← join_nil_len, hdl]; exact hcl8
  iterate 1 (walk_at "go")
  refine join_list hD₄.isList hys ?_ (fun t' k' => ?_)
  · show _ + _ * 0 ≤ _; omega
  have F₄ := F₃.keeps k₄
  have W₄ : Wd false s s₄ := ((X.step X₂ rfl rfl rfl).trans X₃).trans X₄
  change wpAny _ _ (storeName _ _ (Value.str (Txt.join (Str.ofString "") cs) t')) _ _ _
  rw [← hdl] at hcl8
  generalize Txt.join (Str.ofString "") cs = dr at hcl8 hok
  have N₄ : News s.heap s.heap.objs.size s₄.heap [] := News.nil
  refine stW F₄ N₄ (Wd.like W₄ rfl rfl rfl) ?_
  intro s₅ F₅ N₅ X₅
  iterate 1 (walk_at "go")
  refine for_list (base := s.heap) hA'.hh (fun i m news => news = []) true s rfl rfl ?_
  have e4 : (Str.ofString "(\\\",").length = 4 := by decide +kernel
  have e6 : (Str.ofString "\\\"),\"\\").length = 6 := by decide +kernel
  iterate 7 (walk_at "go")
  refine SB.add (hsz := by rw [e4]; show _ ≤ 2 ^ 24; omega) ?_
  intro t₁ k₁
  iterate 4 (walk_at "go")
  refine SB.add (hsz := by rw [e6]; show _ ≤ 2 ^ 24; omega) ?_
  intro t₂ k₂'
  iterate 1 (walk_at "go")
  have X₅' : Wd true s s₅ := X₅.up
  refine newListW F₅ N₅ (Wd.like X₅' rfl rfl rfl) ?_ (by simp; show _ ≤ 2 ^ 24; omega)
  intro s₆ D₆ F₆ N₆ X₆ _ _
  have hDL : D₆ ≠ (envOf (fname (fnAt 14)) (fscope (fnAt 14)) s.heap.objs.size fa cd).locals := (N₆ _ (.head _)).2.1
  have hD₆ := N₆.isList (.head _)
  have NN : News s.heap s.heap.objs.size s₆.heap [] := News.nil
  refine ⟨D₆, _, _, [], rfl, hD₆, hDL, (fun p hp => nomatch hp), F₆, NN, X₆, rfl, ?_, ?_⟩
  · rintro i v m₁ news₁ s₇ own hv rfl hoo X₇ F₇ N₇
    have hx : ∃ x t, v = .str x t ∧ x.length ≤ 20 ∧ PyData.strOk x = true := by
      match i, hv with
      | 0, hv => cases hv; exact ⟨_, _, rfl, by omega, hok⟩
      | 1, hv => cases hv; exact ⟨_, _, rfl, by rw [Str.length_append, e4]; omega, by rw [strOk_app, hok]; decide +kernel⟩
      | 2, hv => cases hv; exact ⟨_, _, rfl, by rw [Str.length_append, e6]; omega, by rw [strOk_app, hok]; decide +kernel⟩
      | n + 3, hv => simp at hv
    obtain ⟨x, tx, rfl, hxl, hxo⟩ := hx
    exact law_turn G (hA'.less (by omega)) (hPL x hxl hxo) F₇ N₇ hoo X₇
  · rintro m₁ news₁ s₇ rfl X₇ F₇ N₇
    iterate 3 (walk_at "go")
    exact hR _ X₇ F₇.keep

/-! ## plain: the generator's units are _law_units' -/
theorem st_bs : Str.ofString "\\" = ⟨#[92]⟩ := by decide +kernel
theorem st_qm : Str.ofString "\"" = ⟨#[34]⟩ := by decide +kernel
theorem st_cm : Str.ofString "," = ⟨#[44]⟩ := by decide +kernel
theorem st_bc : Str.ofString "\\," = ⟨#[92, 44]⟩ := by decide +kernel
theorem st_bq : Str.ofString "\\\"" = ⟨#[92, 34]⟩ := by decide +kernel
theorem st_nil : Str.ofString "" = ⟨#[]⟩ := by decide +kernel
theorem st_op : Str.ofString "(" = ⟨#[40]⟩ := by decide +kernel
theorem st_cl : Str.ofString ")" = ⟨#[41]⟩ := by decide +kernel
theorem st_pair : Str.ofString "()" = ⟨#[40, 41]⟩ := by decide +kernel
theorem two_of (c : Nat) : (⟨#[92]⟩ : Str) ++ (⟨#[c]⟩ : Str) = ⟨#[92, c]⟩ := rfl

theorem gen_units_from (x : Str) : ∀ (l : List Nat) (i : Nat) (esc : Bool), i + l.length = x.cps.size → x.cps.toList.drop i = l → ((ust x i).run % 2 = 1 ↔ esc = true) →
    unitsStr x = (ust x i).us ++ genFrom l i esc
  | [], i, esc, hl, _, he => by
    have hi : i = x.cps.size := by simpa using hl
    unfold unitsStr genFrom
    rw [← hi]
    by_cases h : esc = true
    · rw [if_pos h, if_pos (he.mpr h)]
    · rw [if_neg h, if_neg fun q => h (he.mp q), List.append_nil]
  | c :: r, i, esc, hl, hd, he => by
    have hc : x.cps[i]? = some c := by
      have : (x.cps.toList.drop i)[0]? = some c := by rw [hd]; rfl
      rw [List.getElem?_drop] at this
      simpa using this
    have hd' : x.cps.toList.drop (i + 1) = r := by
      rw [← List.drop_drop, hd]; rfl
    have hl' : i + 1 + r.length = x.cps.size := by simp only [List.length_cons] at hl; omega
    have hu := ust_succ hc
    cases esc with
    | true =>
      have hr : (ust x i).run % 2 = 1 := he.mpr rfl
      rw [gen_units_from x r (i + 1) false hl' hd' (by
        rw [hu]
        show (if c = 92 then (ust x i).run + 1 else 0) % 2 = 1 ↔ _
        split <;> simp <;> omega)]
      rw [hu]
      show (if (ust x i).run % 2 = 1 then _ else _) ++ _ = (ust x i).us ++ (_ :: genFrom r (i + 1) false)
      rw [if_pos hr, List.append_assoc]; rfl
    | false =>
      have hr : ¬ (ust x i).run % 2 = 1 := fun q => by have := he.mp q; cases this
      show _ = (ust x i).us ++ (if c = 92 then genFrom r (i + 1) true else (i, (⟨#[c]⟩ : Str)) :: genFrom r (i + 1) false)
      by_cases h : c = 92
      · rw [if_pos h, gen_units_from x r (i + 1) true hl' hd' (by
          rw [hu]
          show (if c = 92 then (ust x i).run + 1 else 0) % 2 = 1 ↔ _
          rw [if_pos h]; simp; omega)]
        rw [hu]
        show (if (ust x i).run % 2 = 1 then _ else if c = 92 then _ else _) ++ _ = _
        rw [if_neg hr, if_pos h]
      · rw [if_neg h, gen_units_from x r (i + 1) false hl' hd' (by
          rw [hu]
          show (if c = 92 then (ust x i).run + 1 else 0) % 2 = 1 ↔ _
          rw [if_neg h]; simp)]
        rw [hu]
        show (if (ust x i).run % 2 = 1 then _ else if c = 92 then _ else _) ++ _ = _
        rw [if_neg hr, if_neg h, List.append_assoc]; rfl
theorem gen_units (x : Str) : genStr x = unitsStr x := by
  have := gen_units_from x x.cps.toList 0 false (by simp) rfl (by show 0 % 2 = 1 ↔ _; simp)
  rw [this]; rfl

/-! ## plain: parse_http_list over the units -/
def qi (σ : ISt × Bool) (u : Str) : ISt × Bool := (istep σ.2 σ.1 u, if u = qMark then !σ.2 else if u = bsq then true else σ.2)
theorem inq_zero (us : List (Nat × Str)) : inqStr us 0 = false := by
  unfold inqStr; simp
theorem bsq_ne : bsq ≠ qMark := by decide +kernel
theorem inq_succ {us : List (Nat × Str)} {n : Nat} {q : Nat × Str} (h : us[n]? = some q) : inqStr us (n + 1) = (if q.2 = qMark then !(inqStr us n) else if q.2 = bsq then true else inqStr us n) := by
  have e : ((us.take (n + 1)).map (·.2)).reverse = q.2 :: ((us.take n).map (·.2)).reverse := by
    rw [List.take_add_one, h]; simp
  unfold inqStr
  rw [e]
  generalize ((us.take n).map (·.2)).reverse = ah
  have par : ∀ k : Nat, ((k + 1) % 2 == 0) = !(k % 2 == 0) := fun k => by
    rcases Nat.mod_two_eq_zero_or_one k with h | h <;> simp [Nat.add_mod, h]
  have par1 : ∀ k : Nat, ((k + 1) % 2 == 1) = !(k % 2 == 1) := fun k => by
    rcases Nat.mod_two_eq_zero_or_one k with h | h <;> simp [Nat.add_mod, h]
  by_cases h1 : q.2 = qMark
  · rw [if_pos h1, h1]
    have hn : ¬ qMark = bsq := fun q => bsq_ne q.symm
    have hi : (qMark :: ah).idxOf bsq = ah.idxOf bsq + 1 := by
      rw [List.idxOf_cons, show (qMark == bsq) = false by decide +kernel]; rfl
    by_cases h2 : bsq ∈ ah
    · rw [if_pos (.tail _ h2), if_pos h2, hi, List.take_succ_cons, List.count_cons_self, par]
    · rw [if_neg (by intro q; rcases List.mem_cons.mp q with q | q; exact bsq_ne q; exact h2 q), if_neg h2, List.count_cons_self, par1]
  · rw [if_neg h1]
    by_cases h3 : q.2 = bsq
    · rw [if_pos h3, h3, if_pos (.head _)]
      have hi : (bsq :: ah).idxOf bsq = 0 := by simp
      rw [hi]; simp
    · rw [if_neg h3]
      have hi : (q.2 :: ah).idxOf bsq = ah.idxOf bsq + 1 := by
        rw [List.idxOf_cons, show (q.2 == bsq) = false by simpa using h3]; rfl
      have hc : ∀ l : List Str, (q.2 :: l).count qMark = l.count qMark := fun l => List.count_cons_of_ne h1
      by_cases h2 : bsq ∈ ah
      · rw [if_pos (.tail _ h2), if_pos h2, hi, List.take_succ_cons, hc]
      · rw [if_neg (by intro q; rcases List.mem_cons.mp q with q | q; exact h3 q.symm; exact h2 q), if_neg h2, hc]
theorem ist_fold (us : List (Nat × Str)) : ∀ n, n ≤ us.length → (ist us n, inqStr us n) = ((us.take n).map (·.2)).foldl qi (⟨[], Str.ofString ""⟩, false)
  | 0, _ => by rw [inq_zero]; rfl
  | n + 1, h => by
    have hq : us[n]? = some us[n] := by simp
    have e : (us.take (n + 1)).map (·.2) = (us.take n).map (·.2) ++ [us[n].2] := by
      rw [List.take_add_one, hq, List.map_append]; rfl
    rw [e, List.foldl_append, ← ist_fold us n (by omega), ist_succ hq, inq_succ hq]; rfl
theorem slice_last1 (c : Nat) : Txt.slice ⟨#[c]⟩ none (some (-1)) = ⟨#[]⟩ := by rfl
theorem slice_last2 (c d : Nat) : Txt.slice ⟨#[c, d]⟩ none (some (-1)) = ⟨#[c]⟩ := by
  have e : Builtin.Str.strSliceIndices none (some (-1)) 1 2 = [0] := by decide +kernel
  unfold Txt.slice
  rw [show (⟨#[c, d]⟩ : Str).length = 2 from rfl, e]; rfl
theorem app_nil (x : Str) : x ++ (⟨#[]⟩ : Str) = x := Str.append_empty x
theorem parse_units : ∀ (l : List Nat) (i : Nat) (init : List Str) (last : Str) (q : Bool),
    (l.foldl pstep ⟨init, last, false, q⟩).res = (((genFrom l i false).map (·.2)).foldl qi (⟨init, last⟩, q)).1.init ∧
    (l.foldl pstep ⟨init, last, false, q⟩).part = (((genFrom l i false).map (·.2)).foldl qi (⟨init, last⟩, q)).1.last
  | [], i, init, last, q => ⟨rfl, rfl⟩
  | [c], i, init, last, q => by
    by_cases h : c = 92
    · subst h
      cases q <;> simp [genFrom, pstep, qi, istep, st_bs, st_cm, st_bc, st_nil, app_nil]
    · by_cases h2 : c = 44
      · subst h2
        cases q <;> simp [genFrom, pstep, qi, istep, st_bs, st_cm, st_bc, st_nil, app_nil, slice_last1]
      · cases q <;> simp [genFrom, pstep, qi, istep, st_bs, st_cm, st_bc, h, h2]
  | c :: d :: r, i, init, last, q => by
    by_cases h : c = 92
    · subst h
      have e : genFrom (92 :: d :: r) i false = (i + 1, (⟨#[92, d]⟩ : Str)) :: genFrom r (i + 2) false := by
        show (i + 1, Str.ofString "\\" ++ (⟨#[d]⟩ : Str)) :: genFrom r (i + 1 + 1) false = _
        rw [st_bs]; rfl
      rw [e, List.map_cons, List.foldl_cons, List.foldl_cons, List.foldl_cons]
      have hq : ∀ τ, qi τ ⟨#[92, d]⟩ = (istep τ.2 τ.1 ⟨#[92, d]⟩, if d = 34 then true else τ.2) := fun τ => by
        unfold qi qMark bsq; rw [st_qm, st_bq]; simp
      rw [hq]
      cases q with
      | true =>
        have e1 : pstep (pstep ⟨init, last, false, true⟩ 92) d = ⟨init, last ++ ⟨#[d]⟩, false, true⟩ := by simp [pstep]
        have e2 : istep true ⟨init, last⟩ ⟨#[92, d]⟩ = ⟨init, last ++ ⟨#[d]⟩⟩ := by simp [istep, st_bs]
        rw [e1]; dsimp only; rw [e2, show (if d = 34 then true else true) = true by split <;> rfl]
        exact parse_units r (i + 2) init (last ++ ⟨#[d]⟩) true
      | false =>
        dsimp only
        have ha : last ++ (⟨#[92]⟩ : Str) ++ (⟨#[d]⟩ : Str) = last ++ (⟨#[92, d]⟩ : Str) := by rw [Str.append_assoc]; rfl
        by_cases h2 : d = 44
        · subst h2
          have e1 : pstep (pstep ⟨init, last, false, false⟩ 92) 44 = ⟨init ++ [last ++ ⟨#[92]⟩], Str.ofString "", false, false⟩ := by simp [pstep]
          have e2 : istep false ⟨init, last⟩ ⟨#[92, 44]⟩ = ⟨init ++ [last ++ ⟨#[92]⟩], Str.ofString ""⟩ := by simp [istep, st_bc, st_cm, slice_last2]
          rw [e1, e2, if_neg (by decide)]
          exact parse_units r (i + 2) _ _ false
        · have e1 : pstep (pstep ⟨init, last, false, false⟩ 92) d = ⟨init, last ++ ⟨#[92, d]⟩, false, if d = 34 then true else false⟩ := by
            rw [← ha]; simp [pstep, h2]
          have e2 : istep false ⟨init, last⟩ ⟨#[92, d]⟩ = ⟨init, last ++ ⟨#[92, d]⟩⟩ := by simp [istep, st_bc, st_cm, h2]
          rw [e1, e2]
          exact parse_units r (i + 2) _ _ _
    · have e : genFrom (c :: d :: r) i false = (i, (⟨#[c]⟩ : Str)) :: genFrom (d :: r) (i + 1) false := by
        show (if c = 92 then _ else _) = _
        rw [if_neg h]
      rw [e, List.map_cons]
      show ((d :: r).foldl pstep (pstep _ c)).res = (List.foldl qi (qi _ ⟨#[c]⟩) _).1.init ∧ ((d :: r).foldl pstep (pstep _ c)).part = (List.foldl qi (qi _ ⟨#[c]⟩) _).1.last
      have hq : ∀ τ, qi τ ⟨#[c]⟩ = (istep τ.2 τ.1 ⟨#[c]⟩, if c = 34 then !τ.2 else τ.2) := fun τ => by
        unfold qi qMark bsq; rw [st_qm, st_bq]; simp
      rw [hq]
      cases q with
      | true =>
        have e1 : pstep ⟨init, last, false, true⟩ c = ⟨init, last ++ ⟨#[c]⟩, false, if c = 34 then !true else true⟩ := by simp [pstep, h]
        have e2 : istep true ⟨init, last⟩ ⟨#[c]⟩ = ⟨init, last ++ ⟨#[c]⟩⟩ := by simp [istep, st_bs, h]
        rw [e1]; dsimp only; rw [e2]
        exact parse_units (d :: r) (i + 1) _ _ _
      | false =>
        dsimp only
        by_cases h2 : c = 44
        · subst h2
          have e1 : pstep ⟨init, last, false, false⟩ 44 = ⟨init ++ [last], Str.ofString "", false, false⟩ := by simp [pstep]
          have e2 : istep false ⟨init, last⟩ ⟨#[44]⟩ = ⟨init ++ [last], Str.ofString ""⟩ := by simp [istep, st_cm, slice_last1, app_nil]
          rw [e1, e2, if_neg (by decide)]
          exact parse_units (d :: r) (i + 1) _ _ _
        · have e1 : pstep ⟨init, last, false, false⟩ c = ⟨init, last ++ ⟨#[c]⟩, false, if c = 34 then !false else false⟩ := by simp [pstep, h2]
          have e2 : istep false ⟨init, last⟩ ⟨#[c]⟩ = ⟨init, last ++ ⟨#[c]⟩⟩ := by simp [istep, st_cm, st_bc, h2]
          rw [e1, e2]
          exact parse_units (d :: r) (i + 1) _ _ _
theorem len_zero_iff (x : Str) : ((x.length : Int) ≠ 0) ↔ x ≠ Str.ofString "" := by
  rw [st_nil]
  obtain ⟨⟨l⟩⟩ := x
  cases l <;> simp [Str.length] <;> omega
theorem parse_items (x : Str) : parseStr x = itemsStr (genStr x) := by
  have hp : pst x x.cps.size = x.cps.toList.foldl pstep ⟨[], Str.ofString "", false, false⟩ := by
    unfold pst; rw [List.take_of_length_le (by simp)]
  have hi := ist_fold (genStr x) (genStr x).length (Nat.le_refl _)
  rw [List.take_length] at hi
  obtain ⟨h1, h2⟩ := parse_units x.cps.toList 0 [] (Str.ofString "") false
  have hi' : ist (genStr x) (genStr x).length = (((genStr x).map (·.2)).foldl qi (⟨[], Str.ofString ""⟩, false)).1 := congrArg (·.1) hi
  unfold parseStr itemsStr
  rw [hp, hi', h1, h2]
  show List.map _ _ = List.map _ _
  unfold genStr
  congr 1
  simp only [len_zero_iff]

/-! ## plain: what _strip_quoted_realnames leaves -/
def cat (ps : List Str) : List Nat := (ps.map (·.cps.toList)).flatten
theorem cat_snoc (ps : List Str) (y : Str) : cat (ps ++ [y]) = cat ps ++ y.cps.toList := by
  unfold cat; simp
theorem toList_app (a b : Str) : (a ++ b).cps.toList = a.cps.toList ++ b.cps.toList := by
  show (a.cps ++ b.cps).toList = _; simp
theorem join_cat (ps : List Str) : (Txt.join (Str.ofString "") ps).cps.toList = cat ps := by
  unfold Txt.join
  rw [StrLaws.glued_eq_join]
  show (Str.join ⟨#[]⟩ ps).cps.toList = _
  induction ps with
  | nil => rfl
  | cons y r ih => rw [join_nil_cons, toList_app, ih]; rfl
theorem str_ext {a b : Str} (h : a.cps.toList = b.cps.toList) : a = b := by
  obtain ⟨⟨a⟩⟩ := a; obtain ⟨⟨b⟩⟩ := b
  simp only at h
  subst h; rfl
structure LF where
  left : List Nat
  pend : Option (List Nat)
def lf (σ : LF) (u : Str) : LF :=
  if u = Str.ofString "\"" then (match σ.pend with | none => ⟨σ.left, some [34]⟩ | some _ => ⟨σ.left, none⟩)
  else (match σ.pend with | none => ⟨σ.left ++ u.cps.toList, none⟩ | some t => ⟨σ.left, some (t ++ u.cps.toList)⟩)
def lfEnd (σ : LF) : List Nat := σ.left ++ σ.pend.getD []
theorem slice_txt (x : Str) {a b : Nat} (hab : a ≤ b) (hb : b ≤ x.length) : (Txt.slice x (some (a : Nat)) (some (b : Nat))).cps.toList = (x.cps.toList.drop a).take (b - a) := by
  have e := StrLaws.sliced_plain x hab hb
  unfold Txt.slice
  split
  · rename_i h
    have hl : (Builtin.Str.strSliceIndices (some (a : Int)) (some (b : Int)) 1 x.length).length = x.length := by simpa using h
    rw [StrLaws.strSliceIndices_plain hab hb] at hl
    simp only [List.length_map, List.length_range] at hl
    have h0 : a = 0 := by omega
    have h1 : b = x.length := by omega
    subst h0; subst h1
    rw [List.drop_zero, List.take_of_length_le]
    simp [Str.length]
  · rw [← e]
theorem slice_none (x : Str) {a : Nat} (ha : a ≤ x.length) : (Txt.slice x (some (a : Nat)) none).cps.toList = x.cps.toList.drop a := by
  have e : Builtin.Str.strSliceIndices (some (a : Int)) none 1 x.length = Builtin.Str.strSliceIndices (some (a : Int)) (some (x.length : Int)) 1 x.length := by
    unfold Builtin.Str.strSliceIndices
    have h2 : ¬ ((x.length : Int) < 0) := by omega
    have e2 : max (0 : Int) (min (x.length : Int) (x.length : Int)) = x.length := by omega
    simp [h2, e2]
  have e' : Txt.slice x (some (a : Nat)) none = Txt.slice x (some (a : Nat)) (some (x.length : Nat)) := by
    unfold Txt.slice
    rw [e]
  rw [e', slice_txt x ha (Nat.le_refl _), List.take_of_length_le]
  simp [Str.length]
theorem take_more (X : List Nat) {a i k : Nat} (h : a ≤ i) : (X.drop a).take (i - a) ++ (X.drop i).take k = (X.drop a).take (i + k - a) := by
  have e : i + k - a = (i - a) + k := by omega
  rw [e, List.take_add, List.drop_drop]
  congr 3
  omega
def SI (X : List Nat) (i : Nat) (σ : SSt) (τ : LF) : Prop :=
  σ.start ≤ i ∧ match σ.op, τ.pend with
    | none, none => cat σ.res ++ (X.drop σ.start).take (i - σ.start) = τ.left
    | some o, some t => σ.start ≤ o ∧ o < i ∧ cat σ.res ++ (X.drop σ.start).take (o - σ.start) = τ.left ∧ (X.drop o).take (i - o) = t
    | _, _ => False
theorem si_plain {x : Str} {X : List Nat} {i k p : Nat} {σ : SSt} {τ : LF} {u : Str} (hu : u ≠ Str.ofString "\"") (hk : (X.drop i).take k = u.cps.toList) (h : SI X i σ τ) : SI X (i + k) (sstep x σ (p, u)) (lf τ u) := by
  have e1 : sstep x σ (p, u) = σ := by unfold sstep; rw [if_neg hu]
  rw [e1]
  obtain ⟨start, op, res⟩ := σ
  obtain ⟨left, pend⟩ := τ
  obtain ⟨h1, h2⟩ := h
  unfold lf
  rw [if_neg hu]
  cases op with
  | none => cases pend with
    | none =>
      refine ⟨by dsimp only at h1 ⊢; omega, ?_⟩
      dsimp only at h1 h2 ⊢
      rw [← h2, List.append_assoc, ← hk, take_more X h1]
    | some t => exact h2.elim
  | some o => cases pend with
    | none => exact h2.elim
    | some t =>
      dsimp only at h1 h2
      obtain ⟨a1, a2, a3, a4⟩ := h2
      refine ⟨by dsimp only; omega, ?_⟩
      dsimp only
      refine ⟨a1, by omega, a3, ?_⟩
      rw [← a4, ← hk, take_more X (by omega)]
theorem si_mark {x : Str} {i : Nat} {r : List Nat} {σ : SSt} {τ : LF} (hd : x.cps.toList.drop i = 34 :: r) (hi : i < x.length) (h : SI x.cps.toList i σ τ) : SI x.cps.toList (i + 1) (sstep x σ (i, Str.ofString "\"")) (lf τ (Str.ofString "\"")) := by
  obtain ⟨start, op, res⟩ := σ
  obtain ⟨left, pend⟩ := τ
  obtain ⟨h1, h2⟩ := h
  unfold lf sstep
  rw [if_pos rfl, if_pos rfl]
  cases op with
  | none => cases pend with
    | none =>
      dsimp only at h1 h2
      refine ⟨by dsimp only; omega, ?_⟩
      dsimp only
      refine ⟨h1, by omega, h2, ?_⟩
      rw [hd, show i + 1 - i = 1 by omega]; rfl
    | some t => exact h2.elim
  | some o => cases pend with
    | none => exact h2.elim
    | some t =>
      dsimp only at h1 h2
      obtain ⟨a1, a2, a3, a4⟩ := h2
      refine ⟨Nat.le_refl _, ?_⟩
      dsimp only
      rw [Nat.sub_self, List.take_zero, List.append_nil]
      split
      · rw [cat_snoc, slice_txt x a1 (by omega)]; exact a3
      · rename_i hne
        have : start = o := by omega
        subst this
        rw [Nat.sub_self, List.take_zero, List.append_nil] at a3
        exact a3
theorem mark_two (c d : Nat) : (⟨#[c, d]⟩ : Str) ≠ Str.ofString "\"" := by rw [st_qm]; simp
theorem mark_one {c : Nat} (h : c ≠ 34) : (⟨#[c]⟩ : Str) ≠ Str.ofString "\"" := by rw [st_qm]; simp [h]
theorem drop_next {X : List Nat} {i c : Nat} {r : List Nat} (h : X.drop i = c :: r) : X.drop (i + 1) = r ∧ i < X.length := by
  refine ⟨by rw [← List.drop_drop, h]; rfl, ?_⟩
  rcases Nat.lt_or_ge i X.length with h' | h'
  · exact h'
  · rw [List.drop_eq_nil_of_le h'] at h; cases h
theorem si_fold (x : Str) : ∀ (l : List Nat) (i : Nat) (σ : SSt) (τ : LF), x.cps.toList.drop i = l → i ≤ x.length → SI x.cps.toList i σ τ →
    SI x.cps.toList x.length ((genFrom l i false).foldl (sstep x) σ) (((genFrom l i false).map (·.2)).foldl lf τ)
  | [], i, σ, τ, hd, hi, h => by
    have : i = x.length := by
      have h1 := List.drop_eq_nil_iff.mp hd
      have h2 : x.cps.toList.length = x.length := by simp [Str.length]
      omega
    rw [← this]; exact h
  | [c], i, σ, τ, hd, hi, h => by
    obtain ⟨h1, h2⟩ := drop_next hd
    have hl : x.cps.toList.length = x.length := by simp [Str.length]
    have h3 := List.drop_eq_nil_iff.mp h1
    have hx : x.length = i + 1 := by omega
    rw [hx]
    by_cases hc : c = 92
    · subst hc
      have e : genFrom [92] i false = [(i, (⟨#[92]⟩ : Str))] := by show [(i + 1 - 1, Str.ofString "\\")] = _; rw [st_bs]; rfl
      rw [e]
      exact si_plain (x := x) (p := i) (σ := σ) (k := 1) (mark_one (c := 92) (by decide)) (by rw [hd]; rfl) h
    · have e : genFrom [c] i false = [(i, (⟨#[c]⟩ : Str))] := by show (if c = 92 then _ else _) = _; rw [if_neg hc]; rfl
      rw [e]
      by_cases hm : c = 34
      · subst hm
        have := si_mark hd (by omega) h
        rw [st_qm] at this; exact this
      · exact si_plain (k := 1) (mark_one hm) (by rw [hd]; rfl) h
  | c :: d :: r, i, σ, τ, hd, hi, h => by
    obtain ⟨h1, h2⟩ := drop_next hd
    obtain ⟨h3, h4⟩ := drop_next h1
    have hl : x.cps.toList.length = x.length := by simp [Str.length]
    by_cases hc : c = 92
    · subst hc
      have e : genFrom (92 :: d :: r) i false = (i + 1, (⟨#[92, d]⟩ : Str)) :: genFrom r (i + 2) false := by
        show (i + 1, Str.ofString "\\" ++ (⟨#[d]⟩ : Str)) :: genFrom r (i + 1 + 1) false = _
        rw [st_bs]; rfl
      rw [e]
      exact si_fold x r (i + 2) _ _ h3 (by omega) (si_plain (k := 2) (mark_two _ _) (by rw [hd]; rfl) h)
    · have e : genFrom (c :: d :: r) i false = (i, (⟨#[c]⟩ : Str)) :: genFrom (d :: r) (i + 1) false := by
        show (if c = 92 then _ else _) = _
        rw [if_neg hc]
      rw [e]
      refine si_fold x (d :: r) (i + 1) _ _ h1 (by omega) ?_
      by_cases hm : c = 34
      · subst hm
        have := si_mark hd (by omega) h
        rw [st_qm] at this; exact this
      · exact si_plain (k := 1) (mark_one hm) (by rw [hd]; rfl) h
theorem no_mark : ∀ (l : List Nat) (i : Nat) (esc : Bool), 34 ∉ l → ∀ q ∈ genFrom l i esc, q.2 ≠ Str.ofString "\""
  | [], i, esc, _, q, hq => by
    cases esc with
    | true =>
      have : q = (i - 1, Str.ofString "\\") := by simpa [genFrom] using hq
      rw [this]; show Str.ofString "\\" ≠ _; decide +kernel
    | false => simp [genFrom] at hq
  | c :: r, i, true, h, q, hq => by
    rcases List.mem_cons.mp hq with rfl | hq
    · rw [st_bs]; exact mark_two _ _
    · exact no_mark r (i + 1) false (fun hm => h (.tail _ hm)) q hq
  | c :: r, i, false, h, q, hq => by
    have hq' : q ∈ (if c = 92 then genFrom r (i + 1) true else (i, (⟨#[c]⟩ : Str)) :: genFrom r (i + 1) false) := hq
    split at hq'
    · exact no_mark r (i + 1) true (fun hm => h (.tail _ hm)) q hq'
    · rcases List.mem_cons.mp hq' with rfl | hq'
      · exact mark_one fun e => h (by rw [e]; exact .head _)
      · exact no_mark r (i + 1) false (fun hm => h (.tail _ hm)) q hq'
theorem sst_still {x : Str} : ∀ (us : List (Nat × Str)) (σ : SSt), (∀ q ∈ us, q.2 ≠ Str.ofString "\"") → us.foldl (sstep x) σ = σ
  | [], _, _ => rfl
  | q :: r, σ, h => by
    have e : sstep x σ q = σ := by unfold sstep; rw [if_neg (h q (.head _))]
    rw [List.foldl_cons, e]; exact sst_still r σ fun z hz => h z (.tail _ hz)
theorem has_mark (x : Str) : Txt.contains x (Str.ofString "\"") = decide (34 ∈ x.cps.toList) := by
  rw [st_qm]; exact StrLaws.found_one x 34
theorem strip_cat (x : Str) : (stripStr x).cps.toList = cat (if (sst x (genStr x)).start < x.length then (sst x (genStr x)).res ++ [Txt.slice x (some ((sst x (genStr x)).start : Nat)) none] else (sst x (genStr x)).res) := by
  unfold stripStr
  rw [has_mark]
  split
  · rw [join_cat]
  · rename_i h
    have hm : 34 ∉ x.cps.toList := by simpa using h
    have e : sst x (genStr x) = ⟨0, none, []⟩ := sst_still _ _ (no_mark _ _ _ hm)
    rw [e]
    dsimp only
    split
    · rw [List.nil_append]
      show _ = [(Txt.slice x (some ((0 : Nat) : Int)) none).cps.toList].flatten
      rw [slice_none x (Nat.zero_le _)]; simp
    · rename_i h0
      have : x.cps.toList = [] := List.eq_nil_of_length_eq_zero (by simp only [Array.length_toList]; show x.length = 0; omega)
      rw [this]; rfl
theorem strip_lf (x : Str) : (stripStr x).cps.toList = lfEnd (((genStr x).map (·.2)).foldl lf ⟨[], none⟩) := by
  have h := si_fold x x.cps.toList 0 ⟨0, none, []⟩ ⟨[], none⟩ rfl (Nat.zero_le _) ⟨Nat.le_refl _, rfl⟩
  rw [strip_cat]
  change SI x.cps.toList x.length (sst x (genStr x)) (((genStr x).map (·.2)).foldl lf ⟨[], none⟩) at h
  generalize sst x (genStr x) = σ at h
  generalize ((genStr x).map (·.2)).foldl lf ⟨[], none⟩ = τ at h
  obtain ⟨start, op, res⟩ := σ
  obtain ⟨left, pend⟩ := τ
  obtain ⟨h1, h2⟩ := h
  have hl : x.cps.toList.length = x.length := by simp [Str.length]
  dsimp only at h1 h2 ⊢
  unfold lfEnd
  have hend : cat (if start < x.length then res ++ [Txt.slice x (some (start : Nat)) none] else res) = cat res ++ x.cps.toList.drop start := by
    split
    · rw [cat_snoc, slice_none x h1]
    · rw [List.drop_eq_nil_of_le (by omega), List.append_nil]
  rw [hend]
  cases op with
  | none => cases pend with
    | none =>
      dsimp only at h2 ⊢
      rw [List.take_of_length_le (by rw [List.length_drop]; omega)] at h2
      rw [h2]; simp
    | some t => exact h2.elim
  | some o => cases pend with
    | none => exact h2.elim
    | some t =>
      obtain ⟨a1, a2, a3, a4⟩ := h2
      show _ = left ++ t
      rw [← a3, ← a4, List.append_assoc, take_more x.cps.toList a1, List.take_of_length_le (by rw [List.length_drop]; omega)]

/-! ## plain: what _law_left says is left -/
theorem strip_same {y : Str} (h : ∀ c ∈ y.cps.toList, Unicode.isSpace c = false) : Txt.strip y = y := by
  have tw : ∀ l : List Nat, (∀ c ∈ l, Unicode.isSpace c = false) → l.takeWhile Unicode.isSpace = [] := fun l hl => by
    cases l with
    | nil => rfl
    | cons a r => rw [List.takeWhile_cons, hl a (.head _)]; rfl
  have h1 : PySem.stripLo Unicode.isSpace true y = 0 := by
    unfold stripLo; rw [tw _ h]; rfl
  have h2 : PySem.stripHi Unicode.isSpace true y 0 = y.length := by
    unfold stripHi
    rw [List.drop_zero, tw _ fun c hc => h c (List.mem_reverse.mp hc)]; rfl
  unfold Txt.strip Txt.stripBy stripSame
  rw [h1, h2]
  simp
theorem dark_low : ∀ k, k < 64 → Unicode.isSpace (256 + k) = false := by
  have h : ((List.range 64).all fun k => Unicode.isSpace (256 + k) == false) = true := by decide +kernel
  intro k hk
  have := List.all_eq_true.mp h k (List.mem_range.mpr hk)
  exact beq_iff_eq.mp this
theorem dark_34 : Unicode.isSpace 34 = false := by decide +kernel
theorem dark_44 : Unicode.isSpace 44 = false := by decide +kernel
theorem dark_of {n : Nat} (hn : n ≤ 64) {c : Nat} (h : c = 44 ∨ (256 ≤ c ∧ c < 256 + n)) : Unicode.isSpace c = false := by
  rcases h with rfl | ⟨h1, h2⟩
  · exact dark_44
  · have := dark_low (c - 256) (by omega)
    rw [show 256 + (c - 256) = c by omega] at this; exact this
theorem letP_eq (c : Nat) : letP c = !(c == 34 || c == 44) := by
  have e : Str.ofString "\"," = ⟨#[34, 44]⟩ := by decide +kernel
  unfold letP Txt.contains
  rw [e, StrLaws.found_one]
  by_cases h1 : c = 34
  · subst h1; rfl
  · by_cases h2 : c = 44
    · subst h2; rfl
    · simp [h1, h2]
theorem letP_44 : letP 44 = false := by rw [letP_eq]; rfl
theorem letP_34 : letP 34 = false := by rw [letP_eq]; rfl
theorem letP_hi {c : Nat} (h : 256 ≤ c) : letP c = true := by
  rw [letP_eq]
  have h1 : (c == 34) = false := by simp; omega
  have h2 : (c == 44) = false := by simp; omega
  rw [h1, h2]; rfl
theorem count_mark (y : Str) : Txt.count y (Str.ofString "\"") = cnt 34 y.cps.toList := by rw [st_qm]; exact count_is y 34
theorem mul_zero : Txt.mul (Str.ofString "\"") 0 = ⟨#[]⟩ := rfl
theorem mul_one : Txt.mul (Str.ofString "\"") 1 = Str.ofString "\"" := rfl
theorem left_step_list {us : List (Nat × Str)} {left item : Str} (h : cnt 34 item.cps.toList < 2) (h0 : 0 ≤ cnt 34 item.cps.toList) :
    (leftStep us left item).cps.toList = left.cps.toList ++ (if cnt 34 item.cps.toList = 1 then [34] else []) ++ cat ((item.cps.toList.filter letP).map (letF us)) := by
  unfold leftStep
  rw [count_mark, if_pos h, toList_app, toList_app, join_cat]
  congr 2
  by_cases h1 : cnt 34 item.cps.toList = 1
  · rw [if_pos h1, h1, mul_one, st_qm]
  · have : cnt 34 item.cps.toList = 0 := by omega
    rw [if_neg h1, this, mul_zero]
def LInv (us : List (Nat × Str)) (n : Nat) (σ : PSt) (τ : LF) : Prop :=
  σ.esc = false ∧ ((σ.res.map Txt.strip).foldl (leftStep us) (Str.ofString "")).cps.toList = τ.left ∧ match τ.pend with
    | none => σ.quo = false ∧ σ.part = Str.ofString ""
    | some t => σ.quo = true ∧ ∃ p : List Nat, σ.part.cps.toList = 34 :: p ∧ (∀ c ∈ p, c = 44 ∨ (256 ≤ c ∧ c < 256 + n)) ∧ 34 :: cat ((p.filter letP).map (letF us)) = t
theorem cnt_dark {n : Nat} {p : List Nat} (h : ∀ c ∈ p, c = 44 ∨ (256 ≤ c ∧ c < 256 + n)) : cnt 34 p = 0 := cnt_none 34 p fun hm => by
  have := h 34 hm; omega
theorem letF_at {us : List (Nat × Str)} {n : Nat} {q : Nat × Str} (hq : us[n]? = some q) : letF us (256 + n) = q.2 := by
  unfold letF
  rw [show 256 + n - 256 = n by omega, List.getD_eq_getElem?_getD, hq]; rfl
theorem linv_step {us : List (Nat × Str)} {n : Nat} {q : Nat × Str} {σ : PSt} {τ : LF} (hn : n < 64) (hq : us[n]? = some q) (h : LInv us n σ τ) :
    LInv us (n + 1) (pstep (pstep σ (if q.2 = Str.ofString "\"" then 34 else 256 + n)) 44) (lf τ q.2) := by
  obtain ⟨res, part, esc, quo⟩ := σ
  obtain ⟨left, pend⟩ := τ
  obtain ⟨h1, h2, h3⟩ := h
  dsimp only at h1 h2 h3
  subst h1
  cases pend with
  | none =>
    obtain ⟨rfl, rfl⟩ := h3
    by_cases hm : q.2 = Str.ofString "\""
    · rw [if_pos hm]
      have e : pstep (pstep ⟨res, Str.ofString "", false, false⟩ 34) 44 = ⟨res, Str.ofString "" ++ ⟨#[34]⟩ ++ ⟨#[44]⟩, false, true⟩ := by simp [pstep]
      have e2 : lf ⟨left, none⟩ q.2 = ⟨left, some [34]⟩ := by unfold lf; rw [if_pos hm]
      rw [e, e2]
      refine ⟨rfl, h2, rfl, [44], ?_, ?_, ?_⟩
      · rw [st_nil]; rfl
      · intro c hc; left; exact List.mem_singleton.mp hc
      · rw [List.filter_cons, letP_44]; rfl
    · rw [if_neg hm]
      have e : pstep (pstep ⟨res, Str.ofString "", false, false⟩ (256 + n)) 44 = ⟨res ++ [Str.ofString "" ++ ⟨#[256 + n]⟩], Str.ofString "", false, false⟩ := by
        have a1 : ¬ 256 + n = 34 := by omega
        have a2 : ¬ 256 + n = 44 := by omega
        simp [pstep, a1, a2]
      have e2 : lf ⟨left, none⟩ q.2 = ⟨left ++ q.2.cps.toList, none⟩ := by unfold lf; rw [if_neg hm]
      rw [e, e2]
      have hit : (Str.ofString "" ++ (⟨#[256 + n]⟩ : Str)).cps.toList = [256 + n] := by rw [st_nil]; rfl
      refine ⟨rfl, ?_, rfl, rfl⟩
      dsimp only
      have hc0 : cnt 34 [256 + n] = 0 := by rw [cnt_cons, cnt_nil, if_neg (by omega)]; rfl
      rw [List.map_append, List.foldl_append]
      show (leftStep us _ (Txt.strip _)).cps.toList = _
      rw [strip_same (fun c hc => by rw [hit] at hc; rw [List.mem_singleton.mp hc]; exact dark_low n hn)]
      rw [left_step_list (by rw [hit, hc0]; decide) (by rw [hit, hc0]; decide), hit, hc0, h2]
      rw [if_neg (by decide), List.append_nil, List.filter_cons, letP_hi (by omega)]
      rw [if_pos rfl, List.filter_nil, List.map_cons, List.map_nil, letF_at hq]
      show left ++ [_].flatten = _
      simp
  | some t =>
    obtain ⟨rfl, p, hp, hall, ht⟩ := h3
    by_cases hm : q.2 = Str.ofString "\""
    · rw [if_pos hm]
      have e : pstep (pstep ⟨res, part, false, true⟩ 34) 44 = ⟨res ++ [part ++ ⟨#[34]⟩], Str.ofString "", false, false⟩ := by simp [pstep]
      have e2 : lf ⟨left, some t⟩ q.2 = ⟨left, none⟩ := by unfold lf; rw [if_pos hm]
      rw [e, e2]
      refine ⟨rfl, ?_, rfl, rfl⟩
      dsimp only
      have hit : (part ++ (⟨#[34]⟩ : Str)).cps.toList = 34 :: (p ++ [34]) := by rw [toList_app, hp]; rfl
      have hc2 : cnt 34 (34 :: (p ++ [34])) = 2 := by rw [cnt_cons, cnt_append, cnt_dark hall, cnt_cons, cnt_nil]; rfl
      rw [List.map_append, List.foldl_append]
      show (leftStep us _ (Txt.strip _)).cps.toList = _
      rw [strip_same (fun c hc => by
        rw [hit] at hc
        rcases List.mem_cons.mp hc with rfl | hc
        · exact dark_34
        · rcases List.mem_append.mp hc with hc | hc
          · exact dark_of (by omega) (hall c hc)
          · rw [List.mem_singleton.mp hc]; exact dark_34)]
      unfold leftStep
      rw [count_mark, hit, hc2, if_neg (by decide)]
      exact h2
    · rw [if_neg hm]
      have e : pstep (pstep ⟨res, part, false, true⟩ (256 + n)) 44 = ⟨res, part ++ ⟨#[256 + n]⟩ ++ ⟨#[44]⟩, false, true⟩ := by
        have a1 : ¬ 256 + n = 34 := by omega
        have a2 : ¬ 256 + n = 92 := by omega
        simp [pstep, a1, a2]
      have e2 : lf ⟨left, some t⟩ q.2 = ⟨left, some (t ++ q.2.cps.toList)⟩ := by unfold lf; rw [if_neg hm]
      rw [e, e2]
      refine ⟨rfl, h2, rfl, p ++ [256 + n, 44], ?_, ?_, ?_⟩
      · dsimp only
        rw [toList_app, toList_app, hp]; simp
      · intro c hc
        rcases List.mem_append.mp hc with hc | hc
        · have := hall c hc; omega
        · simp only [List.mem_cons, List.not_mem_nil, or_false] at hc
          omega
      · rw [List.filter_append, List.filter_cons, letP_hi (by omega), if_pos rfl, List.filter_cons, letP_44, List.map_append, ← ht]
        show 34 :: cat (_ ++ [letF us (256 + n)]) = _
        rw [cat_snoc, letF_at hq]; rfl
theorem lineN_list {us : List (Nat × Str)} {i : Nat} {q : Nat × Str} (h : us[i]? = some q) : (lineN us (i + 1)).cps.toList = (lineN us i).cps.toList ++ [if q.2 = Str.ofString "\"" then 34 else 256 + i, 44] := by
  rw [lineN_succ h, st_cm, toList_app, toList_app, List.append_assoc]
  congr 1
  split <;> simp [st_qm]
theorem linv_all (us : List (Nat × Str)) (hl : us.length ≤ 64) : ∀ n, n ≤ us.length → LInv us n ((lineN us n).cps.toList.foldl pstep ⟨[], Str.ofString "", false, false⟩) (((us.take n).map (·.2)).foldl lf ⟨[], none⟩)
  | 0, _ => by
    have e : (lineN us 0).cps.toList = [] := by show (Str.ofString "").cps.toList = []; rw [st_nil]
    rw [e]
    refine ⟨rfl, ?_, rfl, rfl⟩
    show (Str.ofString "").cps.toList = []
    rw [st_nil]
  | n + 1, h => by
    have hq : us[n]? = some us[n] := by simp
    have ih := linv_all us hl n (by omega)
    have e : (us.take (n + 1)).map (·.2) = (us.take n).map (·.2) ++ [us[n].2] := by
      rw [List.take_add_one, hq, List.map_append]; rfl
    rw [lineN_list hq, e, List.foldl_append, List.foldl_append]
    exact linv_step (by omega) hq ih
theorem left_lf (us : List (Nat × Str)) (hl : us.length ≤ 64) : (leftStr us).cps.toList = lfEnd ((us.map (·.2)).foldl lf ⟨[], none⟩) := by
  have h := linv_all us hl us.length (Nat.le_refl _)
  rw [List.take_length] at h
  generalize (us.map (·.2)).foldl lf ⟨[], none⟩ = τ at h
  have hp : pst (lineN us us.length) (lineN us us.length).cps.size = (lineN us us.length).cps.toList.foldl pstep ⟨[], Str.ofString "", false, false⟩ := by
    unfold pst; rw [List.take_of_length_le (by simp)]
  unfold leftStr parseStr
  rw [hp]
  generalize (lineN us us.length).cps.toList.foldl pstep ⟨[], Str.ofString "", false, false⟩ = σ at h
  obtain ⟨res, part, esc, quo⟩ := σ
  obtain ⟨left, pend⟩ := τ
  obtain ⟨h1, h2, h3⟩ := h
  dsimp only at h1 h2 h3 ⊢
  unfold lfEnd
  cases pend with
  | none =>
    obtain ⟨rfl, rfl⟩ := h3
    rw [if_neg (by rw [st_nil]; decide)]
    show _ = left ++ []
    rw [List.append_nil]; exact h2
  | some t =>
    obtain ⟨rfl, p, hpp, hall, ht⟩ := h3
    have hne : ((part.length : Int) ≠ 0) := by
      have : part.cps.toList.length = p.length + 1 := by rw [hpp]; rfl
      have e : part.length = part.cps.toList.length := by simp [Str.length]
      omega
    rw [if_pos hne, List.map_append, List.foldl_append]
    show (leftStep us _ (Txt.strip part)).cps.toList = left ++ t
    rw [strip_same (fun c hc => by
      rw [hpp] at hc
      rcases List.mem_cons.mp hc with rfl | hc
      · exact dark_34
      · exact dark_of hl (hall c hc))]
    have hc1 : cnt 34 part.cps.toList = 1 := by rw [hpp, cnt_cons, cnt_dark hall]; rfl
    rw [left_step_list (by rw [hc1]; decide) (by rw [hc1]; decide), hc1, if_pos rfl, h2, hpp, List.filter_cons, letP_34, if_neg (by decide), List.append_assoc, ← ht]
    rfl
theorem strip_left (x : Str) (hx : x.length ≤ 60) : stripStr x = leftStr (genStr x) := by
  refine str_ext ?_
  have hl := gen_len x.cps.toList 0 false
  have e : x.cps.toList.length = x.length := by simp [Str.length]
  rw [strip_lf, left_lf (genStr x) (by unfold genStr; omega)]

/-! ## plain: the brackets -/
def bal : Nat → List Nat → Bool
  | k, [] => k == 0
  | k, c :: r => if c = 40 then bal (k + 1) r else if c = 41 then (match k with | 0 => false | k' + 1 => bal k' r) else bal k r
theorem bal_pair (k : Nat) (r : List Nat) : bal k (40 :: 41 :: r) = bal k r := by
  show (if (40 : Nat) = 40 then bal (k + 1) (41 :: r) else _) = _
  rw [if_pos rfl]; rfl
theorem bal_app : ∀ (p a b : List Nat) (k : Nat), (∀ k, bal k a = bal k b) → bal k (p ++ a) = bal k (p ++ b)
  | [], a, b, k, h => h k
  | c :: r, a, b, k, h => by
    show (if c = 40 then bal (k + 1) (r ++ a) else if c = 41 then (match k with | 0 => false | k' + 1 => bal k' (r ++ a)) else bal k (r ++ a)) =
      (if c = 40 then bal (k + 1) (r ++ b) else if c = 41 then (match k with | 0 => false | k' + 1 => bal k' (r ++ b)) else bal k (r ++ b))
    rw [bal_app r a b (k + 1) h, bal_app r a b k h]
    cases k with
    | zero => rfl
    | succ k' => dsimp only; rw [bal_app r a b k' h]
theorem bal_join : ∀ (ps : List Str) (k : Nat), bal k (Str.join (Str.ofString "()") ps).cps.toList = bal k (Str.join ⟨#[]⟩ ps).cps.toList
  | [], _ => rfl
  | [_], _ => rfl
  | p :: q :: r, k => by
    show bal k (p ++ Str.ofString "()" ++ Str.join (Str.ofString "()") (q :: r)).cps.toList = bal k (p ++ ⟨#[]⟩ ++ Str.join ⟨#[]⟩ (q :: r)).cps.toList
    rw [st_pair, toList_app, toList_app, toList_app, toList_app, List.append_assoc, List.append_assoc]
    refine bal_app _ _ _ k fun k' => ?_
    show bal k' (40 :: 41 :: _) = bal k' _
    rw [bal_pair, ← st_pair]
    exact bal_join (q :: r) k'
theorem bal_rep (w : Str) (k : Nat) : bal k (rep1 w).cps.toList = bal k w.cps.toList := by
  rcases rep_cases w with ⟨h, _⟩ | ⟨p, q, r, h1, h2⟩
  · rw [h]
  · rw [h2]
    conv => rhs; rw [h1]
    exact (bal_join _ k).symm
theorem bal_repN (w : Str) : ∀ n, bal 0 (repN n w).cps.toList = bal 0 w.cps.toList
  | 0 => rfl
  | n + 1 => by show bal 0 (rep1 (repN n w)).cps.toList = _; rw [bal_rep, bal_repN w n]
theorem join_sub : ∀ (y : Str) (ps : List Str), ∀ c ∈ (Str.join ⟨#[]⟩ ps).cps.toList, c ∈ (Str.join y ps).cps.toList
  | _, [], c, h => h
  | _, [_], c, h => h
  | y, p :: q :: r, c, h => by
    have h' : c ∈ (p ++ ⟨#[]⟩ ++ Str.join ⟨#[]⟩ (q :: r)).cps.toList := h
    show c ∈ (p ++ y ++ Str.join y (q :: r)).cps.toList
    rw [toList_app, toList_app] at h' ⊢
    rcases List.mem_append.mp h' with h' | h'
    · rcases List.mem_append.mp h' with h' | h'
      · exact List.mem_append.mpr (.inl (List.mem_append.mpr (.inl h')))
      · cases h'
    · exact List.mem_append.mpr (.inr (join_sub y (q :: r) c h'))
theorem rep_sub (w : Str) : ∀ c ∈ (rep1 w).cps.toList, c ∈ w.cps.toList := by
  rcases rep_cases w with ⟨h, _⟩ | ⟨p, q, r, h1, h2⟩
  · rw [h]; exact fun _ h => h
  · rw [h2]
    intro c hc
    rw [h1]; exact join_sub _ _ c hc
theorem repN_sub (w : Str) : ∀ n, ∀ c ∈ (repN n w).cps.toList, c ∈ w.cps.toList
  | 0, _, h => h
  | n + 1, c, h => repN_sub w n c (rep_sub _ c h)
def occ0 (w : Str) : Prop := Builtin.Str.occurrences w (Str.ofString "()") 0 w.length (w.length + 1) = []
theorem rep_occ {w : Str} (h : occ0 w) : rep1 w = w := by
  unfold rep1 Txt.replace
  unfold occ0 at h
  rw [h]; rfl
theorem repN_end (w : Str) : ∀ n, occ0 (repN n w) ∨ (repN n w).length + 2 * n ≤ w.length
  | 0 => .inr (Nat.le_refl _)
  | n + 1 => by
    show occ0 (rep1 (repN n w)) ∨ (rep1 (repN n w)).length + 2 * (n + 1) ≤ w.length
    rcases repN_end w n with h | h
    · rw [rep_occ h]; exact .inl h
    · rcases rep_cases (repN n w) with ⟨h1, h2⟩ | ⟨p, q, r, h1, h2⟩
      · rw [h1]; exact .inl h2
      · right
        have := join_lt (Str.ofString "()") p q r
        rw [← h1, ← h2] at this
        have h3 : (Str.ofString "()").length = 2 := by decide +kernel
        omega
theorem no_pair {w : Str} (h : occ0 w) : ∀ p r, w.cps.toList ≠ p ++ 40 :: 41 :: r := by
  intro p r e
  have hl : w.cps.toList.length = w.length := by simp [Str.length]
  unfold occ0 at h
  rcases StrLaws.occ_head w (Str.ofString "()") (w.length + 1) (by omega) with ⟨_, hn⟩ | ⟨i, t, hi, _⟩
  · refine hn p.length ⟨?_, ?_⟩
    · rw [st_pair]
      show p.length + 2 ≤ w.length
      rw [← hl, e]; simp
    · rw [StrLaws.subAt_eq, st_pair, e]
      show (((p ++ 40 :: 41 :: r).drop p.length).take 2 == [40, 41]) = true
      simp
  · rw [h] at hi; cases hi
theorem bal_open : ∀ (r : List Nat) (k : Nat), (∀ c ∈ r, c = 40 ∨ c = 41) → (∀ p t, 40 :: r ≠ p ++ 40 :: 41 :: t) → bal (k + 1) r = false
  | [], k, _, _ => rfl
  | c :: r, k, hc, hn => by
    rcases hc c (.head _) with rfl | rfl
    · show (if (40 : Nat) = 40 then bal (k + 1 + 1) r else _) = false
      rw [if_pos rfl]
      exact bal_open r (k + 1) (fun c h => hc c (.tail _ h)) fun p t e => hn (40 :: p) t (by rw [e]; rfl)
    · exact absurd rfl (hn [] r)
theorem bal_still {l : List Nat} (hc : ∀ c ∈ l, c = 40 ∨ c = 41) (hn : ∀ p t, l ≠ p ++ 40 :: 41 :: t) : bal 0 l = (l == []) := by
  cases l with
  | nil => rfl
  | cons c r =>
    rcases hc c (.head _) with rfl | rfl
    · show (if (40 : Nat) = 40 then bal (0 + 1) r else _) = false
      rw [if_pos rfl]
      exact bal_open r 0 (fun c h => hc c (.tail _ h)) hn
    · rfl
theorem bal_struck (w : Str) (hc : ∀ c ∈ w.cps.toList, c = 40 ∨ c = 41) : (repN w.length w == Str.ofString "") = bal 0 w.cps.toList := by
  have key : (repN w.length w == Str.ofString "") = ((repN w.length w).cps.toList == []) := by
    rw [st_nil]
    generalize repN w.length w = v
    obtain ⟨⟨v⟩⟩ := v
    cases v <;> simp
  rw [key, ← bal_repN w w.length]
  rcases repN_end w w.length with h | h
  · exact (bal_still (fun c hm => hc c (repN_sub w _ c hm)) (no_pair h)).symm
  · have h0 : (repN w.length w).length = 0 := by omega
    have e : (repN w.length w).cps.toList = [] := List.eq_nil_of_length_eq_zero (by simpa [Str.length] using h0)
    rw [e]; rfl
def isPar (u : Str) : Bool := Str.ofString "(" == u || Str.ofString ")" == u
theorem balU_bal : ∀ (us : List Str) (k : Nat), balU k us = bal k (cat (us.filter isPar))
  | [], k => rfl
  | u :: r, k => by
    show (if u = Str.ofString "(" then balU (k + 1) r else if u = Str.ofString ")" then (match k with | 0 => false | k' + 1 => balU k' r) else balU k r) = _
    by_cases h1 : u = Str.ofString "("
    · have hp : isPar u = true := by unfold isPar; rw [h1]; decide +kernel
      rw [if_pos h1, List.filter_cons, if_pos hp, balU_bal r (k + 1), h1, st_op]; rfl
    · by_cases h2 : u = Str.ofString ")"
      · have hp : isPar u = true := by unfold isPar; rw [h2]; decide +kernel
        rw [if_neg h1, if_pos h2, List.filter_cons, if_pos hp, h2, st_cl]
        show _ = (if (41 : Nat) = 40 then _ else if (41 : Nat) = 41 then (match k with | 0 => false | k' + 1 => bal k' (cat (r.filter isPar))) else _)
        rw [if_neg (by decide), if_pos rfl]
        cases k with
        | zero => rfl
        | succ k' => exact balU_bal r k'
      · have hp : ¬ isPar u = true := by
          unfold isPar
          simp only [Bool.or_eq_true, beq_iff_eq]
          rintro (q | q)
          · exact h1 q.symm
          · exact h2 q.symm
        rw [if_neg h1, if_neg h2, List.filter_cons, if_neg hp]
        exact balU_bal r k
theorem filter_par (us : List (Nat × Str)) : (us.map (·.2)).filter isPar = (us.filter parP).map (·.2) := by
  rw [List.filter_map]; rfl
theorem cat_par : ∀ (us : List Str), ∀ c ∈ cat (us.filter isPar), c = 40 ∨ c = 41 := by
  intro us c hc
  unfold cat at hc
  obtain ⟨l, hl, hc⟩ := List.mem_flatten.mp hc
  obtain ⟨u, hu, rfl⟩ := List.mem_map.mp hl
  have := (List.mem_filter.mp hu).2
  unfold isPar at this
  simp only [Bool.or_eq_true, beq_iff_eq] at this
  rcases this with rfl | rfl
  · rw [st_op] at hc; left; exact List.mem_singleton.mp hc
  · rw [st_cl] at hc; right; exact List.mem_singleton.mp hc
theorem word_list (y : Str) : (wordStr y).cps.toList = cat (((genStr y).map (·.2)).filter isPar) := by
  unfold wordStr
  rw [join_cat, ← gen_units, filter_par]
theorem closes_bal (y : Str) : closesStr y = balU 0 ((genStr y).map (·.2)) := by
  unfold closesStr
  rw [bal_struck _ (by rw [word_list]; exact cat_par _), word_list, balU_bal]
theorem check_closes (x : Str) (hx : x.length ≤ 60) : checkStr x = closesStr (leftStr (genStr x)) := by
  unfold checkStr
  rw [closes_bal, strip_left x hx]

/-! ## plain: sizes and signs -/
theorem strOk_iff (x : Str) : PyData.strOk x = true ↔ ∀ c ∈ x.cps.toList, c < 1114112 := by
  unfold PyData.strOk
  rw [Array.all_eq_true_iff_forall_mem]
  simp
theorem gen_signs : ∀ (l : List Nat) (i : Nat) (esc : Bool), ∀ q ∈ genFrom l i esc, ∀ c ∈ q.2.cps.toList, c = 92 ∨ c ∈ l
  | [], i, esc, q, hq, c, hc => by
    cases esc with
    | true =>
      have : q = (i - 1, Str.ofString "\\") := by simpa [genFrom] using hq
      rw [this, st_bs] at hc; left; exact List.mem_singleton.mp hc
    | false => simp [genFrom] at hq
  | d :: r, i, true, q, hq, c, hc => by
    rcases List.mem_cons.mp hq with rfl | hq
    · rw [st_bs] at hc
      rcases List.mem_cons.mp hc with rfl | hc
      · exact .inl rfl
      · right; rw [List.mem_singleton.mp hc]; exact .head _
    · exact (gen_signs r (i + 1) false q hq c hc).imp id (.tail _)
  | d :: r, i, false, q, hq, c, hc => by
    have hq' : q ∈ (if d = 92 then genFrom r (i + 1) true else (i, (⟨#[d]⟩ : Str)) :: genFrom r (i + 1) false) := hq
    split at hq'
    · exact (gen_signs r (i + 1) true q hq' c hc).imp id (.tail _)
    · rcases List.mem_cons.mp hq' with rfl | hq'
      · right; rw [List.mem_singleton.mp hc]; exact .head _
      · exact (gen_signs r (i + 1) false q hq' c hc).imp id (.tail _)
theorem lf_len : ∀ (us : List Str) (σ : LF), (lfEnd (us.foldl lf σ)).length ≤ (lfEnd σ).length + (us.map (·.length)).sum
  | [], σ => by simp
  | u :: r, σ => by
    have ih := lf_len r (lf σ u)
    have h1 : (lfEnd (lf σ u)).length ≤ (lfEnd σ).length + u.length := by
      have hul : u.length = u.cps.size := rfl
      obtain ⟨left, pend⟩ := σ
      unfold lf lfEnd
      split
      · rename_i hu
        have : u.length = 1 := by rw [hu, st_qm]; rfl
        cases pend <;> simp <;> omega
      · cases pend <;> simp <;> omega
    rw [List.foldl_cons, List.map_cons, List.sum_cons]
    omega
theorem left_len (x : Str) (hx : x.length ≤ 60) : (leftStr (genStr x)).length ≤ 200 := by
  have hl := gen_len x.cps.toList 0 false
  have e : x.cps.toList.length = x.length := by simp [Str.length]
  have hg : (genStr x).length ≤ 61 := by unfold genStr; omega
  have h := lf_len ((genStr x).map (·.2)) ⟨[], none⟩
  rw [← left_lf (genStr x) (by omega)] at h
  have hs := sum_le 2 ((genStr x).map (·.2)) fun y hy => by
    obtain ⟨q, hq, rfl⟩ := List.mem_map.mp hy
    rw [gen_units] at hq
    exact ((units_len x).2 q hq).2
  rw [List.length_map] at hs
  have hlen : (leftStr (genStr x)).cps.toList.length = (leftStr (genStr x)).length := by simp [Str.length]
  have h0 : (lfEnd ⟨[], none⟩).length = 0 := rfl
  omega
theorem plain (x : Str) (hx : x.length ≤ 40) (hok : PyData.strOk x = true) : PL x := by
  have hall := (strOk_iff x).mp hok
  refine ⟨hx, gen_units x, parse_items x, strip_left x (by omega), check_closes x (by omega), fun y hy => ?_, ?_, fun q hq => ?_, fun y hy => ?_, hok⟩
  · have hyl := ((parse_fine x).1 y hy).2
    rw [← gen_units]
    refine ⟨check_closes y (by omega), ?_⟩
    have := left_len y (by omega)
    omega
  · have := left_len x (by omega)
    omega
  · rw [strOk_iff]
    intro c hc
    rcases gen_signs _ _ _ q hq c hc with rfl | hc
    · decide
    · exact hall c hc
  · rw [strOk_iff]
    intro c hc
    exact hall c (((parse_fine x).1 y hy).1 c hc)

/-! ## the ground, as the top leaves it -/
def fpos : Stmt → Pos
  | .FunctionDef _ _ _ _ _ _ _ _ _ p => p
  | _ => default
def recAt (i : Nat) : DefRec := ⟨fname (fnAt i), fparams (fnAt i), fbody (fnAt i), fscope (fnAt i), fpos (fnAt i)⟩
theorem gd_of {q : Program} {loose : List Str} {R : WRecords} {XP : (Str → Option Value) → Heap → Prop} {w : World} {s₀ : Shared} {mg mb : Str → Option Value} {h : Heap} (G : Ground q loose R XP w s₀ mg mb h)
    (hn : (biPairs.all fun p => p.1 != "__name__" && !(startupNames.contains p.1) && !((looseW q loose).contains p.1) && !(((recsOf q).map (·.name)).contains p.1) && !(((litsOf q).map (·.1)).contains p.1) && !(((clssOf q (looseW q loose)).map (·.name)).contains p.1)) = true)
    (hr : recsOf q = fnIxs.map recAt) : Gd mg mb h := by
  refine ⟨G.T.g, G.T.b, G.T.nolimit, fun p hp => ?_, fun i hi => ?_⟩
  · have h1 := List.all_eq_true.mp hn p hp
    simp only [Bool.and_eq_true, Bool.not_eq_true', bne_iff_ne, ne_eq, List.contains_eq_mem, decide_eq_false_iff_not] at h1
    obtain ⟨⟨⟨⟨⟨a1, a2⟩, a3⟩, a4⟩, a5⟩, a6⟩ := h1
    refine ⟨G.T.free p.1 a2 a3 a4 a5 a6, (G.T.builtins p.1 a1).trans ?_⟩
    simp only [biPairs, List.mem_cons, List.not_mem_nil, or_false] at hp
    rcases hp with rfl | rfl | rfl | rfl | rfl | rfl | rfl | rfl <;> rfl
  · obtain ⟨a, o, pm, code, doc, h1, h2, h3, h4⟩ := G.T.fn (recAt i) (by rw [hr]; exact List.mem_map_of_mem hi)
    exact ⟨a, o, pm, code, doc, h1, h2, h3, h4⟩

end Mine

theorem PySem.Challenge.cw_pk0057_01_holds : PySem.Challenge.rw_pk0057_01.Holds := by
  w_on
  o_law
  k_head
  case hw => w_witness2
  k_fill
  intro w s₀ s₁ mg mb G Y fa o pm cd doc dV kV ho hd hcd hD hmg hg args vals as hpre hlay hrd hwl hlo
  have GD : Mine.Gd mg mb s₁.heap := Mine.gd_of G (by decide +kernel) (by kernel_rfl)
  clear G Y hcd ho hd hD
  wrow_args hpre hlay hrd hwl hlo
  rename_i ns _ _ _ _ _ _ _ _ _ _ hL _ _ _ hI _ hlen _
  refine wpAny_call (Mine.law_spec (A := callerA) GD ⟨rfl, by decide +kernel, by decide +kernel⟩ hmg hL hI (by omega) (fun x hx hok => Mine.plain x (by omega) hok) ?_)
  intro s' X hk
  have X' := X.gens
  refine ⟨.inl ⟨.bool true, .bool true, [], rfl, fun cls => rfl, .bool _, ?_, fun _ => ⟨List.nodup_nil, fun _ h => (nomatch h)⟩⟩, .of_keep hk, X.os, X'.1 (.of_eq hg)⟩
  wrow_post
