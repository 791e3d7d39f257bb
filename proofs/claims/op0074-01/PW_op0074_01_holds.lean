import PyProof.Rows.All
import Wide.All
import OpenK.AllK
import Wide.FinOn
import Lean
import PySem.Challenge.RW_op0074_01
set_option Elab.async false
set_option compiler.extract_closed false
set_option linter.all false

section
open PySem PySem.W PyProof.Rows
set_option maxRecDepth 100000
set_option maxHeartbeats 8000000
namespace Mine
open_top hd for PySem.Challenge.rw_op0074_01
end Mine
end

section
open PySem PySem.W PyProof.Rows PySem.Spec PySem.Calls
set_option maxRecDepth 100000
set_option maxHeartbeats 8000000
namespace Mine
noncomputable abbrev P0 : Program := PySem.Challenge.rw_op0074_01.prog

/-- everything but X stays -/
noncomputable def Kp (X : List Addr) (h h' : Heap) : Prop := ∀ b o, h.get? b = some o → b ∉ X → h'.get? b = some o
theorem Kp.refl {X : List Addr} {h : Heap} : Kp X h h := fun _ _ e _ => e
theorem Kp.trans {X : List Addr} {h h' h'' : Heap} (a : Kp X h h') (b : Kp X h' h'') : Kp X h h'' := fun c o e n => b c o (a c o e n) n
theorem Kp.mono {X Y : List Addr} {h h' : Heap} (a : Kp X h h') (s : ∀ x ∈ X, x ∈ Y) : Kp Y h h' := fun c o e n => a c o e fun q => n (s c q)
theorem Kp.of {X : List Addr} {h h' : Heap} (k : ∀ b o, h.get? b = some o → h'.get? b = some o) : Kp X h h' := fun b o e _ => k b o e

structure Wd (w : World) (p : Program) (loose : List Str) (mean : ExcName → Option Value) (mg mb : Str → Option Value) (H : Heap) : Prop where
  X : (hd.heap_39 w.params).In H
  T : Top p loose mean mg mb H
  c1 : CodeHd H 107 103
  c2 : CodeHd H 20 16
  c3 : CodeHd H 88 86
  n1 : H.get? 103 = none
  n2 : H.get? 16 = none
  n3 : H.get? 86 = none

/-- room enough for n frames -/
structure Ok (n : Nat) (A : Around) : Prop where
  h : A.handled = none
  d : A.depth + n ≤ 900
  u : A.units + 20 * n ≤ 9000

theorem Ok.room {n : Nat} {A : Around} (o : Ok n A) : A.depth < recursionLimit := by
  have := o.d
  show A.depth < 1000
  omega
theorem Ok.deeper {n : Nat} {A : Around} {env : Env} (o : Ok (n + 1) A) : Ok n (A.deeper env) := by
  refine ⟨o.h, ?_, ?_⟩
  · have := o.d
    show A.depth + 1 + n ≤ 900
    omega
  · have := o.u
    show A.units + 3 + 20 * n ≤ 9000
    omega
theorem Ok.in1 {n : Nat} {A : Around} (o : Ok (n + 1) A) : Ok n A.in1 := by
  refine ⟨o.h, ?_, ?_⟩
  · have := o.d
    show A.depth + n ≤ 900
    omega
  · have := o.u
    show A.units + 1 + 20 * n ≤ 9000
    omega
theorem Ok.less {n k : Nat} {A : Around} (o : Ok n A) (h : k ≤ n) : Ok k A := ⟨o.h, by have := o.d; omega, by have := o.u; omega⟩

noncomputable abbrev AL (n : Nat) : Around := ⟨none, 900 - n, none, none, 9000 - 20 * n⟩
theorem wp_weaken {α : Type} {M : Model} {A : Around} {t : Sem α} {Q : α → Shared → Prop} {E : Value → Shared → Prop} {s : Shared} {n : Nat} (o : Ok n A) (h : wpAny M (AL n) t Q E s) : wpAny M A t Q E s := by
  intro Γ p hΓ
  refine h Γ p ⟨hΓ.1.trans o.h, Nat.le_trans hΓ.2.1 ?_, fun l hl => (by cases hl), fun g hg => (by cases hg), Nat.le_trans hΓ.2.2.2.2 ?_⟩
  · have := o.d; show A.depth ≤ 900 - n; omega
  · have := o.u; show A.units ≤ 9000 - 20 * n; omega
theorem ok_AL {n : Nat} (h : n ≤ 400) : Ok n (AL n) := ⟨rfl, by show 900 - n + n ≤ 900; omega, by show 9000 - 20 * n + 20 * n ≤ 9000; omega⟩

section
variable {w : World} {p : Program} {loose : List Str} {mean : ExcName → Option Value} {mg mb : Str → Option Value} {H : Heap} {s : Shared} {A : Around}

theorem stays_hide {h : Heap} {X : List Addr} (hs : H.StaysIn h) (hX : ∀ x ∈ X, H.get? x = none) : H.StaysIn (hideAll h X) := fun b o e => by
  refine hideAll_get X (hs b o e) fun q => ?_
  rw [hX b q] at e; cases e
theorem stays_kp {h h' : Heap} {X : List Addr} (hs : H.StaysIn h) (k : Kp X h h') (hX : ∀ x ∈ X, H.get? x = none) : H.StaysIn h' := fun b o e => by
  refine k b o (hs b o e) fun q => ?_
  rw [hX b q] at e; cases e
theorem kp_hide {h h' : Heap} {X : List Addr} {L : Addr} {m : Str → Option Value} (F : Fr (hideAll h X) L h' m) : Kp X h h' := fun b o e n => F.keep b o (hideAll_get X e n)
theorem fr_kp {g h h' : Heap} {L : Addr} {m : Str → Option Value} {X : List Addr} (F : Fr g L h m) (k : Kp X h h') (hX : ∀ x ∈ X, g.get? x = none ∧ x ≠ L) : Fr g L h' m := by
  obtain ⟨oL, es, ep, hL, r⟩ := F.ns
  refine ⟨⟨oL, es, ep, k L oL hL fun q => (hX L q).2 rfl, r⟩, fun b o e => k b o (F.keep b o e) fun q => ?_, F.above⟩
  rw [(hX b q).1] at e; cases e
theorem news_kp {g h h' : Heap} {L : Addr} {news : List (Addr × Obj)} {X : List Addr} (N : News g L h news) (k : Kp X h h') (hX : ∀ q ∈ news, q.1 ∉ X) : News g L h' news :=
  fun q hq => ⟨k _ _ (N q hq).1 (hX q hq), (N q hq).2⟩
theorem fr_keep {g h h' : Heap} {L : Addr} {m : Str → Option Value} (F : Fr g L h m) (k : Kp [] h h') : Fr g L h' m := fr_kp F k (fun _ hx => nomatch hx)
theorem news_keep {g h h' : Heap} {L : Addr} {news : List (Addr × Obj)} (N : News g L h news) (k : Kp [] h h') : News g L h' news := news_kp N k (fun _ _ hx => nomatch hx)

/-- a def without cells is entered; X: what may turn beside its own -/
theorem enterX {R : Result → Shared → Prop} {name qual : Str} {params : Arguments} {body : List Stmt} {scope : Scope} {cl : List (Str × Addr)} {dV kV doc pm cdv ct : Value} {an : Option Addr} {fo : Obj} {f : Addr} {args : Args} {binds : List (Str × Value)}
    (W : Wd w p loose mean mg mb H) (hs : H.StaysIn s.heap) (X : List Addr) (nw : List (Addr × Obj)) (hX : ∀ x ∈ X, H.get? x = none) (hN : ∀ q ∈ nw, s.heap.get? q.1 = some q.2 ∧ q.1 ∈ X) (hA : A.depth < recursionLimit)
    (ho : s.heap.get? f = some fo) (hdat : fo.data = .func (fnX name qual params body scope cl dV kV doc pm an cdv ct)) (hcd : s.heap.CodeRec cdv qual)
    (hbind : BindsTo s (fnX name qual params body scope cl dV kV doc pm an cdv ct) args binds) (hloc : ∀ y ∈ binds, scope.names.lookup y.1 = some .local)
    (h : ∀ g L' h₁, g = hideAll s.heap X → L' = s.heap.objs.size → Fr g L' h₁ (fun y => binds.reverse.lookup y) → News g L' h₁ nw → (hd.heap_39 w.params).In g → Top p loose mean mg mb g → H.StaysIn g → (∀ b o, s.heap.get? b = some o → h₁.get? b = some o) →
      wpAny (model P0 w) (A.deeper (envX qual scope L' f cdv cl)) (execs body (envX qual scope L' f cdv cl))
        (fun fl s' => R (.ok (.ret (match fl with | .ret v => v | _ => .none))) s')
        (fun e s' => wpAny (model P0 w) (A.deeper (envX qual scope L' f cdv cl)) (leaving (envX qual scope L' f cdv cl) e) (fun _ s'' => R (.error e) s'') (fun e' s'' => R (.error e') s'') s')
        { s with heap := h₁, toks := s.toks + binds.length })
    (hcell : ∀ x ∈ scope.names, x.2 ≠ .cell) (hco : scope.isCoroutine = false := by rfl) (hgen : scope.isGenerator = false := by rfl) (hk : scope.kind = .function := by rfl) : codeAny (model P0 w) A (.call (.ref f) args) R s := by
  have st := stays_hide hs hX
  refine codeAny_call_def (fd := fnX name qual params body scope cl dV kV doc pm an cdv ct) (body := body) (binds := binds) hA ho hdat (W.T.nolimit.keeps hs) hcd rfl hbind hcell hloc (fun h₁ hns hk₁ => ?_) hco hgen hk
  exact h _ _ h₁ rfl rfl ⟨hns, fun b o e => hk₁ b o (of_hideAll _ e), Nat.le_of_eq (hideAll_size _ _)⟩ (fun q hq => ⟨hk₁ _ _ (hN q hq).1, Nat.ne_of_lt (Heap.lt_size (hN q hq).1), hideAll_none _ (hN q hq).2⟩) (W.X.keeps st) (W.T.keeps st) st hk₁

/-- a def with cells is entered -/
theorem enterC {R : Result → Shared → Prop} {name qual : Str} {params : Arguments} {body : List Stmt} {scope : Scope} {dV kV doc pm cdv ct : Value} {an : Option Addr} {fo : Obj} {f : Addr} {args : Args} {binds : List (Str × Value)}
    (W : Wd w p loose mean mg mb H) (hs : H.StaysIn s.heap) (X : List Addr) (nw : List (Addr × Obj)) (hX : ∀ x ∈ X, H.get? x = none) (hN : ∀ q ∈ nw, s.heap.get? q.1 = some q.2 ∧ q.1 ∈ X) (hA : A.depth < recursionLimit)
    (ho : s.heap.get? f = some fo) (hdat : fo.data = .func (fnX name qual params body scope [] dV kV doc pm an cdv ct)) (hcd : s.heap.CodeRec cdv qual)
    (hbind : BindsTo s (fnX name qual params body scope [] dV kV doc pm an cdv ct) args binds)
    (hkind : (binds.all fun y => scope.names.lookup y.1 == some .local || scope.names.lookup y.1 == some .cell) = true)
    (hnd : ((cellsFrom 0 scope.names []).map (·.1)).Nodup)
    (h : ∀ g L' h₁ tk cells, g = hideAll s.heap X → L' = s.heap.objs.size → Fr g L' h₁ (bindL (envOfC qual scope L' f cdv).kindOf binds fun _ => none) → News g L' h₁ (cells ++ nw) →
      CellsAre (bindC (envOfC qual scope L' f cdv).kindOf binds fun _ => none) (cellsFrom (L' + 1) scope.names []) cells → (hd.heap_39 w.params).In g → Top p loose mean mg mb g → H.StaysIn g → (∀ b o, s.heap.get? b = some o → h₁.get? b = some o) → (∀ q ∈ nw, q.1 < L') →
      wpAny (model P0 w) (A.deeper (envOfC qual scope L' f cdv)) (execs body (envOfC qual scope L' f cdv))
        (fun fl s' => R (.ok (.ret (match fl with | .ret v => v | _ => .none))) s')
        (fun e s' => wpAny (model P0 w) (A.deeper (envOfC qual scope L' f cdv)) (leaving (envOfC qual scope L' f cdv) e) (fun _ s'' => R (.error e) s'') (fun e' s'' => R (.error e') s'') s')
        { s with heap := h₁, toks := tk })
    (hco : scope.isCoroutine = false := by rfl) (hgen : scope.isGenerator = false := by rfl) (hk : scope.kind = .function := by rfl) : codeAny (model P0 w) A (.call (.ref f) args) R s := by
  have st := stays_hide hs hX
  refine codeAny_call_function hA ho hdat hco hgen rfl hcd (hbind _ _ _ _ ?_)
  refine wpAny_newFunctionEnv_cells hk (kindsX hkind _) fun env' he s' x => ?_
  subst he
  refine ⟨(W.T.nolimit.keeps hs).keeps x.toInCall.keep, codeAny_func ?_⟩
  obtain ⟨h₁, tk, rfl, _⟩ := x.done
  have hk₁ := x.toInCall.keep
  obtain ⟨cells, NC, Y⟩ := Cl.news (h₀ := s.heap) (Nat.le_refl _) fun n c hm => ⟨x.cell n c (lookup_of_mem_nodup (cellsFrom_names scope.names 0 (s.heap.objs.size + 1) [] [] rfl ▸ hnd) hm), x.above n c hm⟩
  refine h _ s.heap.objs.size h₁ tk cells rfl rfl ⟨x.toInCall.ns, fun b o e => hk₁ b o (of_hideAll _ e), Nat.le_of_eq (hideAll_size _ _)⟩ (fun p hp => ?_) Y (W.X.keeps st) (W.T.keeps st) st hk₁ (fun q hq => Heap.lt_size (hN q hq).1)
  rcases List.mem_append.mp hp with hp | hp
  rotate_left
  · exact ⟨hk₁ _ _ (hN p hp).1, Nat.ne_of_lt (Heap.lt_size (hN p hp).1), hideAll_none _ (hN p hp).2⟩
  refine ⟨(NC p hp).1, (NC p hp).2.1, ?_⟩
  cases q : (hideAll s.heap X).get? p.1 with
  | none => rfl
  | some o => have := of_hideAll _ q; rw [(NC p hp).2.2] at this; cases this

/-- a def of the top, without cells -/
theorem enterK {R : Result → Shared → Prop} {name qual : Str} {params : Arguments} {body : List Stmt} {scope : Scope} {cl : List (Str × Addr)} {dV kV doc pm cdv ct oc : Value} {an od : Option Addr} {osl : Array (Option Value)} {f : Addr} {args : Args} {binds : List (Str × Value)}
    (W : Wd w p loose mean mg mb H) (hs : H.StaysIn s.heap) (X : List Addr) (nw : List (Addr × Obj)) (hX : ∀ x ∈ X, H.get? x = none) (hN : ∀ q ∈ nw, s.heap.get? q.1 = some q.2 ∧ q.1 ∈ X) (hA : A.depth < recursionLimit)
    (ho : (hd.heap_39 w.params).lookup f = some ⟨oc, od, .func (fnX name qual params body scope cl dV kV doc pm an cdv ct), osl⟩) (hcd : codeIn (hd.heap_39 w.params) cdv qual = true)
    (hbind : BindsTo s (fnX name qual params body scope cl dV kV doc pm an cdv ct) args binds) (hloc : ∀ y ∈ binds, scope.names.lookup y.1 = some .local)
    (h : ∀ g L' h₁, g = hideAll s.heap X → L' = s.heap.objs.size → Fr g L' h₁ (fun y => binds.reverse.lookup y) → News g L' h₁ nw → (hd.heap_39 w.params).In g → Top p loose mean mg mb g → H.StaysIn g → (∀ b o, s.heap.get? b = some o → h₁.get? b = some o) →
      wpAny (model P0 w) (A.deeper (envX qual scope L' f cdv cl)) (execs body (envX qual scope L' f cdv cl))
        (fun fl s' => R (.ok (.ret (match fl with | .ret v => v | _ => .none))) s')
        (fun e s' => wpAny (model P0 w) (A.deeper (envX qual scope L' f cdv cl)) (leaving (envX qual scope L' f cdv cl) e) (fun _ s'' => R (.error e) s'') (fun e' s'' => R (.error e') s'') s')
        { s with heap := h₁, toks := s.toks + binds.length })
    (hcell : ∀ x ∈ scope.names, x.2 ≠ .cell) (hco : scope.isCoroutine = false) (hgen : scope.isGenerator = false) (hk : scope.kind = .function) : codeAny (model P0 w) A (.call (.ref f) args) R s :=
  enterX W hs X nw hX hN hA (hs _ _ (W.X _ _ ho)) rfl (codeRec_of (W.X.keeps hs) hcd) hbind hloc h hcell hco hgen hk
/-- a def of the top, with cells -/
theorem enterKC {R : Result → Shared → Prop} {name qual : Str} {params : Arguments} {body : List Stmt} {scope : Scope} {dV kV doc pm cdv ct oc : Value} {an od : Option Addr} {osl : Array (Option Value)} {f : Addr} {args : Args} {binds : List (Str × Value)}
    (W : Wd w p loose mean mg mb H) (hs : H.StaysIn s.heap) (X : List Addr) (nw : List (Addr × Obj)) (hX : ∀ x ∈ X, H.get? x = none) (hN : ∀ q ∈ nw, s.heap.get? q.1 = some q.2 ∧ q.1 ∈ X) (hA : A.depth < recursionLimit)
    (ho : (hd.heap_39 w.params).lookup f = some ⟨oc, od, .func (fnX name qual params body scope [] dV kV doc pm an cdv ct), osl⟩) (hcd : codeIn (hd.heap_39 w.params) cdv qual = true)
    (hbind : BindsTo s (fnX name qual params body scope [] dV kV doc pm an cdv ct) args binds)
    (hkind : (binds.all fun y => scope.names.lookup y.1 == some .local || scope.names.lookup y.1 == some .cell) = true)
    (hnd : ((cellsFrom 0 scope.names []).map (·.1)).Nodup)
    (h : ∀ g L' h₁ tk cells, g = hideAll s.heap X → L' = s.heap.objs.size → Fr g L' h₁ (bindL (envOfC qual scope L' f cdv).kindOf binds fun _ => none) → News g L' h₁ (cells ++ nw) →
      CellsAre (bindC (envOfC qual scope L' f cdv).kindOf binds fun _ => none) (cellsFrom (L' + 1) scope.names []) cells → (hd.heap_39 w.params).In g → Top p loose mean mg mb g → H.StaysIn g → (∀ b o, s.heap.get? b = some o → h₁.get? b = some o) → (∀ q ∈ nw, q.1 < L') →
      wpAny (model P0 w) (A.deeper (envOfC qual scope L' f cdv)) (execs body (envOfC qual scope L' f cdv))
        (fun fl s' => R (.ok (.ret (match fl with | .ret v => v | _ => .none))) s')
        (fun e s' => wpAny (model P0 w) (A.deeper (envOfC qual scope L' f cdv)) (leaving (envOfC qual scope L' f cdv) e) (fun _ s'' => R (.error e) s'') (fun e' s'' => R (.error e') s'') s')
        { s with heap := h₁, toks := tk })
    (hco : scope.isCoroutine = false) (hgen : scope.isGenerator = false) (hk : scope.kind = .function) : codeAny (model P0 w) A (.call (.ref f) args) R s :=
  enterC W hs X nw hX hN hA (hs _ _ (W.X _ _ ho)) rfl (codeRec_of (W.X.keeps hs) hcd) hbind hkind hnd h hco hgen hk

theorem kp_fr {g h h' : Heap} {X : List Addr} {L : Addr} {m : Str → Option Value} (hg : g = hideAll h X) (F : Fr g L h' m) : Kp X h h' := by subst hg; exact kp_hide F
theorem fr_map {g h : Heap} {L : Addr} {m m' : Str → Option Value} (F : Fr g L h m) (e : ∀ y, m y = m' y) : Fr g L h m' := by
  have : m = m' := funext e
  subst this; exact F
theorem fr_ne {g h : Heap} {L a : Addr} {m : Str → Option Value} (F : Fr g L h m) (n : h.get? a = none) : a ≠ L ∧ g.get? a = none := by
  obtain ⟨oL, _, _, hL, _⟩ := F.ns
  refine ⟨fun q => ?_, ?_⟩
  · rw [q, hL] at n; cases n
  · cases q : g.get? a with
    | none => rfl
    | some o => rw [F.keep a o q] at n; cases n
theorem news_new {g h h' : Heap} {L a : Addr} {o : Obj} {m : Str → Option Value} {news : List (Addr × Obj)} (F : Fr g L h m) (n : h.get? a = none) (e : h'.get? a = some o) (N : News g L h' news) : News g L h' ((a, o) :: news) := fun q hq => by
  rcases List.mem_cons.mp hq with rfl | hq
  · exact ⟨e, fr_ne F n⟩
  · exact N q hq
theorem news_lt {g h : Heap} {L : Addr} {q : Addr × Obj} {a : Addr} {news : List (Addr × Obj)} (N : News g L h news) (hq : q ∈ news) (n : h.get? a = none) : q.1 ≠ a := fun e => by
  rw [← e, (N q hq).1] at n; cases n
/-- one object of the ledger has turned -/
theorem news_turn {g h h' : Heap} {L a : Addr} {o o' : Obj} {news : List (Addr × Obj)} (N : News g L h ((a, o) :: news)) (hs : ∀ b x, b ≠ a → h.get? b = some x → h'.get? b = some x) (e : h'.get? a = some o') (ne : ∀ q ∈ news, q.1 ≠ a) : News g L h' ((a, o') :: news) := fun q hq => by
  rcases List.mem_cons.mp hq with rfl | hq
  · exact ⟨e, (N _ (.head _)).2⟩
  · have z := N q (.tail _ hq)
    exact ⟨hs _ _ (ne q hq) z.1, z.2⟩
theorem fr_turn {g h h' : Heap} {L a : Addr} {m : Str → Option Value} (F : Fr g L h m) (na : a ≠ L ∧ g.get? a = none) (hs : ∀ b x, b ≠ a → h.get? b = some x → h'.get? b = some x) : Fr g L h' m :=
  fr_kp (X := [a]) F (fun b o e n => hs b o (fun q => n (by rw [q]; exact .head _)) e) (fun x hx => by rw [List.mem_singleton.mp hx]; exact ⟨na.2, na.1⟩)
theorem look1 {y a : Str} {v : Value} : List.lookup y (List.reverse [(a, v)]) = if y = a then some v else none := by
  show (match y == a with | true => some v | false => none) = _
  by_cases h : y = a
  · subst h; simp
  · have : (y == a) = false := by simpa using h
    rw [this, if_neg h]
theorem look2 {y a b : Str} {v u : Value} : List.lookup y (List.reverse [(a, v), (b, u)]) = if y = b then some u else if y = a then some v else none := by
  show (match y == b with | true => some u | false => (match y == a with | true => some v | false => none)) = _
  by_cases h : y = b
  · subst h; simp
  · have hb : (y == b) = false := by simpa using h
    rw [hb, if_neg h]
    by_cases k : y = a
    · subst k; simp
    · have ka : (y == a) = false := by simpa using k
      simp [ka, k]
theorem news_hid {h₀ h₁ : Heap} {X : List Addr} {x : Addr} {o : Obj} (e : h₀.get? x = some o) (hx : x ∈ X) (k : ∀ b o, h₀.get? b = some o → h₁.get? b = some o) : News (hideAll h₀ X) h₀.objs.size h₁ [(x, o)] := fun q hq => by
  rw [List.mem_singleton.mp hq]
  exact ⟨k _ _ e, Nat.ne_of_lt (Heap.lt_size e), hideAll_none _ hx⟩
theorem news_app {g h : Heap} {L : Addr} {a b : List (Addr × Obj)} (x : News g L h a) (y : News g L h b) : News g L h (a ++ b) := fun q hq => (List.mem_append.mp hq).elim (x q) (y q)
end
end Mine
end

section
open PySem PySem.W PyProof.Rows PySem.Spec PySem.Calls
namespace Mine
/-- a goal's far end, kept out of sight while the walk is in a loop -/
theorem hideR {w : World} {A : Around} {c : Code} {R : Result → Shared → Prop} {s : Shared} (h : ∀ R' : Result → Shared → Prop, (∀ r s', R r s' → R' r s') → codeAny (model P0 w) A c R' s) : codeAny (model P0 w) A c R s :=
  h R fun _ _ x => x
/-- a loop's invariant, kept out of sight -/
theorem hideI {G : Prop} (I : Nat → Shared → Prop) (h : ∀ I' : Nat → Shared → Prop, (∀ n s', I' n s' ↔ I n s') → G) : G :=
  h I fun _ _ => Iff.rfl
/-- a goal, kept out of sight while its neighbours are taken apart -/
theorem hideG {G : Prop} (h : ∀ G' : Prop, (G → G') → G') : G := h G id
/-- a goal's two ends, kept out of sight -/
theorem hideQ {w : World} {A : Around} {α : Type} {c : Sem α} {Q : α → Shared → Prop} {E : Value → Shared → Prop} {s : Shared} (h : ∀ (Q' : α → Shared → Prop) (E' : Value → Shared → Prop), (∀ x s', Q x s' → Q' x s') → (∀ e s', E e s' → E' e s') → wpAny (model P0 w) A c Q' E' s) : wpAny (model P0 w) A c Q E s :=
  h Q E (fun _ _ x => x) fun _ _ x => x
/-- two places are unlike: kept out of the sight of omega, which would split on it -/
noncomputable def Off (a b : Nat) : Prop := a ≠ b
theorem off_of {a b : Nat} (h : a ≠ b) : Off a b := h
theorem ne_of {a b : Nat} (h : Off a b) : a ≠ b := h
theorem off_to {a b : Nat} (h : a ≠ b) : Off b a := h.symm
theorem ne_to {a b : Nat} (h : Off a b) : b ≠ a := fun e => h e.symm
end Mine
end

section
open PySem PySem.W PyProof.Rows PySem.Spec PySem.Calls PySem.W.X
set_option maxRecDepth 100000
set_option maxHeartbeats 8000000
namespace Mine
section
variable {M : Model} {A : Around} {E : Value → Shared → Prop} {s : Shared} {g : Heap} {L : Addr} {m : Str → Option Value} {mg mb : Str → Option Value} {mean : ExcName → Option Value} {p : Program} {loose : List Str}
/-- how a table of codes may stand -/
noncomputable def TabState (g : Heap) (P : Addr) (qual : Str) (line col : Nat) (ps : Array Value) : Prop := ps = #[] ∨ ∃ c, ps = #[rawInt line, rawInt col, .ref c] ∧ g.CodeRec (.ref c) qual ∧ c ≠ P
/-- a def in a body, at its first turn or at a later one -/
theorem nest_any {Q : Value → Shared → Prop} {cn : Str} {cs : Scope} {a : Addr} {ccd : Value} {cl : List (Str × Addr)} {name qual : Str} {params : Arguments} {body : List Stmt} {scope : Scope} {pos : Pos} {firstLine : Nat} {clos : List (Str × Addr)} {c P : Addr} {ps : Array Value} {news : List (Addr × Obj)} {gf : Obj → List (Addr × Obj)}
    (F : Fr g L s.heap m) (N : News g L s.heap news) (T : Top p loose mean mg mb g) (C : CodeHd g c P) (hcd : ccd = .ref c) (U : UpdF P (tabObj ps) news gf) (stt : TabState g P qual pos.line pos.col ps)
    (hcl : closureFor scope (envX cn cs L a ccd cl) = pure clos)
    (h : ∀ f c' cx ox ctv doc h' tk, Fr g L h' m → News g L h' ((f, fnMade name qual params body scope clos doc ((mg "__name__").getD .none) c' ctv) :: (cx, ox) :: gf (tabObj #[rawInt pos.line, rawInt pos.col, .ref c'])) →
      (∀ h'' : Heap, h''.get? cx = some ox → g.StaysIn h'' → h''.CodeRec (.ref c') qual) → c' ≠ P → (∀ q ∈ news, q.1 ≠ cx) → (∀ q ∈ news, q.1 ≠ f) → Q (.ref f) { s with heap := h', toks := tk }) :
    wpAny M A (makeFunction name qual params (.stmts body) scope (envX cn cs L a ccd cl) [] [] [] pos firstLine) Q E s := by
  have hm : (P, tabObj ps) ∈ news := by
    obtain ⟨own, rest, e, _⟩ := U.split
    rw [e]; exact List.mem_append_right _ (.head _)
  rcases stt with rfl | ⟨cc, rfl, code, hcc⟩
  · refine nest_K F N T C hcd U trivial rfl hcl ?_
    intro f c' oc vs t ctv doc h' tk F' N' dv rv lt1 lt2
    refine h f c' c' oc ctv doc h' tk F' N' (fun h'' e _ => ⟨c', oc, vs, t, rfl, e, dv, rv⟩) (Nat.ne_of_gt (lt1 _ hm)) (fun q hq => Nat.ne_of_lt (lt1 q hq)) (fun q hq => Nat.ne_of_lt (Nat.lt_trans (lt1 q hq) lt2))
  · refine nestHit_K (c' := cc) F N T C hcd hm (by simp [TriplesOk, rawInt]) (by simp [codeAmong, rawInt]) hcl ?_
    intro f ctv doc h' tk F' N' lt
    have e : gf (tabObj #[rawInt pos.line, rawInt pos.col, .ref cc]) = news := by
      obtain ⟨own, rest, e1, e2, _⟩ := U.split
      rw [e2, e1]
    refine h f cc f (fnMade name qual params body scope clos doc ((mg "__name__").getD .none) cc ctv) ctv doc h' tk F' ?_ (fun h'' _ k => code.at fun o e => k _ _ e) hcc (fun q hq => Nat.ne_of_lt (lt q hq)) (fun q hq => Nat.ne_of_lt (lt q hq))
    rw [e]
    intro q hq
    rcases List.mem_cons.mp hq with rfl | hq
    · exact N' _ (.head _)
    · exact N' q hq
end
end Mine
end

section
open PySem PySem.W PyProof.Rows PySem.Spec PySem.Calls PySem.W.X
set_option maxRecDepth 100000
set_option maxHeartbeats 8000000
namespace Mine
theorem t_offL1 : True := by
  w_top off
  trivial
section
variable {w : World} {p : Program} {loose : List Str} {mean : ExcName → Option Value} {mg mb : Str → Option Value} {H : Heap} {s : Shared} {A : Around} {Q E : Value → Shared → Prop}
noncomputable abbrev enumObj (it : Addr) (i : Int) (old : Value) : Obj := { cls := .type "enumerate", dict := none, data := .fields #[.none, .bool false, .ref it, rawInt i, .none, old], slots := #[] }
noncomputable abbrev tupIt (t : Addr) (i : Int) : Obj := { cls := .type "tuple_iterator", dict := none, data := .fields #[.ref t, .int i 0], slots := #[] }
/-- what making the enumerate hands on -/
noncomputable def RetEn (s : Shared) (Q : Value → Shared → Prop) (T : Addr) : Prop := ∀ e it h' tk, it < e → (∀ b o, s.heap.get? b = some o → h'.get? b = some o) → s.heap.get? it = none → s.heap.get? e = none → h'.get? e = some (enumObj it 0 .none) → h'.get? it = some (tupIt T 0) → Q (.ref e) { s with heap := h', toks := tk }
theorem retEn_mem {T e it : Addr} {h : Heap} {tk : Nat} (R : RetEn s Q T) (D : Mem s.heap h [] [(e, enumObj it 0 .none), (it, tupIt T 0)]) : Q (.ref e) ⟨h, s.gens, s.drawn, tk, s.os⟩ :=
  R e it h tk ((List.pairwise_cons.mp D.ord).1 it (.head _)) (fun b o q => D.keep b o q (by simp [away])) (D.nw _ (.tail _ (.head _))).2 (D.nw _ (.head _)).2 (D.nw _ (.head _)).1 (D.nw _ (.tail _ (.head _))).1
local macro_rules | `(tactic| x_close) => `(tactic| exact retEn_mem (by assumption) (by assumption))
theorem c_enum (W : Wd w p loose mean mg mb H) (hs : H.StaysIn s.heap) (ok : Ok 1 A) (hret : RetEn s Q 70) :
    wpAny (model P0 w) A (call (.type "enumerate") [.ref 70]) Q E s := by
  refine wp_weaken ok ?_
  clear ok
  have KX : (hd.heap_39 w.params).In s.heap := W.X.keeps hs
  x_run

theorem next_tup {it T : Addr} {i : Nat} {items : Array Value} {x : Value} {QV : Value → Shared → Prop} {EV : Value → Shared → Prop} (hit : s.heap.get? it = some (tupIt T i)) (ht : s.heap.IsTuple T items) (hx : items[i]? = some x)
    (k : ∀ h', h'.get? it = some (tupIt T (i + 1)) → Heap.SameBut it s.heap h' → QV x { s with heap := h' }) :
    wpAny (model P0 w) A (Builtin.SmallTypes.nextOf (.ref it)) QV EV s := by
  have hT : s.TypeIs (.ref it) "tuple_iterator" := ⟨_, hit, rfl⟩
  obtain ⟨oT, hoT, _, nT, hdT⟩ := ht
  unfold Builtin.SmallTypes.nextOf
  refine wpAny_bind (wpAny_callSpecial?_slot (name := Str.ofString "__next__") hT F.slot_tuple_iterator_next (wpAny_call_entry F.slot_tuple_iterator_next hT F.entry_tuple_iterator_next ?_ (F.args_tuple_iterator_next_1 _)))
  show wpAny _ _ (field (.ref it) 0 >>= _) _ _ s
  refine wpAny_bind (wpAny_field hit rfl (x := .ref T) rfl ?_)
  show wpAny _ _ (if (Value.ref T == Value.none) = true then _ else _) _ _ s
  rw [if_neg (show ¬ ((Value.ref T == Value.none) = true) from Bool.false_ne_true)]
  show wpAny _ _ (field (.ref it) 1 >>= _) _ _ s
  refine wpAny_bind (wpAny_field hit rfl (x := .int i 0) rfl ?_)
  show wpAny _ _ (seqItems? (.ref T) >>= _) _ _ s
  refine wpAny_bind (wpAny_seqItems hoT hdT ?_)
  simp only [Int.toNat_natCast, hx]
  refine wpAny_bind (wpAny_setField_rec hit (by simp) fun h' e1 e2 => ?_)
  exact wpAny_pure ⟨x, rfl, wpAny_pure (k h' e1 e2)⟩

theorem next_tup_end {it T : Addr} {i : Nat} {items : Array Value} {QV : Value → Shared → Prop} {EV : Value → Shared → Prop} (hh : A.handled = none) (hit : s.heap.get? it = some (tupIt T i)) (ht : s.heap.IsTuple T items) (hx : items[i]? = none)
    (k : ∀ h' e, Heap.ExtBut it s.heap h' → (∃ o, h'.get? e = some o ∧ o.cls = .type "StopIteration") → EV (.ref e) { s with heap := h' }) :
    wpAny (model P0 w) A (Builtin.SmallTypes.nextOf (.ref it)) QV EV s := by
  have hT : s.TypeIs (.ref it) "tuple_iterator" := ⟨_, hit, rfl⟩
  obtain ⟨oT, hoT, _, nT, hdT⟩ := ht
  unfold Builtin.SmallTypes.nextOf
  refine wpAny_bind (wpAny_callSpecial?_slot (name := Str.ofString "__next__") hT F.slot_tuple_iterator_next (wpAny_call_entry F.slot_tuple_iterator_next hT F.entry_tuple_iterator_next ?_ (F.args_tuple_iterator_next_1 _)))
  show wpAny _ _ (field (.ref it) 0 >>= _) _ _ s
  refine wpAny_bind (wpAny_field hit rfl (x := .ref T) rfl ?_)
  show wpAny _ _ (if (Value.ref T == Value.none) = true then _ else _) _ _ s
  rw [if_neg (show ¬ ((Value.ref T == Value.none) = true) from Bool.false_ne_true)]
  show wpAny _ _ (field (.ref it) 1 >>= _) _ _ s
  refine wpAny_bind (wpAny_field hit rfl (x := .int i 0) rfl ?_)
  show wpAny _ _ (seqItems? (.ref T) >>= _) _ _ s
  refine wpAny_bind (wpAny_seqItems hoT hdT ?_)
  simp only [Int.toNat_natCast, hx]
  refine wpAny_bind (wpAny_rule (wpAny_bind (wpAny_setField hit rfl (by simp) ?_)))
  refine wpAny_bind (m := newExc (.type "StopIteration") []) ?_
  unfold newExc newTuple
  refine wpAny_bind (wpAny_newObj_type (wpAny_bind (m := firstArgMember _ _) (wpAny_of_eq (a := Value.none) (by first | rfl | (simp only [firstArgMember]; rfl)) (wpAny_newObj_type (wpAny_raiseNew_none hh ?_) (by size_fits)))) (by size_fits))
  exact k _ _ (((Heap.SameBut.update ..).extBut.push _).push _) ⟨_, Heap.get?_push_size _ rfl, rfl⟩

theorem enum_end {e it T : Addr} {i : Nat} {items : Array Value} {old : Value} {QO : Option Value → Shared → Prop} {EV : Value → Shared → Prop} (hh : A.handled = none) (he : s.heap.get? e = some (enumObj it i old)) (hit : s.heap.get? it = some (tupIt T i)) (ht : s.heap.IsTuple T items) (hx : items[i]? = none)
    (k : ∀ h', Heap.ExtBut it s.heap h' → QO none { s with heap := h' }) : wpAny (model P0 w) A (pyNext (.ref e)) QO EV s := by
  have hT : s.TypeIs (.ref e) "enumerate" := ⟨_, he, rfl⟩
  unfold pyNext
  refine wpAny_bind (wpAny_attempt (wpAny_callSpecial?_slot (name := Str.ofString "__next__") hT F.slot_enumerate_next (wpAny_call_entry F.slot_enumerate_next hT F.entry_enumerate_next ?_ (F.args_enumerate_next_1 _))))
  show wpAny _ _ (field (.ref e) 2 >>= _) _ _ _
  refine wpAny_bind (wpAny_field he rfl (x := .ref it) rfl ?_)
  refine wpAny_bind (next_tup_end hh hit ht hx fun h' x he' hx' => ?_)
  obtain ⟨o, ho, hc⟩ := hx'
  refine wpAny_bind (wpAny_isInstance (T := "StopIteration") (b := true) ⟨o, ho, hc⟩ isSubtype_stop ?_)
  exact wpAny_pure (k _ he')

theorem enum_item {e it T : Addr} {i : Nat} {items : Array Value} {x old : Value} {QO : Option Value → Shared → Prop} {EV : Value → Shared → Prop} (he : s.heap.get? e = some (enumObj it i old)) (hit : s.heap.get? it = some (tupIt T i)) (ht : s.heap.IsTuple T items) (hx : items[i]? = some x) (hne : e ≠ it)
    (k : ∀ a h', IsEnumOut h' e it ((i : Int) + 1) x a → h'.get? it = some (tupIt T (i + 1)) → s.heap.get? a = none → h'.get? a = some { cls := .type "tuple", data := .seq #[.int i s.toks, x] } →
      (∀ b o, b ≠ e → b ≠ it → s.heap.get? b = some o → h'.get? b = some o) → QO (some (.ref a)) { s with heap := h', toks := s.toks + 1 }) : wpAny (model P0 w) A (pyNext (.ref e)) QO EV s := by
  have hT : s.TypeIs (.ref e) "enumerate" := ⟨_, he, rfl⟩
  unfold pyNext
  refine wpAny_bind (wpAny_attempt (wpAny_callSpecial?_slot (name := Str.ofString "__next__") hT F.slot_enumerate_next (wpAny_call_entry F.slot_enumerate_next hT F.entry_enumerate_next ?_ (F.args_enumerate_next_1 _))))
  obtain ⟨hp, gn, d, tk, os⟩ := s
  show wpAny _ _ (field (.ref e) 2 >>= _) _ _ _
  refine wpAny_bind (wpAny_field he rfl (x := .ref it) rfl ?_)
  refine wpAny_bind (next_tup hit ht hx fun h₁ hit₁ hs₁ => ?_)
  replace hs₁ : Heap.SameBut it hp h₁ := hs₁
  have he₁ : h₁.get? e = some (enumObj it i old) := (hs₁.2 e hne).trans he
  show wpAny _ _ (field (.ref e) 3 >>= _) _ _ ⟨h₁, gn, d, tk, os⟩
  refine wpAny_bind (wpAny_field he₁ rfl (x := rawInt i) rfl ?_)
  show wpAny _ _ (field (.ref e) 4 >>= _) _ _ ⟨h₁, gn, d, tk, os⟩
  refine wpAny_bind (wpAny_field he₁ rfl (x := .none) rfl ?_)
  show wpAny _ _ (mkInt i >>= _) _ _ ⟨h₁, gn, d, tk, os⟩
  refine wpAny_bind (wpAny_mkInt ?_)
  show wpAny _ _ (setField (.ref e) 3 (rawInt ((i : Int) + 1)) >>= _) _ _ ⟨h₁, gn, d, tk + 1, os⟩
  refine wpAny_bind (wpAny_setField_rec he₁ (by simp) fun h₂ he₂ hs₂ => ?_)
  replace hs₂ : Heap.SameBut e h₁ h₂ := hs₂
  replace he₂ : h₂.get? e = some (enumObj it ((i : Int) + 1) old) := he₂
  show wpAny _ _ (setField (.ref e) 4 .none >>= _) _ _ ⟨h₂, gn, d, tk + 1, os⟩
  refine wpAny_bind (wpAny_setField_rec he₂ (by simp) fun h₃ he₃ hs₃ => ?_)
  replace hs₃ : Heap.SameBut e h₂ h₃ := hs₃
  replace he₃ : h₃.get? e = some (enumObj it ((i : Int) + 1) old) := he₃
  show wpAny _ _ (newTuple [.int i tk, x] >>= _) _ _ ⟨h₃, gn, d, tk + 1, os⟩
  refine wpAny_bind (wpAny_newTuple ?_)
  have keep₃ : ∀ b o, b ≠ e → b ≠ it → hp.get? b = some o → h₃.get? b = some o := fun b o hbe hbi hb => hs₃.extBut b o hbe (hs₂.extBut b o hbe (hs₁.extBut b o hbi hb))
  have it₃ : h₃.get? it = some (tupIt T (i + 1)) := hs₃.extBut _ _ (Ne.symm hne) (hs₂.extBut _ _ (Ne.symm hne) hit₁)
  have hsz : h₃.objs.size = hp.objs.size := by rw [hs₃.1, hs₂.1, hs₁.1]
  have hel : e < h₃.objs.size := Heap.lt_size he₃
  have fresh : hp.get? h₃.objs.size = none := Heap.get?_none_of_le (by rw [hsz]; exact Nat.le_refl _)
  generalize ha : h₃.objs.size = a at fresh hel
  have tup : (h₃.push { cls := .type "tuple", data := .seq #[.int i tk, x] }).get? a = some { cls := .type "tuple", data := .seq #[.int i tk, x] } := by rw [← ha]; exact Heap.get?_push_size _ rfl
  have he₄ : (h₃.push { cls := .type "tuple", data := .seq #[.int i tk, x] }).get? e = some (enumObj it ((i : Int) + 1) old) := Heap.get?_push_of_some _ he₃
  have it₄ : (h₃.push { cls := .type "tuple", data := .seq #[.int i tk, x] }).get? it = some (tupIt T (i + 1)) := Heap.get?_push_of_some _ it₃
  have keep₄ : ∀ b o, b ≠ e → b ≠ it → hp.get? b = some o → (h₃.push { cls := .type "tuple", data := .seq #[.int i tk, x] }).get? b = some o := fun b o h1 h2 h3 => Heap.get?_push_of_some _ (keep₃ b o h1 h2 h3)
  generalize (h₃.push { cls := .type "tuple", data := .seq #[.int i tk, x] }) = h₄ at tup he₄ it₄ keep₄
  show wpAny _ _ (Builtin.SmallTypes.ownedTupleIsFree (.ref e) >>= _) _ _ ⟨h₄, gn, d, tk + 1, os⟩
  refine wpAny_bind ?_
  unfold Builtin.SmallTypes.ownedTupleIsFree
  refine wpAny_bind (wpAny_field he₄ rfl (x := .none) rfl (wpAny_pure ?_))
  simp only [if_true]
  refine wpAny_bind (wpAny_rule ?_)
  refine wpAny_bind (wpAny_field he₄ rfl (x := old) rfl ?_)
  refine wpAny_bind (wpAny_setField_rec he₄ (by simp) fun h₅ he₅ hs₅ => ?_)
  replace hs₅ : Heap.SameBut e h₄ h₅ := hs₅
  replace he₅ : h₅.get? e = some (enumObj it ((i : Int) + 1) x) := he₅
  show wpAny _ _ (Builtin.SmallTypes.ownedTupleHandOut (.ref e) (.ref a) >>= _) _ _ ⟨h₅, gn, d, tk + 1, os⟩
  refine wpAny_bind ?_
  unfold Builtin.SmallTypes.ownedTupleHandOut
  refine wpAny_bind (wpAny_setField_rec he₅ (by simp) fun h₆ he₆ hs₆ => ?_)
  replace hs₆ : Heap.SameBut e h₅ h₆ := hs₆
  replace he₆ : IsEnumOut h₆ e it ((i : Int) + 1) x a := he₆
  refine wpAny_setField_rec he₆ (by simp) fun h₇ he₇ hs₇ => ?_
  replace hs₇ : Heap.SameBut e h₆ h₇ := hs₇
  replace he₇ : IsEnumOut h₇ e it ((i : Int) + 1) x a := he₇
  have up : ∀ b o, b ≠ e → h₄.get? b = some o → h₇.get? b = some o := fun b o hb q => hs₇.extBut b o hb (hs₆.extBut b o hb (hs₅.extBut b o hb q))
  refine wpAny_bind (wpAny_letGo (wpAny_pure ⟨_, rfl, wpAny_pure (k a h₇ he₇ (up _ _ (Ne.symm hne) it₄) fresh (up _ _ (Nat.ne_of_gt hel) tup) fun b o h1 h2 h3 => up b o h1 (keep₄ b o h1 h2 h3))⟩))

theorem tup_item {it T : Addr} {i : Nat} {items : Array Value} {x : Value} {QO : Option Value → Shared → Prop} {EV : Value → Shared → Prop} (hit : s.heap.get? it = some (tupIt T i)) (ht : s.heap.IsTuple T items) (hx : items[i]? = some x)
    (k : ∀ h', h'.get? it = some (tupIt T (i + 1)) → Heap.SameBut it s.heap h' → QO (some x) { s with heap := h' }) : wpAny (model P0 w) A (pyNext (.ref it)) QO EV s := by
  have hT : s.TypeIs (.ref it) "tuple_iterator" := ⟨_, hit, rfl⟩
  obtain ⟨oT, hoT, _, nT, hdT⟩ := ht
  unfold pyNext
  refine wpAny_bind (wpAny_attempt (wpAny_callSpecial?_slot (name := Str.ofString "__next__") hT F.slot_tuple_iterator_next (wpAny_call_entry F.slot_tuple_iterator_next hT F.entry_tuple_iterator_next ?_ (F.args_tuple_iterator_next_1 _))))
  show wpAny _ _ (field (.ref it) 0 >>= _) _ _ s
  refine wpAny_bind (wpAny_field hit rfl (x := .ref T) rfl ?_)
  show wpAny _ _ (if (Value.ref T == Value.none) = true then _ else _) _ _ s
  rw [if_neg (show ¬ ((Value.ref T == Value.none) = true) from Bool.false_ne_true)]
  show wpAny _ _ (field (.ref it) 1 >>= _) _ _ s
  refine wpAny_bind (wpAny_field hit rfl (x := .int i 0) rfl ?_)
  show wpAny _ _ (seqItems? (.ref T) >>= _) _ _ s
  refine wpAny_bind (wpAny_seqItems hoT hdT ?_)
  simp only [Int.toNat_natCast, hx]
  refine wpAny_bind (wpAny_setField_rec hit (by simp) fun h' e1 e2 => ?_)
  exact wpAny_pure ⟨x, rfl, wpAny_pure (k h' e1 e2)⟩
theorem tup_end {it T : Addr} {i : Nat} {items : Array Value} {QO : Option Value → Shared → Prop} {EV : Value → Shared → Prop} (hh : A.handled = none) (hit : s.heap.get? it = some (tupIt T i)) (ht : s.heap.IsTuple T items) (hx : items[i]? = none)
    (k : ∀ h', Heap.ExtBut it s.heap h' → QO none { s with heap := h' }) : wpAny (model P0 w) A (pyNext (.ref it)) QO EV s :=
  wpAny_pyNext_tuple_end hh ⟨_, hit, rfl, rfl⟩ ht hx k
theorem letGo_tup {it T v : Addr} {i : Int} {elts : List Expr} {k : Nat} {pos : Pos} {QU : Unit → Shared → Prop} {EV : Value → Shared → Prop} (hit : s.heap.get? it = some (tupIt T i)) (h : QU () s) :
    wpAny (model P0 w) A (letOwnedTupleGo (.Tuple elts k pos) (.ref it) (.ref v)) QU EV s := by
  unfold letOwnedTupleGo
  refine wpAny_bind (wpAny_load hit ?_)
  show wpAny _ A (if (["enumerate", "zip", "dict_itemiterator", "dict_reverseitemiterator", "odict_iterator", "itertools.zip_longest", "itertools.pairwise"].contains "tuple_iterator" && _) = true then _ else _) _ _ _
  rw [if_neg (by simp)]
  exact wpAny_pure h
end
end Mine
end
theorem Mine.t_resetP1 : True := by
  first | (walk1; fail "no") | trivial

section
open PySem PySem.W PyProof.Rows
local macro_rules | `(tactic| k_ne) => `(tactic| exact Mine.ne_of (by assumption))

section
open PySem PySem.W PyProof.Rows PySem.Spec PySem.Calls
set_option maxRecDepth 100000
set_option maxHeartbeats 8000000
namespace Mine
theorem t_offP1 : True := by
  w_top off
  trivial
theorem t_fill : PySem.Challenge.rw_op0074_01 = PySem.Challenge.rw_op0074_01 ∧ hd.heap_39 = hd.heap_39 := by
  k_fill
  exact ⟨rfl, rfl⟩
section
variable {w : World} {p : Program} {loose : List Str} {mean : ExcName → Option Value} {mg mb : Str → Option Value} {H : Heap} {s : Shared} {A : Around} {Q E : Value → Shared → Prop}

noncomputable def wgt (x : Int) : Int := (List.foldl (fun (σ : Int × Unit) k => if (Int.fmod k 3 == 2) = true then ((σ.1 * 2 + Int.fmod (Int.fdiv x (2 ^ Int.toNat (8 - k))) 2) * 2 + Int.fmod (Int.fdiv x (2 ^ Int.toNat (11 - Int.fdiv k 3))) 2, ()) else (σ.1 * 2 + Int.fmod (Int.fdiv x (2 ^ Int.toNat (8 - k))) 2, ())) (0, ()) (rangeInts 0 1 (Int.toNat (9 - 0)))).1

theorem c_weight (W : Wd w p loose mean mg mb H) (hs : H.StaysIn s.heap) (ok : Ok 1 A) (x : Int) (t : Tok)
    (hret : ∀ u h' tk, Kp [] s.heap h' → Q (.int (wgt x) u) { s with heap := h', toks := tk }) :
    wpAny (model P0 w) A (call (.ref 115) [.int x t]) Q E s := by
  refine wp_weaken ok ?_
  clear ok
  refine wpAny_call ?_
  (k_dflt (refine' enterK (by assumption) (by assumption) [] [] ?hX ?hN (ok_AL (by decide)).room ?ho ?hcd ?hbind ?hloc ?_ ?hcell ?a ?b ?c; (case hX => exact fun _ h => nomatch h); (case hN => exact fun _ h => nomatch h); (case ho => k_is); (case hcd => k_is); (case hbind => exact BindsTo.of_eq rfl); (case hloc => exact locs rfl); (case hcell => decide); (case a => rfl); (case b => rfl); (case c => rfl); k_whole; intro g' L' h' hg' hL' F' N' X' T' st' hk'; (try dsimp only); (try k_fold)))
  k_steps
  exact hret _ _ _ (kp_fr (by assumption) (by assumption))

theorem c_ifmt (W : Wd w p loose mean mg mb H) (hs : H.StaysIn s.heap) (ok : Ok 1 A) (x : Int) (t : Tok)
    (hret : ∀ u h' tk, Kp [] s.heap h' → Q (.int (Builtin.bitAnd x 61440) u) { s with heap := h', toks := tk }) :
    wpAny (model P0 w) A (call (.ref 37) [.int x t]) Q E s := by
  refine wp_weaken ok ?_
  clear ok
  refine wpAny_call ?_
  (k_dflt (refine' enterK (by assumption) (by assumption) [] [] ?hX ?hN (ok_AL (by decide)).room ?ho ?hcd ?hbind ?hloc ?_ ?hcell ?a ?b ?c; (case hX => exact fun _ h => nomatch h); (case hN => exact fun _ h => nomatch h); (case ho => k_is); (case hcd => k_is); (case hbind => exact BindsTo.of_eq rfl); (case hloc => exact locs rfl); (case hcell => decide); (case a => rfl); (case b => rfl); (case c => rfl); k_whole; intro g' L' h' hg' hL' F' N' X' T' st' hk'; (try dsimp only); (try k_fold)))
  k_steps
  exact hret _ _ _ (kp_fr (by assumption) (by assumption))

theorem k_ifmt {g : Heap} {L : Addr} {m : Str → Option Value} {news : List (Addr × Obj)} (F : Fr g L s.heap m) (N : News g L s.heap news) (W : Wd w p loose mean mg mb H) (st : H.StaysIn g) (ok : Ok 1 A) (x : Int) (t : Tok)
    (k : ∀ u h' tk, Fr g L h' m → News g L h' news → Q (.int (Builtin.bitAnd x 61440) u) { s with heap := h', toks := tk }) : wpAny (model P0 w) A (call (.ref 37) [.int x t]) Q E s :=
  c_ifmt W (fun b o e => F.keep b o (st b o e)) ok x t fun u h' tk kp => k u h' tk (fr_keep F kp) (news_keep N kp)
noncomputable def apart (x y : Int) : Int := List.sum (List.foldl (fun l' k' => if ¬Int.fmod (Int.fdiv x (2 ^ Int.toNat k')) 2 = Int.fmod (Int.fdiv y (2 ^ Int.toNat k')) 2 then l' ++ [2 ^ Int.toNat k'] else l') [] (rangeKs 0 (Int.toNat (12 - 0))))
theorem c_apart (W : Wd w p loose mean mg mb H) (hs : H.StaysIn s.heap) (ok : Ok 1 A) (x y : Int) (t t' : Tok)
    (hret : ∀ u h' tk, Kp [] s.heap h' → Q (.int (apart x y) u) { s with heap := h', toks := tk }) :
    wpAny (model P0 w) A (call (.ref 120) [.int x t, .int y t']) Q E s := by
  refine wp_weaken ok ?_
  clear ok
  refine wpAny_call ?_
  (k_dflt (refine' enterKC (by assumption) (by assumption) [] [] ?hX ?hN (ok_AL (by decide)).room ?ho ?hcd ?hbind ?hkind ?hnd ?_ ?a ?b ?c; (case hX => exact fun _ h => nomatch h); (case hN => exact fun _ h => nomatch h); (case ho => k_is); (case hcd => k_is); (case hbind => exact BindsTo.of_eq rfl); (case hkind => exact rfl); (case hnd => decide +kernel); (case a => rfl); (case b => rfl); (case c => rfl); k_whole; intro g' L' h' tk' cells' hg' hL' F' N' Y' X' T' st' hk' _; k_cells Y'; (try simp only [List.cons_append, List.nil_append, List.append_nil] at N'); (try dsimp only); (try k_fold)))
  iterate 8 first | walk1 | (dsimp only; walk1) | (k_unfold; (try dsimp only))
  rename (_ ≠ _ ∧ _ ≠ _ ∧ _ ≠ _) ∧ _ => off12
  rename _ ≠ _ ∧ _ ≠ _ ∧ _ ≠ _ => off3
  have o1 := off_of off12.1.1
  have o2 := off_of off12.1.2.1
  have o3 := off_of off12.1.2.2
  have o4 := off_of off12.2.1
  have o5 := off_of off12.2.2.1
  have o6 := off_of off12.2.2.2
  have o7 := off_of off3.1
  have o8 := off_of off3.2.1
  have o9 := off_of off3.2.2
  clear off3 off12
  k_steps
  exact hret _ _ _ (kp_fr (by assumption) (by assumption))
end
end Mine
end

section
open PySem PySem.W PyProof.Rows PySem.Spec PySem.Calls PySem.W.X
set_option maxRecDepth 100000
set_option maxHeartbeats 8000000
namespace Mine
section
variable {w : World} {p : Program} {loose : List Str} {mean : ExcName → Option Value} {mg mb : Str → Option Value} {H : Heap} {s : Shared} {A : Around} {Q E : Value → Shared → Prop}

theorem kp_mem {h h' : Heap} {news : List (Addr × Obj)} (D : Mem h h' [] news) : Kp [] h h' := fun b o e _ => D.keep b o e (by simp [away])

/-- what a text-valued call hands on -/
noncomputable def RetS (s : Shared) (Q : Value → Shared → Prop) (x : Str) : Prop := ∀ u h' tk, Kp [] s.heap h' → Q (.str x u) { s with heap := h', toks := tk }
/-- a sign as it is written -/
noncomputable def wr (x : Str) : Str := if x = Str.ofString "-" then Str.ofString "-}" else Str.ofString "-" ++ x ++ Str.ofString "}"
noncomputable def signs : List Str := [Str.ofString "-", Str.ofString "r", Str.ofString "w", Str.ofString "x", Str.ofString "s", Str.ofString "S", Str.ofString "t", Str.ofString "T"]
theorem rep_len : ∀ x ∈ signs, (Txt.replace x (Str.ofString "-") (Str.ofString "")).length ≤ 1 := by decide +kernel
theorem rep_wr : ∀ x ∈ signs, Str.ofString "-" ++ Txt.replace x (Str.ofString "-") (Str.ofString "") ++ Str.ofString "}" = wr x := by decide +kernel
theorem sign_len : ∀ x ∈ signs, x.length ≤ 1 := by decide +kernel
theorem c_written (W : Wd w p loose mean mg mb H) (hs : H.StaysIn s.heap) (ok : Ok 1 A) (x : Str) (t : Tok) (hx : x ∈ signs) (hret : RetS s Q (wr x)) :
    wpAny (model P0 w) A (call (.ref 84) [.str x t]) Q E s := by
  refine wp_weaken ok ?_
  clear ok
  have l1 := sign_len x hx
  have l2 := rep_len x hx
  rw [← rep_wr x hx] at hret
  refine wpAny_call ?_
  k_dflt (refine' enterK (binds := [(Str.ofString "sign", .str x t)]) W hs [] [] ?hX ?hN (ok_AL (by decide)).room ?ho ?hcd ?hbind ?hloc ?_ ?hcell ?a ?b ?c; (case hX => exact fun _ h => nomatch h); (case hN => exact fun _ h => nomatch h); (case ho => k_is); (case hcd => k_is); (case hbind => exact BindsTo.of_eq rfl); (case hloc => exact locs rfl); (case hcell => decide); (case a => rfl); (case b => rfl); (case c => rfl); k_whole; intro g L h₁ hg hL F0 N0 X T st hk; (try dsimp only); (try k_fold))
  k_steps
  exact hret _ _ _ (kp_fr hg F0)
end
end Mine
end

section
open PySem PySem.W PyProof.Rows PySem.Spec PySem.Calls PySem.W.X
set_option maxRecDepth 100000
set_option maxHeartbeats 8000000
namespace Mine
noncomputable abbrev fmM (mode perm idx tab bit chr : Option Value) : Str → Option Value := fun y =>
  if y = Str.ofString "char" then chr else if y = Str.ofString "bit" then bit else if y = Str.ofString "table" then tab else if y = Str.ofString "index" then idx else if y = Str.ofString "perm" then perm else if y = Str.ofString "mode" then mode else none
noncomputable def fmTabs : List (List (Int × Str)) :=
  [[(40960, Str.ofString "l"), (49152, Str.ofString "s"), (32768, Str.ofString "-"), (24576, Str.ofString "b"), (16384, Str.ofString "d"), (8192, Str.ofString "c"), (4096, Str.ofString "p")],
   [(256, Str.ofString "r")], [(128, Str.ofString "w")], [(2112, Str.ofString "s"), (2048, Str.ofString "S"), (64, Str.ofString "x")],
   [(32, Str.ofString "r")], [(16, Str.ofString "w")], [(1032, Str.ofString "s"), (1024, Str.ofString "S"), (8, Str.ofString "x")],
   [(4, Str.ofString "r")], [(2, Str.ofString "w")], [(513, Str.ofString "t"), (512, Str.ofString "T"), (1, Str.ofString "x")]]
noncomputable def fmAddr : List Addr := [45, 47, 49, 53, 55, 57, 61, 63, 65, 69]
noncomputable def pick (f : Int → Bool) (d : Str) : List (Int × Str) → Str
  | [] => d
  | q :: r => if f q.1 = true then q.2 else pick f d r
noncomputable def PairsAt (h : Heap) : List Addr → List (Int × Str) → Prop
  | [], [] => True
  | a :: as, q :: ps => (∃ tb tc, h.IsTuple a #[.int q.1 tb, .str q.2 tc]) ∧ PairsAt h as ps
  | _, _ => False
theorem pairs_len {h : Heap} : ∀ {as : List Addr} {ps : List (Int × Str)}, PairsAt h as ps → as.length = ps.length
  | [], [], _ => rfl
  | _ :: _, _ :: _, x => by rw [List.length_cons, List.length_cons, pairs_len x.2]
  | [], _ :: _, x => x.elim
  | _ :: _, [], x => x.elim
theorem pairs_get {h : Heap} : ∀ {as : List Addr} {ps : List (Int × Str)}, PairsAt h as ps → ∀ {j : Nat}, j < as.length → ∃ a q tb tc, as[j]? = some a ∧ ps[j]? = some q ∧ h.IsTuple a #[.int q.1 tb, .str q.2 tc]
  | [], _, _, _, hj => absurd hj (Nat.not_lt_zero _)
  | a :: as, [], x, _, _ => x.elim
  | a :: as, q :: ps, x, 0, _ => let ⟨tb, tc, y⟩ := x.1; ⟨a, q, tb, tc, rfl, rfl, y⟩
  | a :: as, q :: ps, x, j + 1, hj => by
    obtain ⟨a', q', tb, tc, e1, e2, y⟩ := pairs_get x.2 (j := j) (by simpa using hj)
    exact ⟨a', q', tb, tc, by simpa using e1, by simpa using e2, y⟩
theorem pick_drop {f : Int → Bool} {d : Str} : ∀ {ps : List (Int × Str)} {j : Nat} {q : Int × Str}, ps[j]? = some q → pick f d (ps.drop j) = if f q.1 = true then q.2 else pick f d (ps.drop (j + 1))
  | [], _, _, e => by simp at e
  | x :: ps, 0, q, e => by
    simp at e
    subst e
    rfl
  | x :: ps, j + 1, q, e => by
    have := pick_drop (f := f) (d := d) (ps := ps) (j := j) (q := q) (by simpa using e)
    simpa using this
section
variable {w : World} {p : Program} {loose : List Str} {mean : ExcName → Option Value} {mg mb : Str → Option Value} {H : Heap} {s : Shared} {A : Around} {Q E : Value → Shared → Prop}
theorem tup_of {g : Heap} {T : Addr} {items : Array Value} {n : Nat} {dc : Option Addr} {sl : Array (Option Value)} (X : (hd.heap_39 w.params).In g) (e : (hd.heap_39 w.params).lookup T = some ⟨.type "tuple", dc, .seq items n, sl⟩) : g.IsTuple T items := ⟨_, X _ _ e, rfl, n, rfl⟩
theorem fm_tabs {g : Heap} (X : (hd.heap_39 w.params).In g) {i : Nat} {ps : List (Int × Str)} (hi : fmTabs[i]? = some ps) : ∃ T refs, fmAddr[i]? = some T ∧ g.IsTuple T (refs.map Value.ref).toArray ∧ PairsAt g refs ps := by
  rcases i with _ | _ | _ | _ | _ | _ | _ | _ | _ | _ | i <;> cases hi
  · exact ⟨45, [38, 39, 40, 41, 42, 43, 44], rfl, tup_of X (by k_dflt k_is), ⟨⟨_, _, tup_of X (by k_dflt k_is)⟩, ⟨_, _, tup_of X (by k_dflt k_is)⟩, ⟨_, _, tup_of X (by k_dflt k_is)⟩, ⟨_, _, tup_of X (by k_dflt k_is)⟩, ⟨_, _, tup_of X (by k_dflt k_is)⟩, ⟨_, _, tup_of X (by k_dflt k_is)⟩, ⟨_, _, tup_of X (by k_dflt k_is)⟩, trivial⟩⟩
  · exact ⟨47, [46], rfl, tup_of X (by k_dflt k_is), ⟨⟨_, _, tup_of X (by k_dflt k_is)⟩, trivial⟩⟩
  · exact ⟨49, [48], rfl, tup_of X (by k_dflt k_is), ⟨⟨_, _, tup_of X (by k_dflt k_is)⟩, trivial⟩⟩
  · exact ⟨53, [50, 51, 52], rfl, tup_of X (by k_dflt k_is), ⟨⟨_, _, tup_of X (by k_dflt k_is)⟩, ⟨_, _, tup_of X (by k_dflt k_is)⟩, ⟨_, _, tup_of X (by k_dflt k_is)⟩, trivial⟩⟩
  · exact ⟨55, [54], rfl, tup_of X (by k_dflt k_is), ⟨⟨_, _, tup_of X (by k_dflt k_is)⟩, trivial⟩⟩
  · exact ⟨57, [56], rfl, tup_of X (by k_dflt k_is), ⟨⟨_, _, tup_of X (by k_dflt k_is)⟩, trivial⟩⟩
  · exact ⟨61, [58, 59, 60], rfl, tup_of X (by k_dflt k_is), ⟨⟨_, _, tup_of X (by k_dflt k_is)⟩, ⟨_, _, tup_of X (by k_dflt k_is)⟩, ⟨_, _, tup_of X (by k_dflt k_is)⟩, trivial⟩⟩
  · exact ⟨63, [62], rfl, tup_of X (by k_dflt k_is), ⟨⟨_, _, tup_of X (by k_dflt k_is)⟩, trivial⟩⟩
  · exact ⟨65, [64], rfl, tup_of X (by k_dflt k_is), ⟨⟨_, _, tup_of X (by k_dflt k_is)⟩, trivial⟩⟩
  · exact ⟨69, [66, 67, 68], rfl, tup_of X (by k_dflt k_is), ⟨⟨_, _, tup_of X (by k_dflt k_is)⟩, ⟨_, _, tup_of X (by k_dflt k_is)⟩, ⟨_, _, tup_of X (by k_dflt k_is)⟩, trivial⟩⟩
theorem fm_top {g : Heap} (X : (hd.heap_39 w.params).In g) : g.IsTuple 70 (fmAddr.map Value.ref).toArray := tup_of X (by k_dflt k_is)
end
end Mine
end
theorem Mine.t_resetFM2 : True := by
  first | (walk1; fail "no") | trivial

section
open PySem PySem.W PyProof.Rows PySem.Spec PySem.Calls PySem.W.X
set_option maxRecDepth 100000
set_option maxHeartbeats 8000000
namespace Mine
theorem t_offFM2 : True := by
  w_top off
  trivial
theorem fm_map0 {m l : Value} : ∀ y, (if y = Str.ofString "perm" then some l else if y = Str.ofString "mode" then some m else none) = fmM (some m) (some l) none none none none y := fun y => by
  by_cases h1 : y = Str.ofString "char"; · subst h1; rfl
  by_cases h2 : y = Str.ofString "bit"; · subst h2; rfl
  by_cases h3 : y = Str.ofString "table"; · subst h3; rfl
  by_cases h4 : y = Str.ofString "index"; · subst h4; rfl
  simp only [fmM, if_neg h1, if_neg h2, if_neg h3, if_neg h4]
theorem fm_map1 {m l i i' t t' b c : Option Value} : ∀ y, (if y = Str.ofString "table" then t' else if y = Str.ofString "index" then i' else fmM m l i t b c y) = fmM m l i' t' b c y := fun y => by
  by_cases h1 : y = Str.ofString "char"; · subst h1; rfl
  by_cases h2 : y = Str.ofString "bit"; · subst h2; rfl
  by_cases h3 : y = Str.ofString "table"; · subst h3; rfl
  by_cases h4 : y = Str.ofString "index"; · subst h4; rfl
  simp only [fmM, if_neg h1, if_neg h2, if_neg h3, if_neg h4]
theorem fm_map2 {m l i t b b' c c' : Option Value} : ∀ y, (if y = Str.ofString "char" then c' else if y = Str.ofString "bit" then b' else fmM m l i t b c y) = fmM m l i t b' c' y := fun y => by
  by_cases h1 : y = Str.ofString "char"; · subst h1; rfl
  by_cases h2 : y = Str.ofString "bit"; · subst h2; rfl
  simp only [fmM, if_neg h1, if_neg h2]
theorem dec11 {i : Nat} (h : i + 1 ≤ 10) : 11 - (i + 1) < 11 - i := by omega
theorem dec_len {n j : Nat} (h : j + 1 ≤ n) : n + 1 - (j + 1) < n + 1 - j := by omega
noncomputable def fmc (x : Int) (i : Nat) : Str :=
  if i = 0 then pick (fun b => Builtin.bitAnd x 61440 == b) (Str.ofString "?") (fmTabs.getD i [])
  else pick (fun b => Builtin.bitAnd x b == b) (Str.ofString "-") (fmTabs.getD i [])
theorem fmc_zero {x : Int} {ps : List (Int × Str)} (h : fmTabs[0]? = some ps) : fmc x 0 = pick (fun b => Builtin.bitAnd x 61440 == b) (Str.ofString "?") ps := by
  unfold fmc
  rw [if_pos rfl, List.getD_eq_getElem?_getD, h]
  rfl
theorem fmc_pos {x : Int} {i : Nat} {ps : List (Int × Str)} (h : fmTabs[i]? = some ps) (hz : ¬ i = 0) : fmc x i = pick (fun b => Builtin.bitAnd x b == b) (Str.ofString "-") ps := by
  unfold fmc
  rw [if_neg hz, List.getD_eq_getElem?_getD, h]
  rfl
theorem fm_push {x : Int} {i : Nat} {xs : Array Value} {c : Str} {tk : Tok} (hxs : xs.size = i) (hall : ∀ j, j < i → ∃ tj, xs[j]? = some (Value.str (fmc x j) tj)) (hc : c = fmc x i) :
    (xs.push (.str c tk)).size = i + 1 ∧ ∀ j, j < i + 1 → ∃ tj, (xs.push (.str c tk))[j]? = some (Value.str (fmc x j) tj) := by
  refine ⟨by simp [hxs], fun j hj => ?_⟩
  by_cases h : j < i
  · obtain ⟨tj, e⟩ := hall j h
    exact ⟨tj, by rw [Array.getElem?_push_lt (by omega)]; rw [← e]; exact (Array.getElem?_eq_getElem (by omega)).symm⟩
  · have : j = i := by omega
    subst this
    exact ⟨tk, by rw [← hxs, Array.getElem?_push_size, hc, hxs]⟩
theorem strs_of : ∀ (n : Nat) (f : Nat → Str) (l : List Value), l.length = n → (∀ j, j < n → ∃ t, l[j]? = some (Value.str (f j) t)) → StrsAre l ((List.range n).map f)
  | 0, f, l, hl, _ => by
    have : l = [] := List.eq_nil_of_length_eq_zero hl
    subst this
    exact .nil
  | n + 1, f, [], hl, _ => by simp at hl
  | n + 1, f, v :: l, hl, h => by
    obtain ⟨t, e⟩ := h 0 (Nat.succ_pos _)
    have e' : v = .str (f 0) t := by simpa using e
    subst e'
    rw [List.range_succ_eq_map, List.map_cons, List.map_map]
    exact .cons (f 0) t (strs_of n (f ∘ Nat.succ) l (by simpa using hl) fun j hj => by
      obtain ⟨t', e2⟩ := h (j + 1) (by omega)
      exact ⟨t', by simpa using e2⟩)
theorem pick_mem {f : Int → Bool} {d : Str} : ∀ (l : List (Int × Str)), pick f d l = d ∨ pick f d l ∈ l.map (·.2)
  | [] => .inl rfl
  | q :: r => by
    unfold pick
    split
    · exact .inr (.head _)
    · rcases pick_mem (f := f) (d := d) r with h | h
      · exact .inl h
      · exact .inr (.tail _ h)
theorem fmc_len (x : Int) (i : Nat) : (fmc x i).length = 1 := by
  have all : ∀ l ∈ fmTabs, ∀ y ∈ l.map (·.2), y.length = 1 := by decide +kernel
  have hin : ∀ y ∈ (fmTabs.getD i []).map (·.2), y.length = 1 := by
    rw [List.getD_eq_getElem?_getD]
    cases h : fmTabs[i]? with
    | none => intro y hy; simp at hy
    | some l => exact all l (List.mem_of_getElem? h)
  unfold fmc
  split
  · rcases pick_mem (f := fun b => Builtin.bitAnd x 61440 == b) (d := Str.ofString "?") (fmTabs.getD i []) with h | h
    · rw [h]; decide +kernel
    · exact hin _ h
  · rcases pick_mem (f := fun b => Builtin.bitAnd x b == b) (d := Str.ofString "-") (fmTabs.getD i []) with h | h
    · rw [h]; decide +kernel
    · exact hin _ h
noncomputable def fmode (x : Int) : Str := Txt.join (Str.ofString "") ((List.range 10).map (fmc x))
theorem fm_sum (x : Int) : (((List.range 10).map (fmc x)).map (·.length)).sum + ((List.range 10).map (fmc x)).length ≤ 1048576 := by
  have : ((List.range 10).map (fmc x)).map (·.length) = (List.range 10).map fun _ => 1 := by
    rw [List.map_map]
    exact List.map_congr_left fun i _ => fmc_len x i
  rw [this, List.length_map, List.length_range]
  decide
section
variable {w : World} {p : Program} {loose : List Str} {mean : ExcName → Option Value} {mg mb : Str → Option Value} {H : Heap} {s : Shared} {A : Around} {Q E : Value → Shared → Prop}

theorem c_filemode (W : Wd w p loose mean mg mb H) (hs : H.StaysIn s.heap) (ok : Ok 2 A) (x : Int) (t : Tok)
    (hret : ∀ u h' tk, Kp [] s.heap h' → Q (.str (fmode x) u) { s with heap := h', toks := tk }) :
    wpAny (model P0 w) A (call (.ref 77) [.int x t]) Q E s := by
  refine wp_weaken ok ?_
  clear ok
  refine wpAny_call ?_
  k_dflt (refine' enterK (binds := [(Str.ofString "mode", .int x t)]) W hs [] [] ?hX ?hN (ok_AL (by decide)).room ?ho ?hcd ?hbind ?hloc ?_ ?hcell ?a ?b ?c; (case hX => exact fun _ h => nomatch h); (case hN => exact fun _ h => nomatch h); (case ho => k_is); (case hcd => k_is); (case hbind => exact BindsTo.of_eq rfl); (case hloc => exact locs rfl); (case hcell => decide); (case a => rfl); (case b => rfl); (case c => rfl); k_whole; intro g L h₁ hg hL F0 N0 X T st hk; (try dsimp only); (try k_fold))
  iterate 9 ((first | (k_unfold; (try dsimp only)) | (first | (k_here; (with_reducible show wpAny _ _ (call (Value.ref 37) [Value.int _ _]) _ _ _); k_dflt (refine' k_ifmt ?F ?N (by assumption) (by assumption) (Ok.deeper (ok_AL (n := 2) (by decide))) _ _ ?_; (case F => k_asm); (case N => k_asm)); k_whole; intro _ _ _ _ _) | walk1) | (dsimp only; (first | (k_here; (with_reducible show wpAny _ _ (call (Value.ref 37) [Value.int _ _]) _ _ _); k_dflt (refine' k_ifmt ?F ?N (by assumption) (by assumption) (Ok.deeper (ok_AL (n := 2) (by decide))) _ _ ?_; (case F => k_asm); (case N => k_asm)); k_whole; intro _ _ _ _ _) | walk1))))
  rename Fr _ _ _ _ => F1
  rename News _ _ _ _ => N1
  refine wpAny_For ?_ ?hs1
  case hs1 => intro _; rfl
  iterate 6 ((first | (k_unfold; (try dsimp only)) | (first | (k_here; (with_reducible show wpAny _ _ (call (Value.ref 37) [Value.int _ _]) _ _ _); k_dflt (refine' k_ifmt ?F ?N (by assumption) (by assumption) (Ok.deeper (ok_AL (n := 2) (by decide))) _ _ ?_; (case F => k_asm); (case N => k_asm)); k_whole; intro _ _ _ _ _) | walk1) | (dsimp only; (first | (k_here; (with_reducible show wpAny _ _ (call (Value.ref 37) [Value.int _ _]) _ _ _); k_dflt (refine' k_ifmt ?F ?N (by assumption) (by assumption) (Ok.deeper (ok_AL (n := 2) (by decide))) _ _ ?_; (case F => k_asm); (case N => k_asm)); k_whole; intro _ _ _ _ _) | walk1))))
  rename_i l _ _ h2
  refine c_enum W (fun b o e => F1.keep b o (st b o e)) (Ok.deeper (ok_AL (n := 2) (by decide))) ?_
  intro e it h3 tk3 hlt hk3 n1 n2 he hit
  replace hk3 : ∀ (b : Addr) (o : Obj), h2.get? b = some o → h3.get? b = some o := hk3
  replace n1 : h2.get? it = none := n1
  replace n2 : h2.get? e = none := n2
  have F3 := fr_keep F1 (Kp.of hk3)
  have N3 := news_new F1 n2 he (news_new F1 n1 hit (news_keep N1 (Kp.of hk3)))
  have q1 : Off it l := ne_to (news_lt N1 (.head _) n1)
  have q2 : Off e l := ne_to (news_lt N1 (.head _) n2)
  replace F3 : Fr g L h3 (fmM (some (.int x t)) (some (.ref l)) none none none none) := fr_map F3 (fun y => by rw [look1]; exact fm_map0 y)
  refine wpAny_pyIter_enum (i := 0) (old := .none) he ?_
  refine hideR fun R1 hR1 => ?_
  refine hideI (fun n s' => ∃ i h' tk xs nn old idx tab bit chr, s' = { s with heap := h', toks := tk } ∧ i ≤ 10 ∧ n = 11 - i ∧ Fr g L h' (fmM (some (.int x t)) (some (.ref l)) idx tab bit chr) ∧
    News g L h' [(e, enumObj it (i : Nat) old), (it, tupIt 70 (i : Nat)), (l, PySem.W.listOf xs nn)] ∧ xs.size = i ∧ ∀ j, j < i → ∃ tj, xs[j]? = some (.str (fmc x j) tj)) fun I1 hI1 => ?_
  refine codeAny_forLoop_any I1 ?turn 11 ?init
  case init => exact (hI1 _ _).2 ⟨0, h3, tk3, #[], 0, .none, none, none, none, none, rfl, Nat.zero_le _, rfl, F3, N3, rfl, fun j hj => absurd hj (Nat.not_lt_zero _)⟩
  intro n s' hI
  replace hI := (hI1 n s').1 hI
  obtain ⟨i, h', tk', xs, nn, old, idx, tab, bit, chr, rfl, hi, rfl, F4, N4, hxs, hall⟩ := hI
  have e4 := (N4 _ (.head _)).1
  have it4 := (N4 _ (.tail _ (.head _))).1
  have hA : (Around.handled (Around.deeper (AL 2) (envX (Str.ofString "filemode") ⟨.function, [], false, false, []⟩ L 77 (Value.ref 76) []))) = none := rfl
  have ht : h'.IsTuple 70 (fmAddr.map Value.ref).toArray := by
    obtain ⟨o, a, b⟩ := fm_top X
    exact ⟨o, F4.keep _ _ a, b⟩
  by_cases h10 : i = 10
  · subst h10
    refine enum_end rfl e4 it4 ht (by simp [fmAddr]) fun h5 x5 => ?_
    refine wpAny_execs_nil ?_
    dsimp only
    refine hR1 _ _ ?_
    dsimp only
    replace x5 : Heap.ExtBut it h' h5 := x5
    have F5 := fr_turn F4 (N4 _ (.tail _ (.head _))).2 (fun b o q z => x5 b o q z)
    have N5 : News g L h5 [(l, PySem.W.listOf xs nn)] := fun q hq => by
      rw [List.mem_singleton.mp hq]
      exact ⟨x5 _ _ (ne_to q1) (N4 _ (.tail _ (.tail _ (.head _)))).1, (N4 _ (.tail _ (.tail _ (.head _)))).2⟩
    clear F4 N4 e4 it4 ht F1 N1 F3 N3 he hit
    have hS := strs_of 10 (fmc x) xs.toList (by simpa using hxs) (fun j hj => by simpa using hall j hj)
    (repeat' (first | (k_unfold; (try dsimp only)) | ((first | with_reducible show wpAny _ _ _ _ _ _ | with_reducible show @ite _ _ _ _ _ | with_reducible show And _ _); (first | (k_here; (with_reducible show wpAny _ _ (call (Value.ref 37) [Value.int _ _]) _ _ _); k_dflt (refine' k_ifmt ?F ?N (by assumption) (by assumption) (Ok.deeper (ok_AL (n := 2) (by decide))) _ _ ?_; (case F => k_asm); (case N => k_asm)); k_whole; intro _ _ _ _ _) | walk1)) | (dsimp only; (first | with_reducible show wpAny _ _ _ _ _ _ | with_reducible show @ite _ _ _ _ _ | with_reducible show And _ _); (first | (k_here; (with_reducible show wpAny _ _ (call (Value.ref 37) [Value.int _ _]) _ _ _); k_dflt (refine' k_ifmt ?F ?N (by assumption) (by assumption) (Ok.deeper (ok_AL (n := 2) (by decide))) _ _ ?_; (case F => k_asm); (case N => k_asm)); k_whole; intro _ _ _ _ _) | walk1))))
    rename Fr _ _ _ _ => F6
    rename News _ _ _ _ => N6
    refine join_listW (N6.isList (.head _)) hS (by decide +kernel) (fm_sum x) ?_
    intro t' k'
    dsimp only
    exact hret _ _ _ (kp_fr hg F6)
  have hi1 : i + 1 ≤ 10 := Nat.lt_of_le_of_ne hi h10
  clear h10
  obtain ⟨ps, hps⟩ : ∃ ps, fmTabs[i]? = some ps := ⟨_, List.getElem?_eq_getElem (by simp [fmTabs]; omega)⟩
  obtain ⟨TT, refs, hT, hTT, hP⟩ := fm_tabs X hps
  refine enum_item e4 it4 ht (x := .ref TT) (by simp [hT]) (Nat.ne_of_gt hlt) fun a h5 e5 it5 fr5 a5 k5 => ?_
  have ne_e : e ≠ it := Nat.ne_of_gt hlt
  have aN := fr_ne F4 fr5
  have ae : a ≠ e := fun q => by rw [q, e4] at fr5; cases fr5
  have ai : a ≠ it := fun q => by rw [q, it4] at fr5; cases fr5
  refine wpAny_letOwnedTupleGo_enum e5 fun h6 e6 s6 => ?_
  replace s6 : Heap.SameBut e h5 h6 := s6
  have a6 : h6.IsTuple a #[.int i tk', .ref TT] := ⟨_, s6.extBut _ _ ae a5, rfl, _, rfl⟩
  refine wpAny_assign_Tuple rfl a6 rfl rfl fun h7 x7 => ?_
  replace x7 : Heap.ExtBut h6.objs.size h6 h7 := x7
  have up7 : ∀ b o, h6.get? b = some o → h7.get? b = some o := fun b o q => x7 b o (Nat.ne_of_lt (Heap.lt_size q)) q
  have e7 := up7 _ _ e6
  have it7 := up7 _ _ (s6.extBut _ _ (Ne.symm ne_e) it5)
  have k7 : ∀ b o, b ≠ e → b ≠ it → h'.get? b = some o → h7.get? b = some o := fun b o h1 h2 q => up7 b o (s6.extBut b o h1 (k5 b o h1 h2 q))
  have F7 : Fr g L h7 (fmM (some (.int x t)) (some (.ref l)) idx tab bit chr) := fr_kp (X := [e, it]) F4 (fun b o q n => k7 b o (fun z => n (by rw [z]; exact .head _)) (fun z => n (by rw [z]; exact .tail _ (.head _))) q)
    (fun z hz => by
      rcases List.mem_cons.mp hz with rfl | hz
      · exact ⟨(N4 _ (.head _)).2.2, (N4 _ (.head _)).2.1⟩
      · rw [List.mem_singleton.mp hz]; exact ⟨(N4 _ (.tail _ (.head _))).2.2, (N4 _ (.tail _ (.head _))).2.1⟩)
  have N7 : News g L h7 [(e, enumObj it ((i : Int) + 1) (.ref TT)), (it, tupIt 70 ((i : Int) + 1)), (l, PySem.W.listOf xs nn)] := fun q hq => by
    rcases List.mem_cons.mp hq with rfl | hq
    · exact ⟨e7, (N4 _ (.head _)).2⟩
    rcases List.mem_cons.mp hq with rfl | hq
    · exact ⟨it7, (N4 _ (.tail _ (.head _))).2⟩
    rw [List.mem_singleton.mp hq]
    exact ⟨k7 _ _ (ne_to q2) (ne_to q1) (N4 _ (.tail _ (.tail _ (.head _)))).1, (N4 _ (.tail _ (.tail _ (.head _)))).2⟩
  clear F1 N1 F3 N3 F4 N4 e4 it4 k5 e5 it5 a5 s6 e6 a6 x7 up7 e7 it7 k7 he hit hk3 n1 n2 hA ht ne_e ae ai aN hlt fr5
  dsimp only
  iterate 7 ((first | (k_unfold; (try dsimp only)) | (first | (k_here; (with_reducible show wpAny _ _ (call (Value.ref 37) [Value.int _ _]) _ _ _); k_dflt (refine' k_ifmt ?F ?N (by assumption) (by assumption) (Ok.deeper (ok_AL (n := 2) (by decide))) _ _ ?_; (case F => k_asm); (case N => k_asm)); k_whole; intro _ _ _ _ _) | walk1) | (dsimp only; (first | (k_here; (with_reducible show wpAny _ _ (call (Value.ref 37) [Value.int _ _]) _ _ _); k_dflt (refine' k_ifmt ?F ?N (by assumption) (by assumption) (Ok.deeper (ok_AL (n := 2) (by decide))) _ _ ?_; (case F => k_asm); (case N => k_asm)); k_whole; intro _ _ _ _ _) | walk1))))
  rename Fr _ _ _ _ => F8
  rename News _ _ _ _ => N8
  rename_i h8
  dsimp only
  replace F8 : Fr g L h8 (fmM (some (.int x t)) (some (.ref l)) (some (.int i tk')) (some (.ref TT)) bit chr) := fr_map F8 fm_map1
  refine wpAny_execs_cons ?_
  refine wpAny_For ?_ ?hs2
  case hs2 => intro _; rfl
  ((first | (k_unfold; (try dsimp only)) | (first | (k_here; (with_reducible show wpAny _ _ (call (Value.ref 37) [Value.int _ _]) _ _ _); k_dflt (refine' k_ifmt ?F ?N (by assumption) (by assumption) (Ok.deeper (ok_AL (n := 2) (by decide))) _ _ ?_; (case F => k_asm); (case N => k_asm)); k_whole; intro _ _ _ _ _) | walk1) | (dsimp only; (first | (k_here; (with_reducible show wpAny _ _ (call (Value.ref 37) [Value.int _ _]) _ _ _); k_dflt (refine' k_ifmt ?F ?N (by assumption) (by assumption) (Ok.deeper (ok_AL (n := 2) (by decide))) _ _ ?_; (case F => k_asm); (case N => k_asm)); k_whole; intro _ _ _ _ _) | walk1))))
  have hTT8 : h8.IsTuple TT (refs.map Value.ref).toArray := by
    obtain ⟨o, z, r⟩ := hTT
    exact ⟨o, F8.keep _ _ z, r⟩
  refine wpAny_pyIter_tuple hTT8 ?_
  dsimp only
  have fr9 : h8.get? h8.objs.size = none := Heap.get?_none_of_le (Nat.le_refl _)
  have ge9 : (h8.push { cls := .type "tuple_iterator", data := .fields #[.ref TT, .int 0 0] }).get? h8.objs.size = some (tupIt TT 0) := Heap.get?_push_size _ rfl
  have kp9 : ∀ b o, h8.get? b = some o → (h8.push { cls := .type "tuple_iterator", data := .fields #[.ref TT, .int 0 0] }).get? b = some o := fun b o q => Heap.get?_push_of_some _ q
  generalize (h8.push { cls := .type "tuple_iterator", data := .fields #[.ref TT, .int 0 0] }) = h9 at ge9 kp9
  generalize h8.objs.size = jt at fr9 ge9
  have F9 := fr_keep F8 (Kp.of kp9)
  have N9 := news_new F8 fr9 ge9 (news_keep N8 (Kp.of kp9))
  have r1 : Off jt e := ne_to (news_lt N8 (.head _) fr9)
  have r2 : Off jt it := ne_to (news_lt N8 (.tail _ (.head _)) fr9)
  have r3 : Off jt l := ne_to (news_lt N8 (.tail _ (.tail _ (.head _))) fr9)
  clear F8 N8 kp9 ge9 fr9 hTT8
  generalize hoe : enumObj it ((i : Int) + 1) (.ref TT) = oe at N9
  generalize hoi : tupIt 70 ((i : Int) + 1) = oi at N9
  have lenr := pairs_len hP
  by_cases hz : i = 0
  · subst hz
    refine hideR fun R2 hR2 => ?_
    refine hideI (fun n s' => ∃ j h' tk bit chr, s' = { s with heap := h', toks := tk } ∧ j ≤ refs.length ∧ n = refs.length + 1 - j ∧ Fr g L h' (fmM (some (.int x t)) (some (.ref l)) (some (.int (0 : Nat) tk')) (some (.ref TT)) bit chr) ∧
      News g L h' [(jt, tupIt TT (j : Nat)), (e, oe), (it, oi), (l, PySem.W.listOf xs nn)] ∧ pick (fun b => Builtin.bitAnd x 61440 == b) (Str.ofString "?") ps = pick (fun b => Builtin.bitAnd x 61440 == b) (Str.ofString "?") (ps.drop j)) fun I2 hI2 => ?_
    refine codeAny_forLoop_any I2 ?turn3 (refs.length + 1) ?init3
    case init3 => exact (hI2 _ _).2 ⟨0, h9, _, bit, chr, rfl, Nat.zero_le _, rfl, F9, N9, rfl⟩
    clear F9 N9
    intro n s' hI
    replace hI := (hI2 n s').1 hI
    obtain ⟨j, hA, tkA, bitA, chrA, rfl, hj, rfl, FA, NA, hpk⟩ := hI
    have jtA := (NA _ (.head _)).1
    have hTTA : hA.IsTuple TT (refs.map Value.ref).toArray := by
      obtain ⟨o, z, r⟩ := hTT
      exact ⟨o, FA.keep _ _ z, r⟩
    by_cases hjl : j = refs.length
    · refine tup_end rfl jtA hTTA (by simp [hjl]) fun hB xB => ?_
      replace xB : Heap.ExtBut jt hA hB := xB
      dsimp only
      have FB : Fr g L hB _ := fr_turn FA (NA _ (.head _)).2 (fun b o q z => xB b o q z)
      have NB : News g L hB [(e, oe), (it, oi), (l, PySem.W.listOf xs nn)] := fun q hq => ⟨xB _ _ (by simp at hq; rcases hq with rfl | rfl | rfl <;> exact ne_to (by assumption)) (NA q (.tail _ hq)).1, (NA q (.tail _ hq)).2⟩
      clear FA NA
      (repeat' (first | (k_unfold; (try dsimp only)) | ((first | with_reducible show wpAny _ _ _ _ _ _ | with_reducible show @ite _ _ _ _ _ | with_reducible show And _ _); (first | (k_here; (with_reducible show wpAny _ _ (call (Value.ref 37) [Value.int _ _]) _ _ _); k_dflt (refine' k_ifmt ?F ?N (by assumption) (by assumption) (Ok.deeper (ok_AL (n := 2) (by decide))) _ _ ?_; (case F => k_asm); (case N => k_asm)); k_whole; intro _ _ _ _ _) | walk1)) | (dsimp only; (first | with_reducible show wpAny _ _ _ _ _ _ | with_reducible show @ite _ _ _ _ _ | with_reducible show And _ _); (first | (k_here; (with_reducible show wpAny _ _ (call (Value.ref 37) [Value.int _ _]) _ _ _); k_dflt (refine' k_ifmt ?F ?N (by assumption) (by assumption) (Ok.deeper (ok_AL (n := 2) (by decide))) _ _ ?_; (case F => k_asm); (case N => k_asm)); k_whole; intro _ _ _ _ _) | walk1))))
      all_goals first | (exfalso; omega) | skip
      all_goals (try (refine hR2 _ _ ?_; dsimp only; (repeat' (first | (k_unfold; (try dsimp only)) | ((first | with_reducible show wpAny _ _ _ _ _ _ | with_reducible show @ite _ _ _ _ _ | with_reducible show And _ _); (first | (k_here; (with_reducible show wpAny _ _ (call (Value.ref 37) [Value.int _ _]) _ _ _); k_dflt (refine' k_ifmt ?F ?N (by assumption) (by assumption) (Ok.deeper (ok_AL (n := 2) (by decide))) _ _ ?_; (case F => k_asm); (case N => k_asm)); k_whole; intro _ _ _ _ _) | walk1)) | (dsimp only; (first | with_reducible show wpAny _ _ _ _ _ _ | with_reducible show @ite _ _ _ _ _ | with_reducible show And _ _); (first | (k_here; (with_reducible show wpAny _ _ (call (Value.ref 37) [Value.int _ _]) _ _ _); k_dflt (refine' k_ifmt ?F ?N (by assumption) (by assumption) (Ok.deeper (ok_AL (n := 2) (by decide))) _ _ ?_; (case F => k_asm); (case N => k_asm)); k_whole; intro _ _ _ _ _) | walk1))))))
      rename Fr _ _ _ _ => FD
      rename News _ _ _ _ => ND
      have hc : Str.ofString "?" = fmc x 0 := by
        rw [fmc_zero hps, hpk, hjl, lenr, List.drop_length]
        rfl
      obtain ⟨u1, u2⟩ := fm_push hxs hall hc
      subst hoe hoi
      exact ⟨11 - (0 + 1), by decide, (hI1 _ _).2 ⟨0 + 1, _, _, _, _, _, _, _, _, _, rfl, by decide, rfl, FD, ND, u1, u2⟩⟩
    have hj1 : j + 1 ≤ refs.length := Nat.lt_of_le_of_ne hj hjl
    clear hjl
    obtain ⟨pa, q, tb, tc, ea, eq, ht⟩ := pairs_get hP (j := j) (lenr ▸ hj1)
    refine tup_item jtA hTTA (x := .ref pa) (by simp [ea]) fun hB jtB sB => ?_
    replace sB : Heap.SameBut jt hA hB := sB
    dsimp only
    refine letGo_tup jtB ?_
    have FB : Fr g L hB _ := fr_turn FA (NA _ (.head _)).2 (fun b o q z => sB.extBut b o q z)
    have NB := news_turn NA (fun b o q z => sB.extBut b o q z) jtB (by intro z hz; simp at hz; rcases hz with rfl | rfl | rfl <;> exact ne_to (by assumption))
    have htB : hB.IsTuple pa #[.int q.1 tb, .str q.2 tc] := by
      obtain ⟨o, z, r⟩ := ht
      exact ⟨o, FB.keep _ _ z, r⟩
    refine wpAny_assign_Tuple rfl htB rfl rfl fun hC xC => ?_
    replace xC : Heap.ExtBut hB.objs.size hB hC := xC
    have upC : ∀ b o, hB.get? b = some o → hC.get? b = some o := fun b o q => xC b o (Nat.ne_of_lt (Heap.lt_size q)) q
    have FC := fr_keep FB (Kp.of upC)
    have NC := news_keep NB (Kp.of upC)
    clear FA NA FB NB jtA jtB sB htB xC upC hTTA
    dsimp only
    iterate 7 ((first | (k_unfold; (try dsimp only)) | (first | (k_here; (with_reducible show wpAny _ _ (call (Value.ref 37) [Value.int _ _]) _ _ _); k_dflt (refine' k_ifmt ?F ?N (by assumption) (by assumption) (Ok.deeper (ok_AL (n := 2) (by decide))) _ _ ?_; (case F => k_asm); (case N => k_asm)); k_whole; intro _ _ _ _ _) | walk1) | (dsimp only; (first | (k_here; (with_reducible show wpAny _ _ (call (Value.ref 37) [Value.int _ _]) _ _ _); k_dflt (refine' k_ifmt ?F ?N (by assumption) (by assumption) (Ok.deeper (ok_AL (n := 2) (by decide))) _ _ ?_; (case F => k_asm); (case N => k_asm)); k_whole; intro _ _ _ _ _) | walk1))))
    (repeat' (first | (k_unfold; (try dsimp only)) | ((first | with_reducible show wpAny _ _ _ _ _ _ | with_reducible show @ite _ _ _ _ _ | with_reducible show And _ _); (first | (k_here; (with_reducible show wpAny _ _ (call (Value.ref 37) [Value.int _ _]) _ _ _); k_dflt (refine' k_ifmt ?F ?N (by assumption) (by assumption) (Ok.deeper (ok_AL (n := 2) (by decide))) _ _ ?_; (case F => k_asm); (case N => k_asm)); k_whole; intro _ _ _ _ _) | walk1)) | (dsimp only; (first | with_reducible show wpAny _ _ _ _ _ _ | with_reducible show @ite _ _ _ _ _ | with_reducible show And _ _); (first | (k_here; (with_reducible show wpAny _ _ (call (Value.ref 37) [Value.int _ _]) _ _ _); k_dflt (refine' k_ifmt ?F ?N (by assumption) (by assumption) (Ok.deeper (ok_AL (n := 2) (by decide))) _ _ ?_; (case F => k_asm); (case N => k_asm)); k_whole; intro _ _ _ _ _) | walk1))))
    all_goals first | (exfalso; omega) | skip
    all_goals (try (refine hR2 _ _ ?_; dsimp only; (repeat' (first | (k_unfold; (try dsimp only)) | ((first | with_reducible show wpAny _ _ _ _ _ _ | with_reducible show @ite _ _ _ _ _ | with_reducible show And _ _); (first | (k_here; (with_reducible show wpAny _ _ (call (Value.ref 37) [Value.int _ _]) _ _ _); k_dflt (refine' k_ifmt ?F ?N (by assumption) (by assumption) (Ok.deeper (ok_AL (n := 2) (by decide))) _ _ ?_; (case F => k_asm); (case N => k_asm)); k_whole; intro _ _ _ _ _) | walk1)) | (dsimp only; (first | with_reducible show wpAny _ _ _ _ _ _ | with_reducible show @ite _ _ _ _ _ | with_reducible show And _ _); (first | (k_here; (with_reducible show wpAny _ _ (call (Value.ref 37) [Value.int _ _]) _ _ _); k_dflt (refine' k_ifmt ?F ?N (by assumption) (by assumption) (Ok.deeper (ok_AL (n := 2) (by decide))) _ _ ?_; (case F => k_asm); (case N => k_asm)); k_whole; intro _ _ _ _ _) | walk1))))))
    · rename Fr _ _ _ _ => FD
      rename News _ _ _ _ => ND
      rename Builtin.bitAnd x 61440 = _ => hb
      have hc : q.2 = fmc x 0 := by
        rw [fmc_zero hps, hpk, pick_drop eq, if_pos (by simpa using hb)]
      obtain ⟨u1, u2⟩ := fm_push hxs hall hc
      subst hoe hoi
      exact ⟨11 - (0 + 1), by decide, (hI1 _ _).2 ⟨0 + 1, _, _, _, _, _, some (.int (0 : Nat) tk'), some (.ref TT), _, _, rfl, by decide, rfl, fr_map FD fm_map2, fun z hz => ND z (.tail _ hz), u1, u2⟩⟩
    · rename Fr _ _ _ _ => FD
      rename News _ _ _ _ => ND
      rename Builtin.bitAnd x 61440 ≠ _ => hb
      refine ⟨refs.length + 1 - (j + 1), dec_len hj1, (hI2 _ _).2 ⟨j + 1, _, _, some (.int q.1 tb), some (.str q.2 tc), rfl, hj1, rfl, fr_map FD fm_map2, ND, ?_⟩⟩
      rw [hpk, pick_drop eq, if_neg (by simpa using hb)]

  have hzI : ¬ (i : Int) = 0 := by omega
  refine hideR fun R2 hR2 => ?_
  refine hideI (fun n s' => ∃ j h' tk bit chr, s' = { s with heap := h', toks := tk } ∧ j ≤ refs.length ∧ n = refs.length + 1 - j ∧ Fr g L h' (fmM (some (.int x t)) (some (.ref l)) (some (.int i tk')) (some (.ref TT)) bit chr) ∧
    News g L h' [(jt, tupIt TT (j : Nat)), (e, oe), (it, oi), (l, PySem.W.listOf xs nn)] ∧ pick (fun b => Builtin.bitAnd x b == b) (Str.ofString "-") ps = pick (fun b => Builtin.bitAnd x b == b) (Str.ofString "-") (ps.drop j)) fun I2 hI2 => ?_
  refine codeAny_forLoop_any I2 ?turn2 (refs.length + 1) ?init2
  case init2 => exact (hI2 _ _).2 ⟨0, h9, _, bit, chr, rfl, Nat.zero_le _, rfl, F9, N9, rfl⟩
  clear F9 N9
  intro n s' hI
  replace hI := (hI2 n s').1 hI
  obtain ⟨j, hA, tkA, bitA, chrA, rfl, hj, rfl, FA, NA, hpk⟩ := hI
  have jtA := (NA _ (.head _)).1
  have hTTA : hA.IsTuple TT (refs.map Value.ref).toArray := by
    obtain ⟨o, z, r⟩ := hTT
    exact ⟨o, FA.keep _ _ z, r⟩
  by_cases hjl : j = refs.length
  · refine tup_end rfl jtA hTTA (by simp [hjl]) fun hB xB => ?_
    replace xB : Heap.ExtBut jt hA hB := xB
    dsimp only
    have FB : Fr g L hB _ := fr_turn FA (NA _ (.head _)).2 (fun b o q z => xB b o q z)
    have NB : News g L hB [(e, oe), (it, oi), (l, PySem.W.listOf xs nn)] := fun q hq => ⟨xB _ _ (by simp at hq; rcases hq with rfl | rfl | rfl <;> exact ne_to (by assumption)) (NA q (.tail _ hq)).1, (NA q (.tail _ hq)).2⟩
    clear FA NA
    (repeat' (first | (k_unfold; (try dsimp only)) | ((first | with_reducible show wpAny _ _ _ _ _ _ | with_reducible show @ite _ _ _ _ _ | with_reducible show And _ _); (first | (k_here; (with_reducible show wpAny _ _ (call (Value.ref 37) [Value.int _ _]) _ _ _); k_dflt (refine' k_ifmt ?F ?N (by assumption) (by assumption) (Ok.deeper (ok_AL (n := 2) (by decide))) _ _ ?_; (case F => k_asm); (case N => k_asm)); k_whole; intro _ _ _ _ _) | walk1)) | (dsimp only; (first | with_reducible show wpAny _ _ _ _ _ _ | with_reducible show @ite _ _ _ _ _ | with_reducible show And _ _); (first | (k_here; (with_reducible show wpAny _ _ (call (Value.ref 37) [Value.int _ _]) _ _ _); k_dflt (refine' k_ifmt ?F ?N (by assumption) (by assumption) (Ok.deeper (ok_AL (n := 2) (by decide))) _ _ ?_; (case F => k_asm); (case N => k_asm)); k_whole; intro _ _ _ _ _) | walk1))))
    all_goals first | (exfalso; omega) | skip
    all_goals (try (refine hR2 _ _ ?_; dsimp only; (repeat' (first | (k_unfold; (try dsimp only)) | ((first | with_reducible show wpAny _ _ _ _ _ _ | with_reducible show @ite _ _ _ _ _ | with_reducible show And _ _); (first | (k_here; (with_reducible show wpAny _ _ (call (Value.ref 37) [Value.int _ _]) _ _ _); k_dflt (refine' k_ifmt ?F ?N (by assumption) (by assumption) (Ok.deeper (ok_AL (n := 2) (by decide))) _ _ ?_; (case F => k_asm); (case N => k_asm)); k_whole; intro _ _ _ _ _) | walk1)) | (dsimp only; (first | with_reducible show wpAny _ _ _ _ _ _ | with_reducible show @ite _ _ _ _ _ | with_reducible show And _ _); (first | (k_here; (with_reducible show wpAny _ _ (call (Value.ref 37) [Value.int _ _]) _ _ _); k_dflt (refine' k_ifmt ?F ?N (by assumption) (by assumption) (Ok.deeper (ok_AL (n := 2) (by decide))) _ _ ?_; (case F => k_asm); (case N => k_asm)); k_whole; intro _ _ _ _ _) | walk1))))))
    rename Fr _ _ _ _ => FD
    rename News _ _ _ _ => ND
    have hc : Str.ofString "-" = fmc x i := by
      rw [fmc_pos hps hz, hpk, hjl, lenr, List.drop_length]
      rfl
    obtain ⟨u1, u2⟩ := fm_push hxs hall hc
    subst hoe hoi
    exact ⟨11 - (i + 1), dec11 hi1, (hI1 _ _).2 ⟨i + 1, _, _, _, _, _, _, _, _, _, rfl, hi1, rfl, FD, ND, u1, u2⟩⟩
  have hj1 : j + 1 ≤ refs.length := Nat.lt_of_le_of_ne hj hjl
  clear hjl
  obtain ⟨pa, q, tb, tc, ea, eq, ht⟩ := pairs_get hP (j := j) (lenr ▸ hj1)
  refine tup_item jtA hTTA (x := .ref pa) (by simp [ea]) fun hB jtB sB => ?_
  replace sB : Heap.SameBut jt hA hB := sB
  dsimp only
  refine letGo_tup jtB ?_
  have FB : Fr g L hB _ := fr_turn FA (NA _ (.head _)).2 (fun b o q z => sB.extBut b o q z)
  have NB := news_turn NA (fun b o q z => sB.extBut b o q z) jtB (by intro z hz; simp at hz; rcases hz with rfl | rfl | rfl <;> exact ne_to (by assumption))
  have htB : hB.IsTuple pa #[.int q.1 tb, .str q.2 tc] := by
    obtain ⟨o, z, r⟩ := ht
    exact ⟨o, FB.keep _ _ z, r⟩
  refine wpAny_assign_Tuple rfl htB rfl rfl fun hC xC => ?_
  replace xC : Heap.ExtBut hB.objs.size hB hC := xC
  have upC : ∀ b o, hB.get? b = some o → hC.get? b = some o := fun b o q => xC b o (Nat.ne_of_lt (Heap.lt_size q)) q
  have FC := fr_keep FB (Kp.of upC)
  have NC := news_keep NB (Kp.of upC)
  clear FA NA FB NB jtA jtB sB htB xC upC hTTA
  dsimp only
  iterate 7 ((first | (k_unfold; (try dsimp only)) | (first | (k_here; (with_reducible show wpAny _ _ (call (Value.ref 37) [Value.int _ _]) _ _ _); k_dflt (refine' k_ifmt ?F ?N (by assumption) (by assumption) (Ok.deeper (ok_AL (n := 2) (by decide))) _ _ ?_; (case F => k_asm); (case N => k_asm)); k_whole; intro _ _ _ _ _) | walk1) | (dsimp only; (first | (k_here; (with_reducible show wpAny _ _ (call (Value.ref 37) [Value.int _ _]) _ _ _); k_dflt (refine' k_ifmt ?F ?N (by assumption) (by assumption) (Ok.deeper (ok_AL (n := 2) (by decide))) _ _ ?_; (case F => k_asm); (case N => k_asm)); k_whole; intro _ _ _ _ _) | walk1))))
  (repeat' (first | (k_unfold; (try dsimp only)) | ((first | with_reducible show wpAny _ _ _ _ _ _ | with_reducible show @ite _ _ _ _ _ | with_reducible show And _ _); (first | (k_here; (with_reducible show wpAny _ _ (call (Value.ref 37) [Value.int _ _]) _ _ _); k_dflt (refine' k_ifmt ?F ?N (by assumption) (by assumption) (Ok.deeper (ok_AL (n := 2) (by decide))) _ _ ?_; (case F => k_asm); (case N => k_asm)); k_whole; intro _ _ _ _ _) | walk1)) | (dsimp only; (first | with_reducible show wpAny _ _ _ _ _ _ | with_reducible show @ite _ _ _ _ _ | with_reducible show And _ _); (first | (k_here; (with_reducible show wpAny _ _ (call (Value.ref 37) [Value.int _ _]) _ _ _); k_dflt (refine' k_ifmt ?F ?N (by assumption) (by assumption) (Ok.deeper (ok_AL (n := 2) (by decide))) _ _ ?_; (case F => k_asm); (case N => k_asm)); k_whole; intro _ _ _ _ _) | walk1))))
  all_goals first | (exfalso; omega) | skip
  all_goals (try (refine hR2 _ _ ?_; dsimp only; (repeat' (first | (k_unfold; (try dsimp only)) | ((first | with_reducible show wpAny _ _ _ _ _ _ | with_reducible show @ite _ _ _ _ _ | with_reducible show And _ _); (first | (k_here; (with_reducible show wpAny _ _ (call (Value.ref 37) [Value.int _ _]) _ _ _); k_dflt (refine' k_ifmt ?F ?N (by assumption) (by assumption) (Ok.deeper (ok_AL (n := 2) (by decide))) _ _ ?_; (case F => k_asm); (case N => k_asm)); k_whole; intro _ _ _ _ _) | walk1)) | (dsimp only; (first | with_reducible show wpAny _ _ _ _ _ _ | with_reducible show @ite _ _ _ _ _ | with_reducible show And _ _); (first | (k_here; (with_reducible show wpAny _ _ (call (Value.ref 37) [Value.int _ _]) _ _ _); k_dflt (refine' k_ifmt ?F ?N (by assumption) (by assumption) (Ok.deeper (ok_AL (n := 2) (by decide))) _ _ ?_; (case F => k_asm); (case N => k_asm)); k_whole; intro _ _ _ _ _) | walk1))))))
  · rename Fr _ _ _ _ => FD
    rename News _ _ _ _ => ND
    rename Builtin.bitAnd _ _ = _ => hb
    have hc : q.2 = fmc x i := by
      rw [fmc_pos hps hz, hpk, pick_drop eq, if_pos (by simpa using hb)]
    obtain ⟨u1, u2⟩ := fm_push hxs hall hc
    subst hoe hoi
    exact ⟨11 - (i + 1), dec11 hi1, (hI1 _ _).2 ⟨i + 1, _, _, _, _, _, some (.int i tk'), some (.ref TT), _, _, rfl, hi1, rfl, fr_map FD fm_map2, fun z hz => ND z (.tail _ hz), u1, u2⟩⟩
  · rename Fr _ _ _ _ => FD
    rename News _ _ _ _ => ND
    rename Builtin.bitAnd _ _ ≠ _ => hb
    refine ⟨refs.length + 1 - (j + 1), dec_len hj1, (hI2 _ _).2 ⟨j + 1, _, _, some (.int q.1 tb), some (.str q.2 tc), rfl, hj1, rfl, fr_map FD fm_map2, ND, ?_⟩⟩
    rw [hpk, pick_drop eq, if_neg (by simpa using hb)]
end
end Mine
end
theorem Mine.t_resetWI1 : True := by
  first | (walk1; fail "no") | trivial

section
open PySem PySem.W PyProof.Rows PySem.Spec PySem.Calls PySem.W.X PySem.SeqAt
set_option maxRecDepth 100000
set_option maxHeartbeats 8000000
namespace Mine
theorem t_offWI1 : True := by
  w_top off
  trivial
noncomputable def strsOf : List Value → Option (List Str)
  | [] => some []
  | .str y _ :: r => (strsOf r).map (y :: ·)
  | _ => none
theorem strsOf_are : ∀ {vs : List Value} {ys : List Str}, strsOf vs = some ys → StrsAre vs ys
  | [], ys, h => by cases h; exact .nil
  | .str y t :: r, ys, h => by
    unfold strsOf at h
    cases q : strsOf r with
    | none => rw [q] at h; cases h
    | some zs => rw [q] at h; cases h; exact .cons y t (strsOf_are q)
noncomputable def four (k : Nat) : List Str := if k = 8 then [Str.ofString "-", Str.ofString "T", Str.ofString "x", Str.ofString "t"] else [Str.ofString "-", Str.ofString "S", Str.ofString "x", Str.ofString "s"]
noncomputable def two (k : Nat) : List Str := [Str.ofString "-", if k % 3 = 0 then Str.ofString "r" else Str.ofString "w"]
/-- the signs that may stand at k -/
noncomputable def may (k : Nat) : List Str := if k % 3 < 2 then two k else four k
noncomputable def wish (x : Str) (k : Nat) : List Str :=
  let l := may k
  let n := l.idxOf x
  if k % 3 < 2 then [l.getD (1 - n) x, x]
  else [l.getD (3 - n) x, l.getD ((n + 2) % 4) x, l.getD (n + 1 - n % 2 * 2) x, x]
section
variable {w : World} {p : Program} {loose : List Str} {mean : ExcName → Option Value} {mg mb : Str → Option Value} {H : Heap} {s : Shared} {A : Around} {Q E : Value → Shared → Prop}
noncomputable def RetL (s : Shared) (Q : Value → Shared → Prop) (xs : List Str) : Prop := ∀ l n items h' tk, Kp [] s.heap h' → s.heap.get? l = none → h'.get? l = some (PySem.W.listOf items n) → StrsAre items.toList xs → Q (.ref l) { s with heap := h', toks := tk }
theorem retL_mem {xs : List Str} {l n : Nat} {items : Array Value} {h : Heap} {tk : Nat} {news : List (Addr × Obj)} (R : RetL s Q xs) (D : Mem s.heap h [] ((l, PySem.W.listOf items n) :: news)) (e : strsOf items.toList = some xs) : Q (.ref l) ⟨h, s.gens, s.drawn, tk, s.os⟩ :=
  R l n items h tk (fun b o q _ => D.keep b o q (by simp [away])) (D.nw _ (.head _)).2 (D.nw _ (.head _)).1 (strsOf_are e)
local macro_rules | `(tactic| x_close) => `(tactic| exact retL_mem (by assumption) (by assumption) (by kernel_rfl))
noncomputable def isS (x : Str) : Value → Bool
  | .str y _ => y == x
  | _ => false
theorem isS_at {x : Str} : ∀ {vs : List Value} {ss : List Str}, StrsAre vs ss → ∀ (i : Nat) (h : i < vs.length) (h' : i < ss.length), isS x vs[i] = (ss[i] == x)
  | _, _, .cons y t r, 0, _, _ => rfl
  | _, _, .cons y t r, i + 1, h, h' => isS_at r i (by simpa using h) (by simpa using h')
theorem isS_eq {A : Around} {x : Str} {t : Tok} {vs : List Value} {ss : List Str} (h : StrsAre vs ss) : ∀ y ∈ vs, EqAt A s y (.str x t) (isS x y) := by
  induction h with
  | nil => intro y hy; cases hy
  | cons z u r ih =>
    intro y hy
    rcases List.mem_cons.mp hy with rfl | hy
    · exact EqAt.str_str z u x t
    · exact ih y hy
theorem index_strs {l : Addr} {vs : List Value} {ss : List Str} {x : Str} {t : Tok} (hl : s.heap.IsList l vs.toArray) (hi : StrsAre vs ss) (hlen : ss.length ≤ 1000) (hk : x ∈ ss)
    (h : Q (.int (ss.idxOf x : Nat) s.toks) { s with toks := s.toks + 1 }) : wpAny (model P0 w) A (call (.builtin "list.index") [.ref l, .str x t]) Q E s := by
  obtain ⟨⟨cls, dd, data, sl⟩, ho, hc, n, hd⟩ := id hl
  simp only at hc hd
  subst hc hd
  have hle := StrsAre.length hi
  have hj : ss.idxOf x < ss.length := List.idxOf_lt_length_iff.mpr hk
  refine call_meets PySem.F.slot_list_index ⟨_, ho, rfl⟩ PySem.F.entry_list_index (PySem.F.args_list_index_2 _ _)
    (list_indexAt l vs.toArray n dd sl (.str x t) (isS x) (ss.idxOf x) (by simpa [hle] using hj) (by omega) ?_ ?_) ⟨ho, fun y hy => isS_eq hi y (by simpa using hy), h⟩
  · show isS x vs[ss.idxOf x] = true
    rw [isS_at hi _ (by omega) hj]
    simpa using List.getElem_idxOf hj
  · intro j hjs hlt
    show isS x vs[j] = false
    rw [isS_at hi j (by simpa using hjs) (by omega)]
    have := List.not_of_lt_findIdx (p := fun y => y == x) (xs := ss) hlt
    simpa using this

theorem retL_news {xs : List Str} {g h : Heap} {L l n : Nat} {m : Str → Option Value} {items : Array Value} {tk : Nat} {news : List (Addr × Obj)} (R : RetL s Q xs) (hg : g = hideAll s.heap []) (F : Fr g L h m) (N : News g L h ((l, PySem.W.listOf items n) :: news)) (e : strsOf items.toList = some xs) : Q (.ref l) ⟨h, s.gens, s.drawn, tk, s.os⟩ := by
  subst hg
  exact R l n items h tk (kp_hide F) (N _ (.head _)).2.2 (N _ (.head _)).1 (strsOf_are e)
theorem mod_as {a c : Int} {t u : Tok} (h : Int.fmod a 3 = c) (k : Q (.int c s.toks) { s with toks := s.toks + 1 }) : wpAny (model P0 w) A (binaryOp .Mod (.int a t) (.int 3 u)) Q E s := by
  subst h
  exact mod_int (by decide) k
local macro_rules | `(tactic| walk_at "binaryOp Mod int int") => `(tactic| (k_here; (with_reducible show wpAny _ _ (binaryOp _ (Value.int _ _) (Value.int 3 _)) _ _ _); refine mod_as (by assumption) ?_))
theorem may_as {k c : Nat} (h : k % 3 = c) (hc : c < 3) (h8 : k ≠ 8) : may k = may c ∧ ∀ x, wish x k = wish x c := by
  have e : may k = may c := by
    rcases (show c = 0 ∨ c = 1 ∨ c = 2 by omega) with rfl | rfl | rfl <;> simp [may, two, four, h, h8]
  refine ⟨e, fun x => ?_⟩
  unfold wish
  rw [e, h, Nat.mod_eq_of_lt hc]
theorem c_wishesA (W : Wd w p loose mean mg mb H) (hs : H.StaysIn s.heap) (ok : Ok 1 A) (x : Str) (t u : Tok) (k : Nat) (hk : Int.fmod (k : Int) 3 = 0) (hx : x = Str.ofString "-" ∨ x = Str.ofString "r") (hret : RetL s Q (wish x 0)) :
    wpAny (model P0 w) A (call (.ref 101) [.str x t, .int (k : Int) u]) Q E s := by
  refine wp_weaken ok ?_
  clear ok
  refine wpAny_call ?_
  k_dflt (refine' enterK (binds := [(Str.ofString "sign", .str x t), (Str.ofString "k", .int (k : Int) u)]) W hs [] [] ?hX ?hN (ok_AL (by decide)).room ?ho ?hcd ?hbind ?hloc ?_ ?hcell ?a ?b ?c; (case hX => exact fun _ h => nomatch h); (case hN => exact fun _ h => nomatch h); (case ho => k_is); (case hcd => k_is); (case hbind => exact BindsTo.of_eq rfl); (case hloc => exact locs rfl); (case hcell => decide); (case a => rfl); (case b => rfl); (case c => rfl); k_whole; intro g L h₁ hg hL F0 N0 X T st hk; (try dsimp only); (try k_fold))
  (repeat' (first | (k_unfold; (try dsimp only)) | ((first | with_reducible show wpAny _ _ _ _ _ _ | with_reducible show @ite _ _ _ _ _ | with_reducible show And _ _); walk1) | (dsimp only; (first | with_reducible show wpAny _ _ _ _ _ _ | with_reducible show @ite _ _ _ _ _ | with_reducible show And _ _); walk1)))
  all_goals (rcases hx with rfl | rfl <;> first
    | exact absurd (show (Str.ofString "-" == Str.ofString "-") = false by assumption) (by decide +kernel) | exact absurd (show ¬ (Str.ofString "-" == Str.ofString "-") = true by assumption) (by decide +kernel)
    | exact absurd (show (Str.ofString "r" == Str.ofString "-") = true by assumption) (by decide +kernel)
    | exact retL_news (s := s) hret hg (by assumption) (by assumption) (by kernel_rfl))
theorem c_wishesB (W : Wd w p loose mean mg mb H) (hs : H.StaysIn s.heap) (ok : Ok 1 A) (x : Str) (t u : Tok) (k : Nat) (hk : Int.fmod (k : Int) 3 = 1) (hx : x = Str.ofString "-" ∨ x = Str.ofString "w") (hret : RetL s Q (wish x 1)) :
    wpAny (model P0 w) A (call (.ref 101) [.str x t, .int (k : Int) u]) Q E s := by
  refine wp_weaken ok ?_
  clear ok
  refine wpAny_call ?_
  k_dflt (refine' enterK (binds := [(Str.ofString "sign", .str x t), (Str.ofString "k", .int (k : Int) u)]) W hs [] [] ?hX ?hN (ok_AL (by decide)).room ?ho ?hcd ?hbind ?hloc ?_ ?hcell ?a ?b ?c; (case hX => exact fun _ h => nomatch h); (case hN => exact fun _ h => nomatch h); (case ho => k_is); (case hcd => k_is); (case hbind => exact BindsTo.of_eq rfl); (case hloc => exact locs rfl); (case hcell => decide); (case a => rfl); (case b => rfl); (case c => rfl); k_whole; intro g L h₁ hg hL F0 N0 X T st hk; (try dsimp only); (try k_fold))
  (repeat' (first | (k_unfold; (try dsimp only)) | ((first | with_reducible show wpAny _ _ _ _ _ _ | with_reducible show @ite _ _ _ _ _ | with_reducible show And _ _); walk1) | (dsimp only; (first | with_reducible show wpAny _ _ _ _ _ _ | with_reducible show @ite _ _ _ _ _ | with_reducible show And _ _); walk1)))
  all_goals (rcases hx with rfl | rfl <;> first
    | exact absurd (show (Str.ofString "-" == Str.ofString "-") = false by assumption) (by decide +kernel) | exact absurd (show ¬ (Str.ofString "-" == Str.ofString "-") = true by assumption) (by decide +kernel)
    | exact absurd (show (Str.ofString "w" == Str.ofString "-") = true by assumption) (by decide +kernel)
    | exact retL_news (s := s) hret hg (by assumption) (by assumption) (by kernel_rfl))
theorem c_wishesC (W : Wd w p loose mean mg mb H) (hs : H.StaysIn s.heap) (ok : Ok 1 A) (x : Str) (t u : Tok) (k : Nat) (hk : Int.fmod (k : Int) 3 = 2) (h8 : (k : Int) ≠ 8) (hx : x = Str.ofString "-" ∨ x = Str.ofString "S" ∨ x = Str.ofString "x" ∨ x = Str.ofString "s") (hret : RetL s Q (wish x 2)) :
    wpAny (model P0 w) A (call (.ref 101) [.str x t, .int (k : Int) u]) Q E s := by
  refine wp_weaken ok ?_
  clear ok
  refine wpAny_call ?_
  k_dflt (refine' enterK (binds := [(Str.ofString "sign", .str x t), (Str.ofString "k", .int (k : Int) u)]) W hs [] [] ?hX ?hN (ok_AL (by decide)).room ?ho ?hcd ?hbind ?hloc ?_ ?hcell ?a ?b ?c; (case hX => exact fun _ h => nomatch h); (case hN => exact fun _ h => nomatch h); (case ho => k_is); (case hcd => k_is); (case hbind => exact BindsTo.of_eq rfl); (case hloc => exact locs rfl); (case hcell => decide); (case a => rfl); (case b => rfl); (case c => rfl); k_whole; intro g L h₁ hg hL F0 N0 X T st hk; (try dsimp only); (try k_fold))
  (repeat' (first | (k_unfold; (try dsimp only)) | ((first | with_reducible show wpAny _ _ _ _ _ _ | with_reducible show @ite _ _ _ _ _ | with_reducible show And _ _); walk1) | (dsimp only; (first | with_reducible show wpAny _ _ _ _ _ _ | with_reducible show @ite _ _ _ _ _ | with_reducible show And _ _); walk1)))
  all_goals first | (exfalso; omega) | skip
  rename News _ _ _ _ => N1
  refine index_strs (N1.isList (.head _)) (ss := four 2) (strsOf_are (by kernel_rfl)) (by decide) (by rcases hx with rfl | rfl | rfl | rfl <;> decide +kernel) ?_
  rcases hx with rfl | rfl | rfl | rfl
  · rw [show (((four 2).idxOf (Str.ofString "-") : Nat) : Int) = 0 from by decide +kernel]
    (repeat' (first | (k_unfold; (try dsimp only)) | ((first | with_reducible show wpAny _ _ _ _ _ _ | with_reducible show @ite _ _ _ _ _ | with_reducible show And _ _); walk1) | (dsimp only; (first | with_reducible show wpAny _ _ _ _ _ _ | with_reducible show @ite _ _ _ _ _ | with_reducible show And _ _); walk1)))
    exact retL_news (s := s) hret hg (by assumption) (by assumption) (by kernel_rfl)
  · rw [show (((four 2).idxOf (Str.ofString "S") : Nat) : Int) = 1 from by decide +kernel]
    (repeat' (first | (k_unfold; (try dsimp only)) | ((first | with_reducible show wpAny _ _ _ _ _ _ | with_reducible show @ite _ _ _ _ _ | with_reducible show And _ _); walk1) | (dsimp only; (first | with_reducible show wpAny _ _ _ _ _ _ | with_reducible show @ite _ _ _ _ _ | with_reducible show And _ _); walk1)))
    exact retL_news (s := s) hret hg (by assumption) (by assumption) (by kernel_rfl)
  · rw [show (((four 2).idxOf (Str.ofString "x") : Nat) : Int) = 2 from by decide +kernel]
    (repeat' (first | (k_unfold; (try dsimp only)) | ((first | with_reducible show wpAny _ _ _ _ _ _ | with_reducible show @ite _ _ _ _ _ | with_reducible show And _ _); walk1) | (dsimp only; (first | with_reducible show wpAny _ _ _ _ _ _ | with_reducible show @ite _ _ _ _ _ | with_reducible show And _ _); walk1)))
    exact retL_news (s := s) hret hg (by assumption) (by assumption) (by kernel_rfl)
  · rw [show (((four 2).idxOf (Str.ofString "s") : Nat) : Int) = 3 from by decide +kernel]
    (repeat' (first | (k_unfold; (try dsimp only)) | ((first | with_reducible show wpAny _ _ _ _ _ _ | with_reducible show @ite _ _ _ _ _ | with_reducible show And _ _); walk1) | (dsimp only; (first | with_reducible show wpAny _ _ _ _ _ _ | with_reducible show @ite _ _ _ _ _ | with_reducible show And _ _); walk1)))
    exact retL_news (s := s) hret hg (by assumption) (by assumption) (by kernel_rfl)
theorem c_wishes8 (W : Wd w p loose mean mg mb H) (hs : H.StaysIn s.heap) (ok : Ok 1 A) (x : Str) (t u : Tok) (hx : x = Str.ofString "-" ∨ x = Str.ofString "T" ∨ x = Str.ofString "x" ∨ x = Str.ofString "t") (hret : RetL s Q (wish x 8)) :
    wpAny (model P0 w) A (call (.ref 101) [.str x t, .int 8 u]) Q E s := by
  refine wp_weaken ok ?_
  clear ok
  refine wpAny_call ?_
  k_dflt (refine' enterK (binds := [(Str.ofString "sign", .str x t), (Str.ofString "k", .int 8 u)]) W hs [] [] ?hX ?hN (ok_AL (by decide)).room ?ho ?hcd ?hbind ?hloc ?_ ?hcell ?a ?b ?c; (case hX => exact fun _ h => nomatch h); (case hN => exact fun _ h => nomatch h); (case ho => k_is); (case hcd => k_is); (case hbind => exact BindsTo.of_eq rfl); (case hloc => exact locs rfl); (case hcell => decide); (case a => rfl); (case b => rfl); (case c => rfl); k_whole; intro g L h₁ hg hL F0 N0 X T st hk; (try dsimp only); (try k_fold))
  (repeat' (first | (k_unfold; (try dsimp only)) | ((first | with_reducible show wpAny _ _ _ _ _ _ | with_reducible show @ite _ _ _ _ _ | with_reducible show And _ _); walk1) | (dsimp only; (first | with_reducible show wpAny _ _ _ _ _ _ | with_reducible show @ite _ _ _ _ _ | with_reducible show And _ _); walk1)))
  rename News _ _ _ _ => N1
  refine index_strs (N1.isList (.head _)) (ss := four 8) (strsOf_are (by kernel_rfl)) (by decide) (by rcases hx with rfl | rfl | rfl | rfl <;> decide +kernel) ?_
  rcases hx with rfl | rfl | rfl | rfl
  · rw [show (((four 8).idxOf (Str.ofString "-") : Nat) : Int) = 0 from by decide +kernel]
    (repeat' (first | (k_unfold; (try dsimp only)) | ((first | with_reducible show wpAny _ _ _ _ _ _ | with_reducible show @ite _ _ _ _ _ | with_reducible show And _ _); walk1) | (dsimp only; (first | with_reducible show wpAny _ _ _ _ _ _ | with_reducible show @ite _ _ _ _ _ | with_reducible show And _ _); walk1)))
    exact retL_news (s := s) hret hg (by assumption) (by assumption) (by kernel_rfl)
  · rw [show (((four 8).idxOf (Str.ofString "T") : Nat) : Int) = 1 from by decide +kernel]
    (repeat' (first | (k_unfold; (try dsimp only)) | ((first | with_reducible show wpAny _ _ _ _ _ _ | with_reducible show @ite _ _ _ _ _ | with_reducible show And _ _); walk1) | (dsimp only; (first | with_reducible show wpAny _ _ _ _ _ _ | with_reducible show @ite _ _ _ _ _ | with_reducible show And _ _); walk1)))
    exact retL_news (s := s) hret hg (by assumption) (by assumption) (by kernel_rfl)
  · rw [show (((four 8).idxOf (Str.ofString "x") : Nat) : Int) = 2 from by decide +kernel]
    (repeat' (first | (k_unfold; (try dsimp only)) | ((first | with_reducible show wpAny _ _ _ _ _ _ | with_reducible show @ite _ _ _ _ _ | with_reducible show And _ _); walk1) | (dsimp only; (first | with_reducible show wpAny _ _ _ _ _ _ | with_reducible show @ite _ _ _ _ _ | with_reducible show And _ _); walk1)))
    exact retL_news (s := s) hret hg (by assumption) (by assumption) (by kernel_rfl)
  · rw [show (((four 8).idxOf (Str.ofString "t") : Nat) : Int) = 3 from by decide +kernel]
    (repeat' (first | (k_unfold; (try dsimp only)) | ((first | with_reducible show wpAny _ _ _ _ _ _ | with_reducible show @ite _ _ _ _ _ | with_reducible show And _ _); walk1) | (dsimp only; (first | with_reducible show wpAny _ _ _ _ _ _ | with_reducible show @ite _ _ _ _ _ | with_reducible show And _ _); walk1)))
    exact retL_news (s := s) hret hg (by assumption) (by assumption) (by kernel_rfl)
theorem c_wishes (W : Wd w p loose mean mg mb H) (hs : H.StaysIn s.heap) (ok : Ok 1 A) (x : Str) (k : Nat) (t u : Tok) (hk : k < 9) (hx : x ∈ may k) (hret : RetL s Q (wish x k)) :
    wpAny (model P0 w) A (call (.ref 101) [.str x t, .int (k : Int) u]) Q E s := by
  by_cases h8 : k = 8
  · subst h8
    exact c_wishes8 W hs ok x t u (by simpa [may, four] using hx) hret
  have hm : Int.fmod (k : Int) 3 = ((k % 3 : Nat) : Int) := by
    rw [Int.fmod_eq_emod_of_nonneg _ (by decide)]
    omega
  rcases (show k % 3 = 0 ∨ k % 3 = 1 ∨ k % 3 = 2 by omega) with h | h | h
  · obtain ⟨e1, e2⟩ := may_as h (by decide) h8
    rw [e1] at hx
    rw [e2] at hret
    exact c_wishesA W hs ok x t u k (by rw [hm, h]; rfl) (by simpa [may, two] using hx) hret
  · obtain ⟨e1, e2⟩ := may_as h (by decide) h8
    rw [e1] at hx
    rw [e2] at hret
    exact c_wishesB W hs ok x t u k (by rw [hm, h]; rfl) (by simpa [may, two] using hx) hret
  · obtain ⟨e1, e2⟩ := may_as h (by decide) h8
    rw [e1] at hx
    rw [e2] at hret
    exact c_wishesC W hs ok x t u k (by rw [hm, h]; rfl) (by omega) (by simpa [may, four] using hx) hret
end
end Mine
end
theorem Mine.t_resetSL : True := by
  first | (walk1; fail "no") | trivial

section
open PySem PySem.W PyProof.Rows PySem.Spec PySem.Calls PySem.W.X
set_option maxRecDepth 100000
set_option maxHeartbeats 8000000
namespace Mine
theorem t_offSL : True := by
  w_top off
  trivial
section
variable {w : World} {p : Program} {loose : List Str} {mean : ExcName → Option Value} {mg mb : Str → Option Value} {H : Heap} {s : Shared} {A : Around} {Q E : Value → Shared → Prop}
noncomputable abbrev slObj (n : Int) (u : Tok) : Obj := { cls := .type "slice", data := .fields #[.none, .int n u, .none] }
noncomputable def RetSl (s : Shared) (Q : Value → Shared → Prop) (n : Int) (u : Tok) : Prop := ∀ a h' tk, (∀ b o, s.heap.get? b = some o → h'.get? b = some o) → s.heap.get? a = none → h'.get? a = some (slObj n u) → Q (.ref a) { s with heap := h', toks := tk }
theorem retSl_mem {n : Int} {u : Tok} {a : Addr} {h : Heap} {tk : Nat} (R : RetSl s Q n u) (D : Mem s.heap h [] [(a, slObj n u)]) : Q (.ref a) ⟨h, s.gens, s.drawn, tk, s.os⟩ :=
  R a h tk (fun b o q => D.keep b o q (by simp [away])) (D.nw _ (.head _)).2 (D.nw _ (.head _)).1
local macro_rules | `(tactic| x_close) => `(tactic| exact retSl_mem (by assumption) (by assumption))
theorem c_slice (W : Wd w p loose mean mg mb H) (hs : H.StaysIn s.heap) (ok : Ok 1 A) (n : Int) (u : Tok) (hret : RetSl s Q n u) : wpAny (model P0 w) A (call (.type "slice") [.none, .int n u]) Q E s := by
  refine wp_weaken ok ?_
  clear ok
  have KX : (hd.heap_39 w.params).In s.heap := W.X.keeps hs
  x_run
theorem k_slice {g : Heap} {L : Addr} {m : Str → Option Value} {news : List (Addr × Obj)} (F : Fr g L s.heap m) (N : News g L s.heap news) (W : Wd w p loose mean mg mb H) (st : H.StaysIn g) (ok : Ok 1 A) (n : Int) (u : Tok)
    (k : ∀ a h' tk, Fr g L h' m → News g L h' ((a, slObj n u) :: news) → (∀ q ∈ news, q.1 ≠ a) → Q (.ref a) { s with heap := h', toks := tk }) : wpAny (model P0 w) A (call (.type "slice") [.none, .int n u]) Q E s :=
  c_slice W (fun b o e => F.keep b o (st b o e)) ok n u fun a h' tk kp n1 e1 => k a h' tk (fr_keep F (Kp.of kp)) (news_new F n1 e1 (news_keep N (Kp.of kp))) (fun q hq => news_lt N hq n1)
end
end Mine
end

section
open PySem PySem.W PyProof.Rows PySem.Spec PySem.Calls PySem.W.X
set_option maxRecDepth 100000
set_option maxHeartbeats 8000000
namespace Mine
noncomputable def bodyD : Stmt → List Stmt
  | .FunctionDef _ _ b _ _ _ _ _ _ _ => b
  | _ => []
noncomputable def thenD : Stmt → List Stmt
  | .If _ b _ _ => b
  | _ => []
noncomputable def elseD : Stmt → List Stmt
  | .If _ _ b _ => b
  | _ => []
noncomputable def partsD : Stmt → Arguments × List Stmt × Scope × Pos
  | .FunctionDef _ a b _ _ _ sc _ _ p => (a, b, sc, p)
  | _ => ({ posonlyargs := [], args := [], vararg := none, kwonlyargs := [], kw_defaults := [], kwarg := none, defaults := [] }, [], default, default)
noncomputable def nthS (l : List Stmt) (n : Nat) : Stmt := l.getD n (.Pass default)
noncomputable def selParts : Arguments × List Stmt × Scope × Pos := by
  refine (fun (x : Arguments × List Stmt × Scope × Pos) (_ : partsD (nthS (thenD (nthS (elseD (nthS (elseD (nthS (elseD (nthS (bodyD (nthS PySem.Challenge.pw_op0074_01.main.body 1)) 1)) 0)) 0)) 0)) 2) = (x.1, x.2.1, x.2.2.1, x.2.2.2)) => x) (?a, ?b, ?c, ?d) ?h
  case h => exact rfl
noncomputable def selQual : Str := Str.ofString "_prepare_tag.<locals>.select"
/-- the state of _prepare_tag's table of codes -/
noncomputable def TabSel (h : Heap) : Prop := h.get? 16 = some (tabObj #[]) ∨ ∃ c, h.get? 16 = some (tabObj #[rawInt 31, rawInt 8, .ref c]) ∧ h.CodeRec (.ref c) selQual ∧ c ≠ 16
noncomputable def slO (n : Int) (t : Tok) : Obj := { cls := .type "slice", data := .fields #[.none, .int n t, .none] }
structure SelAt (h₀ h : Heap) (f : Addr) (ns : Str) (c1 c2 c3 c4 a : Addr) (o1 o2 o3 o4 : Obj) (t : Tok) (so : Obj) (doc pm ct : Value) (c : Addr) : Prop where
  fn : h.get? f = some (fnMade (Str.ofString "select") selQual selParts.1 selParts.2.1 selParts.2.2.1 [(Str.ofString "ns_only", c1), (Str.ofString "ns", c2), (Str.ofString "_str", c3), (Str.ofString "_isinstance", c4)] doc pm c ct)
  code : h.CodeRec (.ref c) selQual
  g1 : h.get? c1 = some o1
  g2 : h.get? c2 = some o2
  g3 : h.get? c3 = some o3
  g4 : h.get? c4 = some o4
  ga : h.get? a = some so
  d1 : o1.data = .cell (some (.ref a))
  d2 : o2.data = .cell (some (.str ns t))
  d3 : o3.data = .cell (some (.type "str"))
  d4 : o4.data = .cell (some (.builtin "isinstance"))
  n0 : h₀.get? f = none
  n1 : h₀.get? c1 = none
  n2 : h₀.get? c2 = none
  n3 : h₀.get? c3 = none
  n4 : h₀.get? c4 = none
  na : h₀.get? a = none
theorem old_none {h h' : Heap} {X : List Addr} {L : Addr} {news : List (Addr × Obj)} (N : News (hideAll h X) L h' news) {x : Addr} {o : Obj} (hq : (x, o) ∈ news) (hx : x ∉ X) : h.get? x = none := by
  cases q : h.get? x with
  | none => rfl
  | some o' =>
    have := hideAll_get X q hx
    rw [(N _ hq).2.2] at this; cases this
theorem old_new {h : Heap} {x : Addr} (q : h.objs.size ≤ x) : h.get? x = none := Heap.get?_none_of_le q
end Mine
end
theorem Mine.t_resetPT : True := by
  first | (walk1; fail "no") | trivial

section
open PySem PySem.W PyProof.Rows PySem.Spec PySem.Calls PySem.W.X
set_option maxRecDepth 100000
set_option maxHeartbeats 8000000
namespace Mine
theorem t_offPT : True := by
  w_top off
  trivial
theorem ite_negB {b : Bool} {p q : Prop} (h : b = false) (k : q) : if b = true then p else q := by rw [h]; exact k
theorem ite_posB {b : Bool} {p q : Prop} (h : b = true) (k : p) : if b = true then p else q := by rw [h]; exact k
section
variable {w : World} {p : Program} {loose : List Str} {mean : ExcName → Option Value} {mg mb : Str → Option Value} {H : Heap} {s : Shared} {A : Around} {Q E : Value → Shared → Prop}
noncomputable def RetSel (s : Shared) (Q : Value → Shared → Prop) (ns : Str) : Prop := ∀ f h' tk c1 c2 c3 c4 a o1 o2 o3 o4 t u doc pm ct c, Kp [16] s.heap h' → TabSel h' → SelAt s.heap h' f ns c1 c2 c3 c4 a o1 o2 o3 o4 t (slObj ns.length u) doc pm ct c → Q (.ref f) { s with heap := h', toks := tk }
theorem c_prep (W : Wd w p loose mean mg mb H) (hs : H.StaysIn s.heap) (ok : Ok 2 A) (x : Str) (t : Tok) (hlen : x.length ≤ 1000)
    (h1 : (x == Str.ofString "{*}*") = false) (h2 : (x == Str.ofString "{}*") = false) (h3 : (Txt.slice x none (some 3) == Str.ofString "{*}") = false) (h4 : (Txt.slice x (some (-2)) none == Str.ofString "}*") = true)
    (hT : TabSel s.heap) (hret : RetSel s Q (Txt.slice x none (some (-1)))) :
    wpAny (model P0 w) A (call (.ref 21) [.str x t]) Q E s := by
  refine wp_weaken ok ?_
  clear ok
  obtain ⟨ps, h16⟩ : ∃ ps, s.heap.get? 16 = some (tabObj ps) := by
    rcases hT with e | ⟨c, e, _⟩
    · exact ⟨_, e⟩
    · exact ⟨_, e⟩
  refine wpAny_call ?_
  k_dflt (refine' enterKC (binds := [(Str.ofString "tag", .str x t)]) W hs [16] [(16, tabObj ps)] ?hX ?hN (ok_AL (by decide)).room ?ho ?hcd ?hbind ?hkind ?hnd ?_ ?a ?b ?c; (case hX => intro z hz; rw [List.mem_singleton.mp hz]; exact W.n2); (case hN => intro z hz; rw [List.mem_singleton.mp hz]; exact ⟨h16, .head _⟩); (case ho => k_is); (case hcd => k_is); (case hbind => exact BindsTo.of_eq rfl); (case hkind => exact rfl); (case hnd => decide +kernel); (case a => rfl); (case b => rfl); (case c => rfl); k_whole; intro g L h₁ tk₁ cells hg hL F0 N0 Y X T st hk lt16; k_lt lt16; k_cells Y; (try simp only [List.cons_append, List.nil_append, List.append_nil] at N0); (try dsimp only); (try k_fold))
  have C2 : CodeHd g 20 16 := W.c2.keeps st
  have stt : TabState g 16 selQual 31 8 ps := by
    rcases hT with e | ⟨c, e, code, n⟩
    · rw [h16] at e; cases e; exact .inl rfl
    · rw [h16] at e; cases e
      exact .inr ⟨c, rfl, code.at fun o e => by rw [hg]; exact hideAll_get [16] e (fun q => n (List.mem_singleton.mp q)), n⟩
  (try dsimp only)
  refine hideQ fun Q' E' hQ _ => ?_
  (repeat' (first | (k_unfold; (try dsimp only)) | ((first | with_reducible show wpAny _ _ _ _ _ _ | with_reducible show @ite _ _ _ _ _ | with_reducible show And _ _); (first | (with_reducible show wpAny _ _ (exec (Stmt.FunctionDef _ _ _ _ _ _ _ _ _ _) _) _ _ _; (k_here; kn_here; k_dflt (refine' nestDef_K ?d0 ?k0 ?a0 ?_; (case d0 => exact rfl); (case k0 => exact rfl); (case a0 => exact rfl)); k_dflt (refine' nest_any ?F ?N ?T ?C ?cd ?U ?stt ?cl ?_; (case F => k_asm); (case N => k_asm); (case T => k_asm); (case cd => exact rfl); (case C => kn_code); (case U => k_updF); (case stt => assumption); (case cl => exact rfl); k_whole); intro f' c' cx' ox' ct' dc' h' tk' F' N' cd' n1' n2' n3'; (try dsimp only at N'); (replace n2' := gnNe_of n2'); (replace n3' := gnNe_of n3'); (simp only [GnNe, and_true] at n2' n3'))) | (with_reducible show wpAny _ _ (call (Value.type "slice") _) _ _ _; (k_here; k_dflt (refine' k_slice ?F ?N (by assumption) (by assumption) (Ok.deeper (ok_AL (n := 2) (by decide))) _ _ ?_; (case F => k_asm); (case N => k_asm)); k_whole; intro a' h' tk' F' N' l1; (replace l1 := gnNe_of l1); (simp only [GnNe, and_true] at l1); (have l6 := off_to l1.2.2.1); (have l9 := off_to l1.2.2.2.2.2.2.2.2); clear l1)) | (k_here; (with_reducible show wpAny _ _ (eval (Expr.Name (PySem.Str.ofString "slice") _) _) _ _ _); k_dflt (refine' nameX_B (v := .type "slice") ?F ?X ?T ?e ?hv ?hn ?_ ?h1 ?h2 ?h3; (case F => k_asm); (case X => k_asm); (case T => k_asm); (case e => k_is); (case hv => kernel_rfl); (case hn => decide); (case h1 => rfl); (case h2 => rfl); (case h3 => decide))) | (with_reducible show @ite _ _ _ _ _; first | refine ite_negB (by assumption) ?_ | refine ite_posB (by assumption) ?_) | walk1)) | (dsimp only; (first | with_reducible show wpAny _ _ _ _ _ _ | with_reducible show @ite _ _ _ _ _ | with_reducible show And _ _); (first | (with_reducible show wpAny _ _ (exec (Stmt.FunctionDef _ _ _ _ _ _ _ _ _ _) _) _ _ _; (k_here; kn_here; k_dflt (refine' nestDef_K ?d0 ?k0 ?a0 ?_; (case d0 => exact rfl); (case k0 => exact rfl); (case a0 => exact rfl)); k_dflt (refine' nest_any ?F ?N ?T ?C ?cd ?U ?stt ?cl ?_; (case F => k_asm); (case N => k_asm); (case T => k_asm); (case cd => exact rfl); (case C => kn_code); (case U => k_updF); (case stt => assumption); (case cl => exact rfl); k_whole); intro f' c' cx' ox' ct' dc' h' tk' F' N' cd' n1' n2' n3'; (try dsimp only at N'); (replace n2' := gnNe_of n2'); (replace n3' := gnNe_of n3'); (simp only [GnNe, and_true] at n2' n3'))) | (with_reducible show wpAny _ _ (call (Value.type "slice") _) _ _ _; (k_here; k_dflt (refine' k_slice ?F ?N (by assumption) (by assumption) (Ok.deeper (ok_AL (n := 2) (by decide))) _ _ ?_; (case F => k_asm); (case N => k_asm)); k_whole; intro a' h' tk' F' N' l1; (replace l1 := gnNe_of l1); (simp only [GnNe, and_true] at l1); (have l6 := off_to l1.2.2.1); (have l9 := off_to l1.2.2.2.2.2.2.2.2); clear l1)) | (k_here; (with_reducible show wpAny _ _ (eval (Expr.Name (PySem.Str.ofString "slice") _) _) _ _ _); k_dflt (refine' nameX_B (v := .type "slice") ?F ?X ?T ?e ?hv ?hn ?_ ?h1 ?h2 ?h3; (case F => k_asm); (case X => k_asm); (case T => k_asm); (case e => k_is); (case hv => kernel_rfl); (case hn => decide); (case h1 => rfl); (case h2 => rfl); (case h3 => decide))) | (with_reducible show @ite _ _ _ _ _; first | refine ite_negB (by assumption) ?_ | refine ite_posB (by assumption) ?_) | walk1))))
  refine hQ _ _ ?_
  (try dsimp only)
  rename Fr _ _ _ _ => F1
  rename News _ _ _ _ => N1
  rename (∀ h'' : Heap, _ → _ → Heap.CodeRec h'' _ _) => code1
  subst hg
  have code2 := code1 _ (N1 (_, _) (by k_mem)).1 F1.keep
  refine hret _ _ _ _ _ _ _ _ _ _ _ _ _ _ _ _ _ _ (kp_hide F1) (.inr ⟨_, (N1 (16, _) (by k_mem)).1, code2, by assumption⟩) ⟨(N1 _ (.head _)).1, code2, (N1 (_, _) (by k_mem)).1, (N1 (_, _) (by k_mem)).1, (N1 (_, _) (by k_mem)).1, (N1 (_, _) (by k_mem)).1, (N1 (_, _) (by k_mem)).1, by assumption, by assumption, by assumption, by assumption, old_none N1 (by k_mem) (fun q => ?_), old_new (by omega), old_new (by omega), old_new (by omega), old_new (by omega), old_none N1 (by k_mem) (fun q => ?_)⟩
  all_goals first
    | exact ne_of (by assumption) (List.mem_singleton.mp q)
    | (have q2 := @Nat.le_of_eq _ _ (List.mem_singleton.mp q)
       have q3 := @Nat.le_of_eq _ _ (List.mem_singleton.mp q).symm
       omega)
end
end Mine
end
end

section
open PySem PySem.W PyProof.Rows PySem.Spec PySem.Calls PySem.W.X
open Builtin Builtin.ObjectAttr
set_option maxRecDepth 100000
set_option maxHeartbeats 8000000
namespace Mine
noncomputable def DictIs (o : Obj) (m : Str → Option Value) : Prop := ∃ es ep, o.data = .dict es ep ∧ StrKeys es ∧ UniqKeys es ∧ ∀ name, nsFind es name = m name
theorem DictIs.ns1 {h : Heap} {a : Addr} {o : Obj} {m : Str → Option Value} (d : DictIs o m) (e : h.get? a = some o) : h.Ns1 a m := let ⟨es, ep, r⟩ := d; ⟨o, es, ep, e, r⟩
section
variable {prog : Program} {w : World} {A : Around} {E : Value → Shared → Prop} {h : Heap} {g : Array GenState} {d : Drawn} {t : Nat} {os : OsState} {x dx : Addr} {o od : Obj} {m : Str → Option Value} {name : Str} {v : Value}
theorem slot_fn_set : Slot "function" "__setattr__" "object.__setattr__" := .of (owner := "object") (n := "__setattr__") (by rw [typeLookup_type, builtinLookup_eq_fast]; kernel_rfl) (by decide +kernel) (by decide +kernel) (by decide +kernel)
    (by first | exact .inl (by decide +kernel) | exact .inr (by decide +kernel)) (by rw [isSubtype_type]; kernel_rfl)
theorem args_set (a b c : Value) : argsOk "object.__setattr__" ⟨[a, b, c], []⟩ := by unfold argsOk; kernel_rfl
theorem mro_fn : mroOf (.type "function") = pure [.type "function", .type "object"] := by kernel_rfl
theorem pass_fn (self : Value) : refuseLoop self "__setattr__" [.type "function", .type "object"] = pure () := by kernel_rfl
theorem lk_number : typeLookup (.type "function") (Str.ofString "number") = pure none := by rw [typeLookup_type, builtinLookup_eq_fast]; kernel_rfl
theorem lk_tag : typeLookup (.type "function") (Str.ofString "tag") = pure none := by rw [typeLookup_type, builtinLookup_eq_fast]; kernel_rfl
/-- an object gets a dict of its own: what lies where behind it -/
theorem dict_given (hx : h.get? x = some o) : ∃ h₁ : Heap, ((h.push { cls := .type "dict", data := .dict #[] }).update x fun o => { cls := o.cls, dict := some h.objs.size, data := o.data, slots := o.slots }) = h₁ ∧
    h₁.get? x = some { cls := o.cls, dict := some h.objs.size, data := o.data, slots := o.slots } ∧ h₁.Ns1 h.objs.size (fun _ => none) ∧ ∀ b ob, b ≠ x → h.get? b = some ob → h₁.get? b = some ob := by
  have apart : h.objs.size ≠ x := fun q => by
    have := Heap.lt_size hx
    rw [← q] at this
    exact Nat.lt_irrefl _ this
  refine ⟨_, rfl, ?_, ?_, fun b ob hb e => ?_⟩
  · refine Heap.get?_update_self _ (Heap.get?_push_of_some _ hx) ?_
    have alive := (Heap.get?_some_iff.mp hx).2
    cases o with
    | mk oc od odt osl => cases odt <;> first | rfl | exact alive
  · refine Heap.Ns1.of_empty ⟨{ cls := .type "dict", data := .dict #[] }, _, _, ?_, rfl, fun e he => by simp at he, fun _ => rfl⟩
    rw [Heap.get?_update_ne _ _ _ _ apart]
    exact Heap.get?_push_at rfl rfl
  · rw [Heap.get?_update_ne _ _ _ _ hb]
    exact Heap.get?_push_of_some _ e
/-- a value is stored under a text in a dict of few texts -/
theorem store_text {tk : Tok} {Q : Fin → Shared → Prop} {ns : List Str} (hm : h.Ns1 dx m) (hw : Within m ns) (hsz : ns.length ≤ 100)
    (hq : ∀ h' tk' od', h'.get? dx = some od' → DictIs od' (fun y => if y = name then some v else m y) → (∀ b ob, b ≠ dx → h.get? b = some ob → h'.get? b = some ob) → Q (.done (.ret .none)) ⟨h', g, d, tk', os⟩) :
    wpAny (model prog w) A (storeInDict dx (.str name tk) name v) Q E ⟨h, g, d, t, os⟩ := by
  unfold storeInDict newKeyGuard
  refine wpAny_bind (wpAny_pure (wpAny_bind (wpAny_nsSet1 hm fun h' now same => ?_)))
  have few := now.count (Within.cons name v hw)
  obtain ⟨o1, es1, ep1, at1, isd, len⟩ := few
  have line : es1.size ≤ sizeLine + 1 := by
    have l2 : (name :: ns).length ≤ 101 := by rw [List.length_cons]; omega
    have l3 : (101 : Nat) ≤ sizeLine := by decide
    omega
  refine wpAny_bind (wpAny_lookBehind at1 (by rw [isd]; exact pastItsLine_dict line) ?_)
  wp_walk
  obtain ⟨o2, es2, ep2, at2, facts⟩ := now
  exact hq h' _ o2 at2 ⟨es2, ep2, facts⟩ fun b ob hb e => by rw [same.2 b hb]; exact e
theorem set_entry {tk : Tok} {Q : Fin → Shared → Prop} (hB : typeLookup (.type "function") name = pure none) (hx : h.get? x = some o) (hc : o.cls = .type "function") (hnc : ∀ c, o.data ≠ .cls c) (hdn : o.dict = none)
    (hq : ∀ h' tk' dx od, h'.get? x = some { o with dict := some dx } → h'.get? dx = some od → DictIs od (fun y => if y = name then some v else none) → dx ≠ x → h.get? dx = none → (∀ b ob, b ≠ x → h.get? b = some ob → h'.get? b = some ob) → Q (.done (.ret .none)) ⟨h', g, d, tk', os⟩) :
    wpAny (model prog w) A (Builtin.«object.__setattr__» ⟨[.ref x, .str name tk, v], []⟩) Q E ⟨h, g, d, t, os⟩ := by
  unfold Builtin.«object.__setattr__»
  repeat (first | rw [refuse_eq] | (rw [pass_fn]) | rw [mro_fn] | rw [hB] | (with_reducible refine wpAny_loadPart_at hx ?_; rw [hc]) | wp_step)
  rw [hdn]
  dsimp only
  rw [if_neg (by decide +kernel)]
  split
  · exact absurd (by assumption) (hnc _)
  refine wpAny_bind (wpAny_alloc' (wpAny_bind (wpAny_update' (Heap.get?_push_of_some _ hx) (wpAny_pure ?_))))
  obtain ⟨h₁, e₁, atx, fresh, others⟩ := dict_given hx
  rw [e₁]
  show wpAny _ _ (storeInDict h.objs.size (.str name tk) name v) _ _ _
  refine store_text (ns := []) fresh Within.nil (Nat.zero_le _) fun h' tk' od' a b c => ?_
  have lx : x < h.objs.size := Heap.lt_size hx
  exact hq h' tk' _ od' (c _ _ (Nat.ne_of_lt lx) atx) a b (Nat.ne_of_gt lx) (Heap.get?_none_of_le (Nat.le_refl _)) fun b ob hb e => c b ob (Nat.ne_of_lt (Heap.lt_size e)) (others b ob hb e)
theorem set_entry2 {tk : Tok} {Q : Fin → Shared → Prop} {ns : List Str} (hB : typeLookup (.type "function") name = pure none) (hx : h.get? x = some o) (hc : o.cls = .type "function") (hdx : o.dict = some dx) (hne : dx ≠ x) (hod : h.get? dx = some od) (hm : DictIs od m) (hw : Within m ns) (hsz : ns.length ≤ 100)
    (hq : ∀ h' tk' od', h'.get? dx = some od' → DictIs od' (fun y => if y = name then some v else m y) → (∀ b ob, b ≠ dx → h.get? b = some ob → h'.get? b = some ob) → Q (.done (.ret .none)) ⟨h', g, d, tk', os⟩) :
    wpAny (model prog w) A (Builtin.«object.__setattr__» ⟨[.ref x, .str name tk, v], []⟩) Q E ⟨h, g, d, t, os⟩ := by
  unfold Builtin.«object.__setattr__»
  repeat (first | rw [refuse_eq] | (rw [pass_fn]) | rw [mro_fn] | rw [hB] | (with_reducible refine wpAny_loadPart_at hx ?_; rw [hc]) | wp_step)
  rw [hdx]
  refine wpAny_pure ?_
  show wpAny _ _ (storeInDict dx (.str name tk) name v) _ _ _
  exact store_text (hm.ns1 hod) hw hsz hq
theorem w_set {Q : Unit → Shared → Prop} (hB : typeLookup (.type "function") name = pure none) (hx : h.get? x = some o) (hc : o.cls = .type "function") (hnc : ∀ c, o.data ≠ .cls c) (hdn : o.dict = none)
    (hq : ∀ h' tk' dx od, h'.get? x = some { o with dict := some dx } → h'.get? dx = some od → DictIs od (fun y => if y = name then some v else none) → dx ≠ x → h.get? dx = none → (∀ b ob, b ≠ x → h.get? b = some ob → h'.get? b = some ob) → Q () ⟨h', g, d, tk', os⟩) :
    wpAny (model prog w) A (setAttr (.ref x) name v) Q E ⟨h, g, d, t, os⟩ := by
  have hT : Shared.TypeIs ⟨h, g, d, t + 1, os⟩ (.ref x) "function" := ⟨o, hx, hc⟩
  unfold setAttr
  refine wpAny_bind (wpAny_mkText (wpAny_bind (wpAny_callSpecial?_slot hT slot_fn_set (wpAny_call_entry slot_fn_set hT F.entry_object_sa ?_ (args_set _ _ _)))))
  exact set_entry hB hx hc hnc hdn (fun h' tk' dx od a1 a2 a3 a4 a5 a6 => ⟨.none, rfl, wpAny_pure (hq h' tk' dx od a1 a2 a3 a4 a5 a6)⟩)
theorem w_set2 {Q : Unit → Shared → Prop} {ns : List Str} (hB : typeLookup (.type "function") name = pure none) (hx : h.get? x = some o) (hc : o.cls = .type "function") (hdx : o.dict = some dx) (hne : dx ≠ x) (hod : h.get? dx = some od) (hm : DictIs od m) (hw : Within m ns) (hsz : ns.length ≤ 100)
    (hq : ∀ h' tk' od', h'.get? dx = some od' → DictIs od' (fun y => if y = name then some v else m y) → (∀ b ob, b ≠ dx → h.get? b = some ob → h'.get? b = some ob) → Q () ⟨h', g, d, tk', os⟩) :
    wpAny (model prog w) A (setAttr (.ref x) name v) Q E ⟨h, g, d, t, os⟩ := by
  have hT : Shared.TypeIs ⟨h, g, d, t + 1, os⟩ (.ref x) "function" := ⟨o, hx, hc⟩
  unfold setAttr
  refine wpAny_bind (wpAny_mkText (wpAny_bind (wpAny_callSpecial?_slot hT slot_fn_set (wpAny_call_entry slot_fn_set hT F.entry_object_sa ?_ (args_set _ _ _)))))
  exact set_entry2 hB hx hc hdx hne hod hm hw hsz (fun h' tk' od a1 a2 a3 => ⟨.none, rfl, wpAny_pure (hq h' tk' od a1 a2 a3)⟩)
theorem slot_fn_ga : Slot "function" "__getattribute__" "object.__getattribute__" := .of (owner := "object") (n := "__getattribute__") (by rw [typeLookup_type, builtinLookup_eq_fast]; kernel_rfl) (by decide +kernel) (by decide +kernel) (by decide +kernel)
    (by first | exact .inl (by decide +kernel) | exact .inr (by decide +kernel)) (by rw [isSubtype_type]; kernel_rfl)
theorem entry_ga : entryFor table "object.__getattribute__" = some Builtin.«object.__getattribute__» := entryFor_of_tree (by kernel_rfl)
theorem args_ga (a b : Value) : argsOk "object.__getattribute__" ⟨[a, b], []⟩ := by unfold argsOk; kernel_rfl
theorem get_entry {tk : Tok} {Q : Fin → Shared → Prop} (hB : typeLookup (.type "function") name = pure none) (hx : h.get? x = some o) (hc : o.cls = .type "function") (hnc : ∀ c, o.data ≠ .cls c) (hdx : o.dict = some dx) (hod : h.get? dx = some od) (hm : DictIs od m) (hv : m name = some v)
    (hq : Q (.done (.ret v)) ⟨h, g, d, t, os⟩) :
    wpAny (model prog w) A (Builtin.«object.__getattribute__» ⟨[.ref x, .str name tk], []⟩) Q E ⟨h, g, d, t, os⟩ := by
  unfold Builtin.«object.__getattribute__»
  repeat (first | rw [mro_fn] | rw [hB] | (with_reducible refine wpAny_loadPart_at hx ?_; rw [hc]) | wp_step)
  split
  · rename_i c hcd
    exact absurd hcd (hnc c)
  unfold instanceDict
  repeat (first | (with_reducible refine wpAny_loadPart_at hx ?_; rw [hc]) | wp_step)
  rw [hdx]
  repeat (first | (with_reducible refine wpAny_nsGet (hm.ns1 hod).ns ?_; rw [hv]) | wp_step)
  exact hq
theorem w_get {ex : Bool} {Q : Value → Shared → Prop} (hB : typeLookup (.type "function") name = pure none) (hx : h.get? x = some o) (hc : o.cls = .type "function") (hnc : ∀ c, o.data ≠ .cls c) (hdx : o.dict = some dx) (hod : h.get? dx = some od) (hm : DictIs od m) (hv : m name = some v) (hh : handedOut v = pure v)
    (hq : Q v ⟨h, g, d, t + 1, os⟩) :
    wpAny (model prog w) A (getAttr (.ref x) name ex) Q E ⟨h, g, d, t, os⟩ := by
  have hT : Shared.TypeIs ⟨h, g, d, t + 1, os⟩ (.ref x) "function" := ⟨o, hx, hc⟩
  unfold getAttr getAttrBy
  refine wpAny_bind (wpAny_mkText (wpAny_holding (wpAny_bind (wpAny_typeOf hT (wpAny_bind ?_)))))
  rw [show (("__getattribute__" : Str)) = Str.ofString "__getattribute__" from rfl, slot_fn_ga.lookup]
  refine wpAny_pure ?_
  show wpAny _ _ (getAttrByItsOwn (.ref x) (.str name t) (.type "function") (.builtin "object.__getattribute__") true ex) Q E _
  unfold getAttrByItsOwn hookBefore
  refine wpAny_bind (wpAny_pure (wpAny_bind (wpAny_attempt (wpAny_holding ?_))))
  unfold callGetattribute
  rw [if_neg (by simp [onTheHeap])]
  unfold boundAndCalled
  rw [slot_fn_ga.bind]
  refine wpAny_bind (wpAny_pure ?_)
  refine wpAny_call_entry slot_fn_ga hT entry_ga (get_entry hB hx hc hnc hdx hod hm hv ⟨v, rfl, ?_⟩) (args_ga _ _)
  show wpAny _ _ (handedOut v) _ _ _
  rw [hh]
  exact wpAny_pure hq
end
end Mine
end

section
open PySem PySem.W PyProof.Rows PySem.Spec PySem.Calls PySem.W.X
set_option maxRecDepth 100000
set_option maxHeartbeats 8000000
namespace Mine
noncomputable def cp (x : Str) : List Nat := x.cps.toList
theorem cp_ext {x y : Str} (h : cp x = cp y) : x = y := by
  cases x; cases y
  simp only [cp] at h
  rw [Array.toList_inj.mp h]
theorem cp_app (a b : Str) : cp (a ++ b) = cp a ++ cp b := by
  show (a.cps ++ b.cps).toList = _
  simp [cp]
theorem cp_len (a : Str) : (cp a).length = a.length := by simp [cp, Str.length]
theorem cp_join0 : ∀ l : List Str, cp (Txt.join (Str.ofString "") l) = (l.map cp).flatten := by
  intro l
  show cp (Builtin.Str.glued (PySem.Str.ofString "") l) = _
  rw [StrLaws.glued_eq_join]
  induction l with
  | nil => rfl
  | cons a r ih =>
    cases r with
    | nil => show cp a = _; simp
    | cons b r =>
      show cp (a ++ Str.ofString "" ++ Str.join (Str.ofString "") (b :: r)) = _
      rw [cp_app, cp_app, ih, show cp (Str.ofString "") = [] from by decide +kernel]
      simp
theorem fm_range {α : Type} : ∀ (c : Nat) (st : Nat) (l : List α), st + c ≤ l.length → ((List.range c).map (fun k => st + k)).filterMap (l[·]?) = (l.drop st).take c := by
  intro c
  induction c with
  | zero => intro st l _; simp
  | succ c ih =>
    intro st l h
    rw [List.range_succ, List.map_append, List.filterMap_append, ih st l (by omega)]
    rw [List.take_add_one, List.getElem?_drop]
    have e : l[st + c]? = some (l[st + c]'(by omega)) := List.getElem?_eq_getElem (by omega)
    simp only [List.map_cons, List.map_nil, List.filterMap_cons, List.filterMap_nil, e]
    rfl
theorem cp_slice (x : Str) (l u : Option Int) (st c : Nat) (e : Builtin.Str.strSliceIndices l u 1 x.length = (List.range c).map (fun k => st + k)) (h : st + c ≤ x.length) : cp (Txt.slice x l u) = ((cp x).drop st).take c := by
  have hl : (cp x).length = x.length := cp_len x
  unfold Txt.slice
  rw [e]
  split
  · rename_i q
    simp only [List.length_map, List.length_range, beq_self_eq_true, Bool.true_and, beq_iff_eq] at q
    have : st = 0 := by omega
    subst this
    rw [List.drop_zero, List.take_of_length_le (by omega)]
  · show ((List.range c).map (fun k => st + k)).filterMap (x.cps[·]?) = _
    rw [← fm_range c st (cp x) (by omega)]
    simp [cp]
theorem idx_of (l u : Option Int) (n st c : Nat) (a b : Int) (ha : (match l with | none => (0 : Int) | some i => max 0 (min (if i < 0 then i + n else i) n)) = a) (hb : (match u with | none => (n : Int) | some i => max 0 (min (if i < 0 then i + n else i) n)) = b) (h1 : a = st) (h2 : (if a < b then b - a else 0) = c) :
    Builtin.Str.strSliceIndices l u 1 n = (List.range c).map (fun k => st + k) := by
  have k1 : (1 : Int) > 0 := by decide
  have e : Builtin.Str.strSliceIndices l u 1 n = sliceRange a b 1 := by
    subst ha; subst hb
    unfold Builtin.Str.strSliceIndices
    cases l <;> cases u <;> simp only [k1, if_true]
  rw [e]
  unfold sliceRange
  simp only [k1, if_true]
  have : (if a < b then (b - a + 1 - 1) / 1 else 0) = (c : Int) := by
    rw [← h2]
    split
    · simp
    · rfl
  rw [this, Int.toNat_natCast]
  refine List.map_congr_left fun k _ => ?_
  rw [h1]
  omega
theorem cp_take (x : Str) (n : Nat) : cp (Txt.slice x none (some (n : Int))) = (cp x).take n := by
  rw [cp_slice x none (some (n : Int)) 0 (min n x.length) (idx_of _ _ _ _ _ 0 (min (n : Int) x.length) rfl (by dsimp only; omega) rfl (by omega)) (by omega), List.drop_zero]
  by_cases h : n ≤ x.length
  · rw [Nat.min_eq_left h]
  · rw [Nat.min_eq_right (by omega), List.take_of_length_le (by rw [cp_len]; exact Nat.le_refl _), List.take_of_length_le (by rw [cp_len]; omega)]
theorem cp_drop1 (x : Str) (h : 1 ≤ x.length) : cp (Txt.slice x (some 1) none) = (cp x).drop 1 := by
  rw [cp_slice x (some 1) none 1 (x.length - 1) (idx_of _ _ _ _ _ 1 x.length (by dsimp only; omega) rfl rfl (by omega)) (by omega)]
  exact List.take_of_length_le (by rw [List.length_drop, cp_len]; exact Nat.le_refl _)
theorem cp_init (x : Str) : cp (Txt.slice x none (some (-1))) = (cp x).take (x.length - 1) := by
  rw [cp_slice x none (some (-1)) 0 (x.length - 1) (idx_of _ _ _ _ _ 0 ((x.length - 1 : Nat) : Int) rfl (by dsimp only; omega) rfl (by omega)) (by omega), List.drop_zero]
theorem cp_last2 (x : Str) (h : 2 ≤ x.length) : cp (Txt.slice x (some (-2)) none) = (cp x).drop (x.length - 2) := by
  rw [cp_slice x (some (-2)) none (x.length - 2) 2 (idx_of _ _ _ _ _ ((x.length - 2 : Nat) : Int) x.length (by dsimp only; omega) rfl rfl (by omega)) (by omega)]
  exact List.take_of_length_le (by rw [List.length_drop, cp_len]; omega)
end Mine
end

section
open PySem PySem.W PyProof.Rows PySem.Spec PySem.Calls PySem.W.X
set_option maxRecDepth 100000
set_option maxHeartbeats 8000000
namespace Mine
noncomputable def fc (m : Int) (i : Nat) : Nat := (cp (fmc m i)).headD 0
theorem cp_fmc (m : Int) (i : Nat) : cp (fmc m i) = [fc m i] := by
  have h : (cp (fmc m i)).length = 1 := by rw [cp_len, fmc_len]
  unfold fc
  match hq : cp (fmc m i), h with
  | [a], _ => rfl
theorem fmc_eq (m : Int) (i : Nat) : fmc m i = ⟨#[fc m i]⟩ := cp_ext (by rw [cp_fmc]; rfl)
theorem flat1 {α : Type} (f : α → List Nat) (g : α → Nat) (h : ∀ a, f a = [g a]) : ∀ l : List α, (l.map f).flatten = l.map g
  | [] => rfl
  | a :: r => by rw [List.map_cons, List.flatten_cons, h a, flat1 f g h r]; rfl
theorem cp_fmode (m : Int) : cp (fmode m) = (List.range 10).map (fc m) := by
  unfold fmode
  rw [cp_join0, List.map_map]
  exact flat1 _ _ (fun i => cp_fmc m i) _
theorem fmode_len (m : Int) : (fmode m).length = 10 := by rw [← cp_len, cp_fmode]; simp
noncomputable def rowS (m : Int) : Str := Txt.slice (fmode m) (some 1) none
theorem cp_row (m : Int) : cp (rowS m) = (List.range 9).map (fun k => fc m (k + 1)) := by
  unfold rowS
  rw [cp_drop1 _ (by rw [fmode_len]; decide), cp_fmode]
  rfl
theorem row_size (m : Int) : (rowS m).cps.size = 9 := by
  have : (cp (rowS m)).length = 9 := by rw [cp_row]; simp
  simpa [cp] using this
theorem row_get (m : Int) (i : Nat) (h : i < 9) : (rowS m).cps[i]? = some (fc m (i + 1)) := by
  have : (cp (rowS m))[i]? = some (fc m (i + 1)) := by rw [cp_row]; simp [h]
  simpa [cp] using this
theorem pick_mm (f : Int → Bool) (d : Str) : ∀ l : List (Int × Str), pick f d l = d ∨ pick f d l ∈ l.map (·.2)
  | [] => .inl rfl
  | q :: r => by
    show (if f q.1 = true then q.2 else pick f d r) = d ∨ (if f q.1 = true then q.2 else pick f d r) ∈ _
    split
    · exact .inr (.head _)
    · rcases pick_mm f d r with h | h
      · exact .inl h
      · exact .inr (.tail _ h)
theorem fmc_sign (m : Int) (i : Nat) (h : i < 9) : fmc m (i + 1) ∈ signs := by
  have all : ∀ l ∈ fmTabs.drop 1, ∀ y ∈ l.map (·.2), y ∈ signs := by decide +kernel
  have hl : i + 1 < fmTabs.length := by show i + 1 < 10; omega
  have hin : fmTabs[i + 1]'hl ∈ fmTabs.drop 1 := by
    rw [List.mem_iff_getElem?]
    exact ⟨i, by rw [List.getElem?_drop, Nat.add_comm 1 i, List.getElem?_eq_getElem hl]⟩
  unfold fmc
  rw [if_neg (Nat.succ_ne_zero i), List.getD_eq_getElem?_getD, List.getElem?_eq_getElem hl]
  rcases pick_mm (fun b => Builtin.bitAnd m b == b) (Str.ofString "-") (fmTabs[i + 1]'hl) with h | h
  · show pick _ _ (fmTabs[i + 1]'hl) ∈ signs
    rw [h]; exact .head _
  · exact all _ hin _ h
/-- the tag of a file -/
noncomputable def tagL (m : Int) : List Str := (List.range 9).map (fun k => wr (fmc m (k + 1)))
noncomputable def tagS (m : Int) : Str := Txt.join (Str.ofString "") (tagL m)
theorem wr_len {x : Str} (h : x ∈ signs) : (wr x).length ≤ 3 := by
  have : ∀ x ∈ signs, (wr x).length ≤ 3 := by decide +kernel
  exact this x h
theorem tag_len (m : Int) : ((tagL m).map (·.length)).sum + (tagL m).length ≤ 100 := by
  unfold tagL
  have e : ∀ k, k < 9 → (wr (fmc m (k + 1))).length ≤ 3 := fun k h => wr_len (fmc_sign m k h)
  simp only [List.range, List.range.loop, List.map_cons, List.map_nil, List.sum_cons, List.sum_nil, List.length_cons, List.length_nil]
  have e0 := e 0 (by decide); have e1 := e 1 (by decide); have e2 := e 2 (by decide); have e3 := e 3 (by decide); have e4 := e 4 (by decide)
  have e5 := e 5 (by decide); have e6 := e 6 (by decide); have e7 := e 7 (by decide); have e8 := e 8 (by decide)
  omega
end Mine
end
theorem Mine.t_resetLF : True := by
  first | (walk1; fail "no") | trivial

section
open PySem PySem.W PyProof.Rows PySem.Spec PySem.Calls PySem.W.X
set_option maxRecDepth 100000
set_option maxHeartbeats 8000000
namespace Mine
theorem t_offLF : True := by
  w_top off
  trivial
section
variable {w : World} {p : Program} {loose : List Str} {mean : ExcName → Option Value} {mg mb : Str → Option Value} {H : Heap} {s : Shared} {A : Around} {Q E : Value → Shared → Prop}
theorem fr_comp {g h₂ h3 : Heap} {L C : Addr} {wr : List Addr} {m m3 : Str → Option Value} (F : Fr g L h₂ m) (hw : ∀ b ∈ wr, g.get? b = none) (hC : h₂.objs.size ≤ C) (hns : h3.Ns C m3) (hk : ∀ b o, b ∉ wr → h₂.get? b = some o → h3.get? b = some o) : Fr g C h3 m3 :=
  ⟨hns, fun b o e => hk b o (fun q => by rw [hw b q] at e; cases e) (F.keep b o e), Nat.le_trans F.above (Nat.le_trans (Nat.le_of_lt F.ns.lt) hC)⟩
theorem fr_push {g h : Heap} {L : Addr} {m : Str → Option Value} (F : Fr g L h m) (o : Obj) : Fr g L (h.push o) m := fr_keep F (Kp.of fun _ _ e => Heap.get?_push_of_some o e)
theorem fr_size {g h : Heap} {L : Addr} {m : Str → Option Value} (F : Fr g L h m) : g.get? h.objs.size = none := Heap.get?_none_of_le (Nat.le_trans F.above (Nat.le_of_lt F.ns.lt))
theorem Paired.at {α β : Type} {R : α → β → Prop} : ∀ {l : List α} {k : List β}, Paired R l k → ∀ (j : Nat) (a : α), l[j]? = some a → ∃ b, k[j]? = some b ∧ R a b := by
  intro l k p
  induction p with
  | nil => intro j a h; simp at h
  | cons hab t ih =>
    intro j a h
    cases j with
    | zero => simp at h; subst h; exact ⟨_, rfl, hab⟩
    | succ j =>
      simp at h
      obtain ⟨b, hb, hr⟩ := ih j a h
      exact ⟨b, by simpa using hb, hr⟩
theorem filter_all {α : Type} (l : List α) : l.filter (fun _ => true) = l := by simp
theorem Kp.app {X : List Addr} {h h' : Heap} (k : Kp X h h') (n : ∀ b ∈ X, h.get? b = none) : ∀ b o, h.get? b = some o → h'.get? b = some o := fun b o e => k b o e (fun q => by rw [n b q] at e; cases e)
/-- a file -/
noncomputable def FileAt (h : Heap) (a : Addr) (n : Int) (x : Str) : Prop := ∃ o dx od m t u, h.get? a = some o ∧ o.cls = .type "function" ∧ (∃ fd, o.data = .func fd) ∧ o.dict = some dx ∧ h.get? dx = some od ∧ DictIs od m ∧ m (Str.ofString "number") = some (.int n t) ∧ m (Str.ofString "tag") = some (.str x u)
theorem FileAt.keeps {h h' : Heap} {a : Addr} {n : Int} {x : Str} (f : FileAt h a n x) (k : ∀ b o, h.get? b = some o → h'.get? b = some o) : FileAt h' a n x := by
  obtain ⟨o, dx, od, m, t, u, e1, c, nc, d, e2, r⟩ := f
  exact ⟨o, dx, od, m, t, u, k _ _ e1, c, nc, d, k _ _ e2, r⟩
noncomputable def lamQual : Str := Str.ofString "_law_file.<locals>.<lambda>"
noncomputable def TabLam (h : Heap) : Prop := h.get? 86 = some (tabObj #[]) ∨ ∃ c, h.get? 86 = some (tabObj #[rawInt 97, rawInt 12, .ref c]) ∧ c ≠ 86
/-- the attributes of a are new -/
noncomputable def DictNew (h₀ h : Heap) (a : Addr) : Prop := ∀ o dx, h.get? a = some o → o.dict = some dx → h₀.get? dx = none
noncomputable def RetF (s : Shared) (Q : Value → Shared → Prop) (n m : Int) : Prop := ∀ a h' tk, Kp [86] s.heap h' → TabLam h' → s.heap.get? a = none → FileAt h' a n (tagS m) → DictNew s.heap h' a → Q (.ref a) { s with heap := h', toks := tk }
noncomputable def WrF (v y : Value) : Prop := ∃ x t u, v = .str x t ∧ y = .str (wr x) u
theorem news_set {g h h' : Heap} {L x dx : Addr} {o o' od : Obj} {mm : Str → Option Value} {rest : List (Addr × Obj)} (F : Fr g L h mm) (N : News g L h ((x, o) :: rest)) (e1 : h'.get? x = some o') (e2 : h'.get? dx = some od) (fr : h.get? dx = none) (k : ∀ b ob, b ≠ x → h.get? b = some ob → h'.get? b = some ob) (ne : ∀ q ∈ rest, q.1 ≠ x) : News g L h' ((dx, od) :: (x, o') :: rest) :=
  news_new F fr e2 (news_turn N k e1 ne)
theorem k_fmode {g : Heap} {L : Addr} {m : Str → Option Value} {news : List (Addr × Obj)} (F : Fr g L s.heap m) (N : News g L s.heap news) (W : Wd w p loose mean mg mb H) (st : H.StaysIn g) (ok : Ok 3 A) (x : Int) (t : Tok)
    (k : ∀ u h' tk, Fr g L h' m → News g L h' news → Q (.str (fmode x) u) { s with heap := h', toks := tk }) : wpAny (model P0 w) A (call (.ref 77) [.int x t]) Q E s :=
  c_filemode W (fun b o e => F.keep b o (st b o e)) (ok.less (by decide)) x t fun u h' tk kp => k u h' tk (fr_keep F kp) (news_keep N kp)
theorem c_file1 (W : Wd w p loose mean mg mb H) (hs : H.StaysIn s.heap) (ok : Ok 4 A) (n : Int) (m : Int) (t u : Tok)
    (hT : s.heap.get? 86 = some (tabObj #[])) (hret : RetF s Q n m) :
    wpAny (model P0 w) A (call (.ref 89) [.int n t, .int m u]) Q E s := by
  refine wp_weaken ok ?_
  clear ok
  refine wpAny_call ?_
  k_dflt (refine' enterK (binds := [(Str.ofString "number", .int n t), (Str.ofString "mode", .int m u)]) W hs [86] [(86, tabObj #[])] ?hX ?hN (ok_AL (by decide)).room ?ho ?hcd ?hbind ?hloc ?_ ?hcell ?a ?b ?c; (case hX => intro z hz; rw [List.mem_singleton.mp hz]; exact W.n3); (case hN => intro z hz; rw [List.mem_singleton.mp hz]; exact ⟨hT, .head _⟩); (case ho => k_is); (case hcd => k_is); (case hbind => exact BindsTo.of_eq rfl); (case hloc => exact locs rfl); (case hcell => decide); (case a => rfl); (case b => rfl); (case c => rfl); k_whole; intro g L h₁ hg hL F0 N0 X T st hk; (try dsimp only); (try k_fold))
  have C2 : CodeHd g 88 86 := W.c3.keeps st
  (try dsimp only)
  (repeat' (first | (k_unfold; (try dsimp only)) | ((first | with_reducible show wpAny _ _ _ _ _ _ | with_reducible show @ite _ _ _ _ _ | with_reducible show And _ _); (first | (with_reducible show wpAny _ _ (call (Value.ref _) _) _ _ _; (k_here; k_dflt (refine' k_fmode ?F ?N (by assumption) (by assumption) (Ok.deeper (ok_AL (n := 4) (by decide))) _ _ ?_; (case F => k_asm); (case N => k_asm)); k_whole; intro _ _ _ _ _)) | (with_reducible show wpAny _ _ (eval (Expr.ListComp _ _ _ _) _) _ _ _; (k_here; k_dflt (refine' wpAny_ListComp_free (cl := []) (fun _ => true) WrF ?h1 ?h2 ?h3 ?h4 ?h5 ?_ ?h6; (case h1 => rfl); (case h2 => decide); (case h3 => rfl); (case h4 => decide); (case h5 => rfl); (case h6 => intro _; rfl)); k_whole; (try dsimp only))) | walk1)) | (dsimp only; (first | with_reducible show wpAny _ _ _ _ _ _ | with_reducible show @ite _ _ _ _ _ | with_reducible show And _ _); (first | (with_reducible show wpAny _ _ (call (Value.ref _) _) _ _ _; (k_here; k_dflt (refine' k_fmode ?F ?N (by assumption) (by assumption) (Ok.deeper (ok_AL (n := 4) (by decide))) _ _ ?_; (case F => k_asm); (case N => k_asm)); k_whole; intro _ _ _ _ _)) | (with_reducible show wpAny _ _ (eval (Expr.ListComp _ _ _ _) _) _ _ _; (k_here; k_dflt (refine' wpAny_ListComp_free (cl := []) (fun _ => true) WrF ?h1 ?h2 ?h3 ?h4 ?h5 ?_ ?h6; (case h1 => rfl); (case h2 => decide); (case h3 => rfl); (case h4 => decide); (case h5 => rfl); (case h6 => intro _; rfl)); k_whole; (try dsimp only))) | walk1))))
  rename Fr _ _ _ _ => F1
  rename News _ _ _ _ => N1
  rename_i hl1 hl2 _
  refine w_set lk_number (N1 _ (.head _)).1 rfl (fun c h => by cases h) rfl ?_
  intro h' tk' dx od e1 e2 dI ne1 fr1 k1
  have F2 := fr_turn F1 (N1 _ (.head _)).2 k1
  dsimp only at e1
  have N2 := news_set F1 N1 e1 e2 fr1 k1 (by
    intro q hq
    rcases List.mem_cons.mp hq with rfl | hq
    · exact Nat.ne_of_lt hl2
    · rw [List.mem_singleton.mp hq]
      exact Nat.ne_of_lt (Nat.lt_trans hl1 hl2))
  have nd := fun (q : Addr × Obj) hq => news_lt (q := q) N1 hq fr1
  clear F1 N1 e1 e2 k1
  have lm : (fmode m).length ≤ 1000 := by rw [fmode_len]; decide
  dsimp only
  (repeat' (first | (k_unfold; (try dsimp only)) | ((first | with_reducible show wpAny _ _ _ _ _ _ | with_reducible show @ite _ _ _ _ _ | with_reducible show And _ _); (first | (with_reducible show wpAny _ _ (call (Value.ref _) _) _ _ _; (k_here; k_dflt (refine' k_fmode ?F ?N (by assumption) (by assumption) (Ok.deeper (ok_AL (n := 4) (by decide))) _ _ ?_; (case F => k_asm); (case N => k_asm)); k_whole; intro _ _ _ _ _)) | (with_reducible show wpAny _ _ (eval (Expr.ListComp _ _ _ _) _) _ _ _; (k_here; k_dflt (refine' wpAny_ListComp_free (cl := []) (fun _ => true) WrF ?h1 ?h2 ?h3 ?h4 ?h5 ?_ ?h6; (case h1 => rfl); (case h2 => decide); (case h3 => rfl); (case h4 => decide); (case h5 => rfl); (case h6 => intro _; rfl)); k_whole; (try dsimp only))) | walk1)) | (dsimp only; (first | with_reducible show wpAny _ _ _ _ _ _ | with_reducible show @ite _ _ _ _ _ | with_reducible show And _ _); (first | (with_reducible show wpAny _ _ (call (Value.ref _) _) _ _ _; (k_here; k_dflt (refine' k_fmode ?F ?N (by assumption) (by assumption) (Ok.deeper (ok_AL (n := 4) (by decide))) _ _ ?_; (case F => k_asm); (case N => k_asm)); k_whole; intro _ _ _ _ _)) | (with_reducible show wpAny _ _ (eval (Expr.ListComp _ _ _ _) _) _ _ _; (k_here; k_dflt (refine' wpAny_ListComp_free (cl := []) (fun _ => true) WrF ?h1 ?h2 ?h3 ?h4 ?h5 ?_ ?h6; (case h1 => rfl); (case h2 => decide); (case h3 => rfl); (case h4 => decide); (case h5 => rfl); (case h6 => intro _; rfl)); k_whole; (try dsimp only))) | walk1))))
  refine wpAny_pyIter_str ?_
  intro o St Wk st0
  dsimp only
  rename Fr _ _ _ _ => F3
  rename News _ _ _ _ => N3
  refine ⟨_, _, _, _, _, _, rfl, Wk _ rfl, ?hn, st0, ?hfp, ⟨?tests, ?elt⟩, ?cont⟩
  case hn => show (rowS m).cps.size ≤ _; rw [row_size]; decide
  case hfp => intro b hb; rw [List.mem_singleton.mp hb]; show _ < (Heap.push _ _).objs.size; rw [Heap.size_push]; exact Nat.lt_succ_self _
  case tests => intro C i v s3 m3 E' _ _ _ _ _ _; exact wpAny_tests_nil ⟨rfl, s3.heap, s3.toks, rfl, fun _ _ e => e⟩
  case elt =>
    intro C i v s3 m3 E' hC hP _ hns hm3 hk3 _
    obtain ⟨c, u3, hcu, rfl⟩ := hP
    have hi : i < 9 := by
      rw [← row_size m]
      exact (Array.getElem?_eq_some_iff.mp hcu).1
    have hcc : (⟨#[c]⟩ : Str) = fmc m (i + 1) := by
      have := row_get m i hi
      rw [show (rowS m).cps[i]? = some c from hcu] at this
      rw [fmc_eq, Option.some.inj this]
    rw [hcc] at hm3 ⊢
    dsimp only at hC hk3
    have F4 : Fr g C s3.heap m3 := fr_comp (fr_push F3 o) (fun b hb => by rw [List.mem_singleton.mp hb]; exact fr_size F3) hC hns hk3
    have N4 : News g C s3.heap [] := fun q hq => nomatch hq
    have st3 : H.StaysIn s3.heap := fun b o e => F4.keep b o (st b o e)
    clear F3 N3 F2 N2
    (try dsimp only)
    (repeat' (first | (k_unfold; (try dsimp only)) | ((first | with_reducible show wpAny _ _ _ _ _ _ | with_reducible show @ite _ _ _ _ _ | with_reducible show And _ _); (first | (with_reducible show wpAny _ _ (call (Value.ref _) _) _ _ _; (k_here; k_dflt (refine' k_fmode ?F ?N (by assumption) (by assumption) (Ok.deeper (ok_AL (n := 4) (by decide))) _ _ ?_; (case F => k_asm); (case N => k_asm)); k_whole; intro _ _ _ _ _)) | (with_reducible show wpAny _ _ (eval (Expr.ListComp _ _ _ _) _) _ _ _; (k_here; k_dflt (refine' wpAny_ListComp_free (cl := []) (fun _ => true) WrF ?h1 ?h2 ?h3 ?h4 ?h5 ?_ ?h6; (case h1 => rfl); (case h2 => decide); (case h3 => rfl); (case h4 => decide); (case h5 => rfl); (case h6 => intro _; rfl)); k_whole; (try dsimp only))) | walk1)) | (dsimp only; (first | with_reducible show wpAny _ _ _ _ _ _ | with_reducible show @ite _ _ _ _ _ | with_reducible show And _ _); (first | (with_reducible show wpAny _ _ (call (Value.ref _) _) _ _ _; (k_here; k_dflt (refine' k_fmode ?F ?N (by assumption) (by assumption) (Ok.deeper (ok_AL (n := 4) (by decide))) _ _ ?_; (case F => k_asm); (case N => k_asm)); k_whole; intro _ _ _ _ _)) | (with_reducible show wpAny _ _ (eval (Expr.ListComp _ _ _ _) _) _ _ _; (k_here; k_dflt (refine' wpAny_ListComp_free (cl := []) (fun _ => true) WrF ?h1 ?h2 ?h3 ?h4 ?h5 ?_ ?h6; (case h1 => rfl); (case h2 => decide); (case h3 => rfl); (case h4 => decide); (case h5 => rfl); (case h6 => intro _; rfl)); k_whole; (try dsimp only))) | walk1))))
    refine c_written W st3 (Ok.less (Ok.deeper (ok_AL (n := 4) (by decide))) (by decide)) _ _ (fmc_sign m i hi) ?_
    intro u4 h4 tk4 k4
    exact ⟨⟨_, _, _, rfl, rfl⟩, h4, tk4, rfl, fun b o e => k4 b o e (fun q => nomatch q)⟩
  intro D h5 tk5 ys vs nD lD pD lv hv hp k5
  dsimp only at nD lD lv k5
  have up : ∀ b o, Heap.get? _ b = some o → h5.get? b = some o := fun b o e => k5 b o (fun q => absurd (List.mem_singleton.mp q) (Nat.ne_of_lt (Heap.lt_size e))) (Heap.get?_push_of_some _ e)
  have F5 := fr_keep F3 (Kp.of up)
  have N5 := news_keep N3 (Kp.of up)
  have hS : StrsAre ys.toList (tagL m) := by
    rw [filter_all] at hp
    have lv9 : vs.length = 9 := lv.trans (row_size m)
    refine strs_of 9 _ _ (by rw [← hp.length, lv9]) fun j hj => ?_
    obtain ⟨v, hvj⟩ : ∃ v, vs[j]? = some v := ⟨_, List.getElem?_eq_getElem (by omega)⟩
    obtain ⟨y, hy, x, t1, t2, e1, e2⟩ := Paired.at hp j v hvj
    obtain ⟨c, u3, hcu, e3⟩ := hv j v hvj
    subst e1
    cases e3
    have := row_get m j hj
    rw [show (rowS m).cps[j]? = some c from hcu] at this
    refine ⟨t2, ?_⟩
    rw [hy, e2, fmc_eq, Option.some.inj this]
  have hsum : ((tagL m).map (·.length)).sum + (tagL m).length ≤ 1048576 := Nat.le_trans (tag_len m) (by decide)
  clear F3 N3 F2 N2
  (try dsimp only)
  (repeat' (first | (k_unfold; (try dsimp only)) | ((first | with_reducible show wpAny _ _ _ _ _ _ | with_reducible show @ite _ _ _ _ _ | with_reducible show And _ _); (first | (with_reducible show wpAny _ _ (call (Value.ref _) _) _ _ _; (k_here; k_dflt (refine' k_fmode ?F ?N (by assumption) (by assumption) (Ok.deeper (ok_AL (n := 4) (by decide))) _ _ ?_; (case F => k_asm); (case N => k_asm)); k_whole; intro _ _ _ _ _)) | (with_reducible show wpAny _ _ (eval (Expr.ListComp _ _ _ _) _) _ _ _; (k_here; k_dflt (refine' wpAny_ListComp_free (cl := []) (fun _ => true) WrF ?h1 ?h2 ?h3 ?h4 ?h5 ?_ ?h6; (case h1 => rfl); (case h2 => decide); (case h3 => rfl); (case h4 => decide); (case h5 => rfl); (case h6 => intro _; rfl)); k_whole; (try dsimp only))) | walk1)) | (dsimp only; (first | with_reducible show wpAny _ _ _ _ _ _ | with_reducible show @ite _ _ _ _ _ | with_reducible show And _ _); (first | (with_reducible show wpAny _ _ (call (Value.ref _) _) _ _ _; (k_here; k_dflt (refine' k_fmode ?F ?N (by assumption) (by assumption) (Ok.deeper (ok_AL (n := 4) (by decide))) _ _ ?_; (case F => k_asm); (case N => k_asm)); k_whole; intro _ _ _ _ _)) | (with_reducible show wpAny _ _ (eval (Expr.ListComp _ _ _ _) _) _ _ _; (k_here; k_dflt (refine' wpAny_ListComp_free (cl := []) (fun _ => true) WrF ?h1 ?h2 ?h3 ?h4 ?h5 ?_ ?h6; (case h1 => rfl); (case h2 => decide); (case h3 => rfl); (case h4 => decide); (case h5 => rfl); (case h6 => intro _; rfl)); k_whole; (try dsimp only))) | walk1))))
  refine join_listW lD hS (by decide +kernel) hsum ?_
  intro t6 k6
  (try dsimp only)
  (repeat' (first | (k_unfold; (try dsimp only)) | ((first | with_reducible show wpAny _ _ _ _ _ _ | with_reducible show @ite _ _ _ _ _ | with_reducible show And _ _); (first | (with_reducible show wpAny _ _ (call (Value.ref _) _) _ _ _; (k_here; k_dflt (refine' k_fmode ?F ?N (by assumption) (by assumption) (Ok.deeper (ok_AL (n := 4) (by decide))) _ _ ?_; (case F => k_asm); (case N => k_asm)); k_whole; intro _ _ _ _ _)) | (with_reducible show wpAny _ _ (eval (Expr.ListComp _ _ _ _) _) _ _ _; (k_here; k_dflt (refine' wpAny_ListComp_free (cl := []) (fun _ => true) WrF ?h1 ?h2 ?h3 ?h4 ?h5 ?_ ?h6; (case h1 => rfl); (case h2 => decide); (case h3 => rfl); (case h4 => decide); (case h5 => rfl); (case h6 => intro _; rfl)); k_whole; (try dsimp only))) | walk1)) | (dsimp only; (first | with_reducible show wpAny _ _ _ _ _ _ | with_reducible show @ite _ _ _ _ _ | with_reducible show And _ _); (first | (with_reducible show wpAny _ _ (call (Value.ref _) _) _ _ _; (k_here; k_dflt (refine' k_fmode ?F ?N (by assumption) (by assumption) (Ok.deeper (ok_AL (n := 4) (by decide))) _ _ ?_; (case F => k_asm); (case N => k_asm)); k_whole; intro _ _ _ _ _)) | (with_reducible show wpAny _ _ (eval (Expr.ListComp _ _ _ _) _) _ _ _; (k_here; k_dflt (refine' wpAny_ListComp_free (cl := []) (fun _ => true) WrF ?h1 ?h2 ?h3 ?h4 ?h5 ?_ ?h6; (case h1 => rfl); (case h2 => decide); (case h3 => rfl); (case h4 => decide); (case h5 => rfl); (case h6 => intro _; rfl)); k_whole; (try dsimp only))) | walk1))))
  refine w_set2 (ns := [Str.ofString "number"]) lk_tag (N5 (_, _) (.tail _ (.head _))).1 rfl rfl ne1 (N5 _ (.head _)).1 dI (Within.cons _ _ Within.nil) (by decide) ?_
  intro h7 tk7 od7 e7 dI7 k7
  have F7 := fr_turn F5 (N5 _ (.head _)).2 k7
  have N7 := news_turn N5 k7 e7 (by
    intro q hq
    rcases List.mem_cons.mp hq with rfl | hq
    · exact ne1.symm
    · exact nd q (.tail _ hq))
  clear F5 N5
  (try dsimp only)
  (repeat' (first | (k_unfold; (try dsimp only)) | ((first | with_reducible show wpAny _ _ _ _ _ _ | with_reducible show @ite _ _ _ _ _ | with_reducible show And _ _); (first | (with_reducible show wpAny _ _ (call (Value.ref _) _) _ _ _; (k_here; k_dflt (refine' k_fmode ?F ?N (by assumption) (by assumption) (Ok.deeper (ok_AL (n := 4) (by decide))) _ _ ?_; (case F => k_asm); (case N => k_asm)); k_whole; intro _ _ _ _ _)) | (with_reducible show wpAny _ _ (eval (Expr.ListComp _ _ _ _) _) _ _ _; (k_here; k_dflt (refine' wpAny_ListComp_free (cl := []) (fun _ => true) WrF ?h1 ?h2 ?h3 ?h4 ?h5 ?_ ?h6; (case h1 => rfl); (case h2 => decide); (case h3 => rfl); (case h4 => decide); (case h5 => rfl); (case h6 => intro _; rfl)); k_whole; (try dsimp only))) | walk1)) | (dsimp only; (first | with_reducible show wpAny _ _ _ _ _ _ | with_reducible show @ite _ _ _ _ _ | with_reducible show And _ _); (first | (with_reducible show wpAny _ _ (call (Value.ref _) _) _ _ _; (k_here; k_dflt (refine' k_fmode ?F ?N (by assumption) (by assumption) (Ok.deeper (ok_AL (n := 4) (by decide))) _ _ ?_; (case F => k_asm); (case N => k_asm)); k_whole; intro _ _ _ _ _)) | (with_reducible show wpAny _ _ (eval (Expr.ListComp _ _ _ _) _) _ _ _; (k_here; k_dflt (refine' wpAny_ListComp_free (cl := []) (fun _ => true) WrF ?h1 ?h2 ?h3 ?h4 ?h5 ?_ ?h6; (case h1 => rfl); (case h2 => decide); (case h3 => rfl); (case h4 => decide); (case h5 => rfl); (case h6 => intro _; rfl)); k_whole; (try dsimp only))) | walk1))))
  rename Fr _ _ _ _ => F8
  rename News _ _ _ _ => N8
  subst hg
  refine hret _ _ _ (kp_hide F8) (.inr ⟨_, (N8 (86, _) (by k_mem)).1, Nat.ne_of_gt hl1⟩) (old_none N8 (.tail _ (.head _)) (fun q => Nat.ne_of_gt (Nat.lt_trans hl1 hl2) (List.mem_singleton.mp q))) ⟨_, _, _, _, _, _, (N8 _ (.tail _ (.head _))).1, rfl, ⟨_, rfl⟩, rfl, (N8 _ (.head _)).1, dI7, rfl, rfl⟩ (fun o' dx' e1 e2 => by
    rw [(N8 _ (.tail _ (.head _))).1] at e1
    cases e1
    cases e2
    exact old_none N8 (.head _) (fun q => nd (86, _) (by k_mem) (List.mem_singleton.mp q).symm))
theorem c_file2 (W : Wd w p loose mean mg mb H) (hs : H.StaysIn s.heap) (ok : Ok 4 A) (n : Int) (m : Int) (t u : Tok)
    (cc : Addr) (hcc : cc ≠ 86) (hT : s.heap.get? 86 = some (tabObj #[rawInt 97, rawInt 12, .ref cc])) (hret : RetF s Q n m) :
    wpAny (model P0 w) A (call (.ref 89) [.int n t, .int m u]) Q E s := by
  refine wp_weaken ok ?_
  clear ok
  refine wpAny_call ?_
  k_dflt (refine' enterK (binds := [(Str.ofString "number", .int n t), (Str.ofString "mode", .int m u)]) W hs [86] [(86, tabObj #[rawInt 97, rawInt 12, .ref cc])] ?hX ?hN (ok_AL (by decide)).room ?ho ?hcd ?hbind ?hloc ?_ ?hcell ?a ?b ?c; (case hX => intro z hz; rw [List.mem_singleton.mp hz]; exact W.n3); (case hN => intro z hz; rw [List.mem_singleton.mp hz]; exact ⟨hT, .head _⟩); (case ho => k_is); (case hcd => k_is); (case hbind => exact BindsTo.of_eq rfl); (case hloc => exact locs rfl); (case hcell => decide); (case a => rfl); (case b => rfl); (case c => rfl); k_whole; intro g L h₁ hg hL F0 N0 X T st hk; (try dsimp only); (try k_fold))
  have C2 : CodeHd g 88 86 := W.c3.keeps st
  (try dsimp only)
  (repeat' (first | (k_unfold; (try dsimp only)) | ((first | with_reducible show wpAny _ _ _ _ _ _ | with_reducible show @ite _ _ _ _ _ | with_reducible show And _ _); (first | (with_reducible show wpAny _ _ (call (Value.ref _) _) _ _ _; (k_here; k_dflt (refine' k_fmode ?F ?N (by assumption) (by assumption) (Ok.deeper (ok_AL (n := 4) (by decide))) _ _ ?_; (case F => k_asm); (case N => k_asm)); k_whole; intro _ _ _ _ _)) | (with_reducible show wpAny _ _ (eval (Expr.ListComp _ _ _ _) _) _ _ _; (k_here; k_dflt (refine' wpAny_ListComp_free (cl := []) (fun _ => true) WrF ?h1 ?h2 ?h3 ?h4 ?h5 ?_ ?h6; (case h1 => rfl); (case h2 => decide); (case h3 => rfl); (case h4 => decide); (case h5 => rfl); (case h6 => intro _; rfl)); k_whole; (try dsimp only))) | walk1)) | (dsimp only; (first | with_reducible show wpAny _ _ _ _ _ _ | with_reducible show @ite _ _ _ _ _ | with_reducible show And _ _); (first | (with_reducible show wpAny _ _ (call (Value.ref _) _) _ _ _; (k_here; k_dflt (refine' k_fmode ?F ?N (by assumption) (by assumption) (Ok.deeper (ok_AL (n := 4) (by decide))) _ _ ?_; (case F => k_asm); (case N => k_asm)); k_whole; intro _ _ _ _ _)) | (with_reducible show wpAny _ _ (eval (Expr.ListComp _ _ _ _) _) _ _ _; (k_here; k_dflt (refine' wpAny_ListComp_free (cl := []) (fun _ => true) WrF ?h1 ?h2 ?h3 ?h4 ?h5 ?_ ?h6; (case h1 => rfl); (case h2 => decide); (case h3 => rfl); (case h4 => decide); (case h5 => rfl); (case h6 => intro _; rfl)); k_whole; (try dsimp only))) | walk1))))
  rename Fr _ _ _ _ => F1
  rename News _ _ _ _ => N1
  rename_i hl1 _

  refine w_set lk_number (N1 _ (.head _)).1 rfl (fun c h => by cases h) rfl ?_
  intro h' tk' dx od e1 e2 dI ne1 fr1 k1
  have F2 := fr_turn F1 (N1 _ (.head _)).2 k1
  dsimp only at e1
  have N2 := news_set F1 N1 e1 e2 fr1 k1 (by
    intro q hq
    rw [List.mem_singleton.mp hq]
    exact Nat.ne_of_lt hl1)
  have nd := fun (q : Addr × Obj) hq => news_lt (q := q) N1 hq fr1
  clear F1 N1 e1 e2 k1
  have lm : (fmode m).length ≤ 1000 := by rw [fmode_len]; decide
  dsimp only
  (repeat' (first | (k_unfold; (try dsimp only)) | ((first | with_reducible show wpAny _ _ _ _ _ _ | with_reducible show @ite _ _ _ _ _ | with_reducible show And _ _); (first | (with_reducible show wpAny _ _ (call (Value.ref _) _) _ _ _; (k_here; k_dflt (refine' k_fmode ?F ?N (by assumption) (by assumption) (Ok.deeper (ok_AL (n := 4) (by decide))) _ _ ?_; (case F => k_asm); (case N => k_asm)); k_whole; intro _ _ _ _ _)) | (with_reducible show wpAny _ _ (eval (Expr.ListComp _ _ _ _) _) _ _ _; (k_here; k_dflt (refine' wpAny_ListComp_free (cl := []) (fun _ => true) WrF ?h1 ?h2 ?h3 ?h4 ?h5 ?_ ?h6; (case h1 => rfl); (case h2 => decide); (case h3 => rfl); (case h4 => decide); (case h5 => rfl); (case h6 => intro _; rfl)); k_whole; (try dsimp only))) | walk1)) | (dsimp only; (first | with_reducible show wpAny _ _ _ _ _ _ | with_reducible show @ite _ _ _ _ _ | with_reducible show And _ _); (first | (with_reducible show wpAny _ _ (call (Value.ref _) _) _ _ _; (k_here; k_dflt (refine' k_fmode ?F ?N (by assumption) (by assumption) (Ok.deeper (ok_AL (n := 4) (by decide))) _ _ ?_; (case F => k_asm); (case N => k_asm)); k_whole; intro _ _ _ _ _)) | (with_reducible show wpAny _ _ (eval (Expr.ListComp _ _ _ _) _) _ _ _; (k_here; k_dflt (refine' wpAny_ListComp_free (cl := []) (fun _ => true) WrF ?h1 ?h2 ?h3 ?h4 ?h5 ?_ ?h6; (case h1 => rfl); (case h2 => decide); (case h3 => rfl); (case h4 => decide); (case h5 => rfl); (case h6 => intro _; rfl)); k_whole; (try dsimp only))) | walk1))))
  refine wpAny_pyIter_str ?_
  intro o St Wk st0
  dsimp only
  rename Fr _ _ _ _ => F3
  rename News _ _ _ _ => N3
  refine ⟨_, _, _, _, _, _, rfl, Wk _ rfl, ?hn, st0, ?hfp, ⟨?tests, ?elt⟩, ?cont⟩
  case hn => show (rowS m).cps.size ≤ _; rw [row_size]; decide
  case hfp => intro b hb; rw [List.mem_singleton.mp hb]; show _ < (Heap.push _ _).objs.size; rw [Heap.size_push]; exact Nat.lt_succ_self _
  case tests => intro C i v s3 m3 E' _ _ _ _ _ _; exact wpAny_tests_nil ⟨rfl, s3.heap, s3.toks, rfl, fun _ _ e => e⟩
  case elt =>
    intro C i v s3 m3 E' hC hP _ hns hm3 hk3 _
    obtain ⟨c, u3, hcu, rfl⟩ := hP
    have hi : i < 9 := by
      rw [← row_size m]
      exact (Array.getElem?_eq_some_iff.mp hcu).1
    have hcc : (⟨#[c]⟩ : Str) = fmc m (i + 1) := by
      have := row_get m i hi
      rw [show (rowS m).cps[i]? = some c from hcu] at this
      rw [fmc_eq, Option.some.inj this]
    rw [hcc] at hm3 ⊢
    dsimp only at hC hk3
    have F4 : Fr g C s3.heap m3 := fr_comp (fr_push F3 o) (fun b hb => by rw [List.mem_singleton.mp hb]; exact fr_size F3) hC hns hk3
    have N4 : News g C s3.heap [] := fun q hq => nomatch hq
    have st3 : H.StaysIn s3.heap := fun b o e => F4.keep b o (st b o e)
    clear F3 N3 F2 N2
    (try dsimp only)
    (repeat' (first | (k_unfold; (try dsimp only)) | ((first | with_reducible show wpAny _ _ _ _ _ _ | with_reducible show @ite _ _ _ _ _ | with_reducible show And _ _); (first | (with_reducible show wpAny _ _ (call (Value.ref _) _) _ _ _; (k_here; k_dflt (refine' k_fmode ?F ?N (by assumption) (by assumption) (Ok.deeper (ok_AL (n := 4) (by decide))) _ _ ?_; (case F => k_asm); (case N => k_asm)); k_whole; intro _ _ _ _ _)) | (with_reducible show wpAny _ _ (eval (Expr.ListComp _ _ _ _) _) _ _ _; (k_here; k_dflt (refine' wpAny_ListComp_free (cl := []) (fun _ => true) WrF ?h1 ?h2 ?h3 ?h4 ?h5 ?_ ?h6; (case h1 => rfl); (case h2 => decide); (case h3 => rfl); (case h4 => decide); (case h5 => rfl); (case h6 => intro _; rfl)); k_whole; (try dsimp only))) | walk1)) | (dsimp only; (first | with_reducible show wpAny _ _ _ _ _ _ | with_reducible show @ite _ _ _ _ _ | with_reducible show And _ _); (first | (with_reducible show wpAny _ _ (call (Value.ref _) _) _ _ _; (k_here; k_dflt (refine' k_fmode ?F ?N (by assumption) (by assumption) (Ok.deeper (ok_AL (n := 4) (by decide))) _ _ ?_; (case F => k_asm); (case N => k_asm)); k_whole; intro _ _ _ _ _)) | (with_reducible show wpAny _ _ (eval (Expr.ListComp _ _ _ _) _) _ _ _; (k_here; k_dflt (refine' wpAny_ListComp_free (cl := []) (fun _ => true) WrF ?h1 ?h2 ?h3 ?h4 ?h5 ?_ ?h6; (case h1 => rfl); (case h2 => decide); (case h3 => rfl); (case h4 => decide); (case h5 => rfl); (case h6 => intro _; rfl)); k_whole; (try dsimp only))) | walk1))))
    refine c_written W st3 (Ok.less (Ok.deeper (ok_AL (n := 4) (by decide))) (by decide)) _ _ (fmc_sign m i hi) ?_
    intro u4 h4 tk4 k4
    exact ⟨⟨_, _, _, rfl, rfl⟩, h4, tk4, rfl, fun b o e => k4 b o e (fun q => nomatch q)⟩
  intro D h5 tk5 ys vs nD lD pD lv hv hp k5
  dsimp only at nD lD lv k5
  have up : ∀ b o, Heap.get? _ b = some o → h5.get? b = some o := fun b o e => k5 b o (fun q => absurd (List.mem_singleton.mp q) (Nat.ne_of_lt (Heap.lt_size e))) (Heap.get?_push_of_some _ e)
  have F5 := fr_keep F3 (Kp.of up)
  have N5 := news_keep N3 (Kp.of up)
  have hS : StrsAre ys.toList (tagL m) := by
    rw [filter_all] at hp
    have lv9 : vs.length = 9 := lv.trans (row_size m)
    refine strs_of 9 _ _ (by rw [← hp.length, lv9]) fun j hj => ?_
    obtain ⟨v, hvj⟩ : ∃ v, vs[j]? = some v := ⟨_, List.getElem?_eq_getElem (by omega)⟩
    obtain ⟨y, hy, x, t1, t2, e1, e2⟩ := Paired.at hp j v hvj
    obtain ⟨c, u3, hcu, e3⟩ := hv j v hvj
    subst e1
    cases e3
    have := row_get m j hj
    rw [show (rowS m).cps[j]? = some c from hcu] at this
    refine ⟨t2, ?_⟩
    rw [hy, e2, fmc_eq, Option.some.inj this]
  have hsum : ((tagL m).map (·.length)).sum + (tagL m).length ≤ 1048576 := Nat.le_trans (tag_len m) (by decide)
  clear F3 N3 F2 N2
  (try dsimp only)
  (repeat' (first | (k_unfold; (try dsimp only)) | ((first | with_reducible show wpAny _ _ _ _ _ _ | with_reducible show @ite _ _ _ _ _ | with_reducible show And _ _); (first | (with_reducible show wpAny _ _ (call (Value.ref _) _) _ _ _; (k_here; k_dflt (refine' k_fmode ?F ?N (by assumption) (by assumption) (Ok.deeper (ok_AL (n := 4) (by decide))) _ _ ?_; (case F => k_asm); (case N => k_asm)); k_whole; intro _ _ _ _ _)) | (with_reducible show wpAny _ _ (eval (Expr.ListComp _ _ _ _) _) _ _ _; (k_here; k_dflt (refine' wpAny_ListComp_free (cl := []) (fun _ => true) WrF ?h1 ?h2 ?h3 ?h4 ?h5 ?_ ?h6; (case h1 => rfl); (case h2 => decide); (case h3 => rfl); (case h4 => decide); (case h5 => rfl); (case h6 => intro _; rfl)); k_whole; (try dsimp only))) | walk1)) | (dsimp only; (first | with_reducible show wpAny _ _ _ _ _ _ | with_reducible show @ite _ _ _ _ _ | with_reducible show And _ _); (first | (with_reducible show wpAny _ _ (call (Value.ref _) _) _ _ _; (k_here; k_dflt (refine' k_fmode ?F ?N (by assumption) (by assumption) (Ok.deeper (ok_AL (n := 4) (by decide))) _ _ ?_; (case F => k_asm); (case N => k_asm)); k_whole; intro _ _ _ _ _)) | (with_reducible show wpAny _ _ (eval (Expr.ListComp _ _ _ _) _) _ _ _; (k_here; k_dflt (refine' wpAny_ListComp_free (cl := []) (fun _ => true) WrF ?h1 ?h2 ?h3 ?h4 ?h5 ?_ ?h6; (case h1 => rfl); (case h2 => decide); (case h3 => rfl); (case h4 => decide); (case h5 => rfl); (case h6 => intro _; rfl)); k_whole; (try dsimp only))) | walk1))))
  refine join_listW lD hS (by decide +kernel) hsum ?_
  intro t6 k6
  (try dsimp only)
  (repeat' (first | (k_unfold; (try dsimp only)) | ((first | with_reducible show wpAny _ _ _ _ _ _ | with_reducible show @ite _ _ _ _ _ | with_reducible show And _ _); (first | (with_reducible show wpAny _ _ (call (Value.ref _) _) _ _ _; (k_here; k_dflt (refine' k_fmode ?F ?N (by assumption) (by assumption) (Ok.deeper (ok_AL (n := 4) (by decide))) _ _ ?_; (case F => k_asm); (case N => k_asm)); k_whole; intro _ _ _ _ _)) | (with_reducible show wpAny _ _ (eval (Expr.ListComp _ _ _ _) _) _ _ _; (k_here; k_dflt (refine' wpAny_ListComp_free (cl := []) (fun _ => true) WrF ?h1 ?h2 ?h3 ?h4 ?h5 ?_ ?h6; (case h1 => rfl); (case h2 => decide); (case h3 => rfl); (case h4 => decide); (case h5 => rfl); (case h6 => intro _; rfl)); k_whole; (try dsimp only))) | walk1)) | (dsimp only; (first | with_reducible show wpAny _ _ _ _ _ _ | with_reducible show @ite _ _ _ _ _ | with_reducible show And _ _); (first | (with_reducible show wpAny _ _ (call (Value.ref _) _) _ _ _; (k_here; k_dflt (refine' k_fmode ?F ?N (by assumption) (by assumption) (Ok.deeper (ok_AL (n := 4) (by decide))) _ _ ?_; (case F => k_asm); (case N => k_asm)); k_whole; intro _ _ _ _ _)) | (with_reducible show wpAny _ _ (eval (Expr.ListComp _ _ _ _) _) _ _ _; (k_here; k_dflt (refine' wpAny_ListComp_free (cl := []) (fun _ => true) WrF ?h1 ?h2 ?h3 ?h4 ?h5 ?_ ?h6; (case h1 => rfl); (case h2 => decide); (case h3 => rfl); (case h4 => decide); (case h5 => rfl); (case h6 => intro _; rfl)); k_whole; (try dsimp only))) | walk1))))
  refine w_set2 (ns := [Str.ofString "number"]) lk_tag (N5 (_, _) (.tail _ (.head _))).1 rfl rfl ne1 (N5 _ (.head _)).1 dI (Within.cons _ _ Within.nil) (by decide) ?_
  intro h7 tk7 od7 e7 dI7 k7
  have F7 := fr_turn F5 (N5 _ (.head _)).2 k7
  have N7 := news_turn N5 k7 e7 (by
    intro q hq
    rcases List.mem_cons.mp hq with rfl | hq
    · exact ne1.symm
    · exact nd q (.tail _ hq))
  clear F5 N5
  (try dsimp only)
  (repeat' (first | (k_unfold; (try dsimp only)) | ((first | with_reducible show wpAny _ _ _ _ _ _ | with_reducible show @ite _ _ _ _ _ | with_reducible show And _ _); (first | (with_reducible show wpAny _ _ (call (Value.ref _) _) _ _ _; (k_here; k_dflt (refine' k_fmode ?F ?N (by assumption) (by assumption) (Ok.deeper (ok_AL (n := 4) (by decide))) _ _ ?_; (case F => k_asm); (case N => k_asm)); k_whole; intro _ _ _ _ _)) | (with_reducible show wpAny _ _ (eval (Expr.ListComp _ _ _ _) _) _ _ _; (k_here; k_dflt (refine' wpAny_ListComp_free (cl := []) (fun _ => true) WrF ?h1 ?h2 ?h3 ?h4 ?h5 ?_ ?h6; (case h1 => rfl); (case h2 => decide); (case h3 => rfl); (case h4 => decide); (case h5 => rfl); (case h6 => intro _; rfl)); k_whole; (try dsimp only))) | walk1)) | (dsimp only; (first | with_reducible show wpAny _ _ _ _ _ _ | with_reducible show @ite _ _ _ _ _ | with_reducible show And _ _); (first | (with_reducible show wpAny _ _ (call (Value.ref _) _) _ _ _; (k_here; k_dflt (refine' k_fmode ?F ?N (by assumption) (by assumption) (Ok.deeper (ok_AL (n := 4) (by decide))) _ _ ?_; (case F => k_asm); (case N => k_asm)); k_whole; intro _ _ _ _ _)) | (with_reducible show wpAny _ _ (eval (Expr.ListComp _ _ _ _) _) _ _ _; (k_here; k_dflt (refine' wpAny_ListComp_free (cl := []) (fun _ => true) WrF ?h1 ?h2 ?h3 ?h4 ?h5 ?_ ?h6; (case h1 => rfl); (case h2 => decide); (case h3 => rfl); (case h4 => decide); (case h5 => rfl); (case h6 => intro _; rfl)); k_whole; (try dsimp only))) | walk1))))
  rename Fr _ _ _ _ => F8
  rename News _ _ _ _ => N8
  subst hg
  refine hret _ _ _ (kp_hide F8) (.inr ⟨_, (N8 (86, _) (by k_mem)).1, hcc⟩) (old_none N8 (.tail _ (.head _)) (fun q => Nat.ne_of_gt hl1 (List.mem_singleton.mp q))) ⟨_, _, _, _, _, _, (N8 _ (.tail _ (.head _))).1, rfl, ⟨_, rfl⟩, rfl, (N8 _ (.head _)).1, dI7, rfl, rfl⟩ (fun o' dx' e1 e2 => by
    rw [(N8 _ (.tail _ (.head _))).1] at e1
    cases e1
    cases e2
    exact old_none N8 (.head _) (fun q => nd (86, _) (by k_mem) (List.mem_singleton.mp q).symm))
theorem c_file (W : Wd w p loose mean mg mb H) (hs : H.StaysIn s.heap) (ok : Ok 4 A) (n : Int) (m : Int) (t u : Tok) (hT : TabLam s.heap) (hret : RetF s Q n m) :
    wpAny (model P0 w) A (call (.ref 89) [.int n t, .int m u]) Q E s := by
  rcases hT with hT | ⟨c, hT, hcc⟩
  · exact c_file1 W hs ok n m t u hT hret
  · exact c_file2 W hs ok n m t u c hcc hT hret
theorem func_nc {o : Obj} (h : ∃ fd, o.data = .func fd) : ∀ c, o.data ≠ .cls c := fun c q => by
  obtain ⟨fd, e⟩ := h
  rw [e] at q; cases q
theorem FileAt.kp {h h' : Heap} {X : List Addr} {a : Addr} {n : Int} {x : Str} (f : FileAt h a n x) (k : Kp X h h') (hX : ∀ y ∈ X, ∃ ps, h.get? y = some (tabObj ps)) : FileAt h' a n x := by
  obtain ⟨o, dx, od, m, t, u, e1, c, nc, d, e2, dI, r⟩ := f
  refine ⟨o, dx, od, m, t, u, k _ _ e1 (fun q => ?_), c, nc, d, k _ _ e2 (fun q => ?_), dI, r⟩
  · obtain ⟨ps, e⟩ := hX _ q
    rw [e1] at e; cases e; cases c
  · obtain ⟨ps, e⟩ := hX _ q
    rw [e2] at e; cases e
    obtain ⟨es, ep, e3, _⟩ := dI
    cases e3
end
end Mine
end
theorem Mine.t_resetGN : True := by
  first | (walk1; fail "no") | trivial

section
open PySem PySem.W PyProof.Rows PySem.Spec PySem.Calls PySem.W.X
set_option maxRecDepth 100000
set_option maxHeartbeats 8000000
namespace Mine
theorem t_offGN : True := by
  w_top off
  trivial
section
variable {w : World} {p : Program} {loose : List Str} {mean : ExcName → Option Value} {mg mb : Str → Option Value} {H : Heap} {s : Shared} {A : Around}
noncomputable abbrev selEnv (C f c c1 c2 c3 c4 : Addr) : Env := envX selQual selParts.2.2.1 C f (.ref c) [(Str.ofString "ns_only", c1), (Str.ofString "ns", c2), (Str.ofString "_str", c3), (Str.ofString "_isinstance", c4)]
noncomputable def stmtsIn : Stmt → List Stmt
  | .For _ _ b _ _ => b
  | _ => []
noncomputable def testOf : Stmt → Expr
  | .If t _ _ _ => t
  | _ => .Constant .none 0 default
/-- el_tag = elem.tag -/
theorem g_tag {g : Heap} {C f c c1 c2 c3 c4 fa : Addr} {m : Str → Option Value} {news : List (Addr × Obj)} {Q : Flow → Shared → Prop} {E : Value → Shared → Prop} {n : Int} {x : Str}
    (F : Fr g C s.heap (fun y => if y = Str.ofString "elem" then some (.ref fa) else m y)) (N : News g C s.heap news) (X : (hd.heap_39 w.params).In g) (T : Top p loose mean mg mb g) (hf : FileAt g fa n x)
    (k : ∀ h' tk u, Fr g C h' (fun y => if y = Str.ofString "el_tag" then some (.str x u) else if y = Str.ofString "elem" then some (.ref fa) else m y) → News g C h' news → Q .next { s with heap := h', toks := tk }) :
    wpAny (model P0 w) A (exec (nthS (stmtsIn (nthS selParts.2.1 0)) 0) (selEnv C f c c1 c2 c3 c4)) Q E s := by
  dsimp only [selParts, nthS, stmtsIn, selEnv, List.getD, List.getElem?_cons_zero, List.getElem?_cons_succ, Option.getD]
  (repeat' (first | (k_unfold; (try dsimp only)) | ((first | with_reducible show wpAny _ _ _ _ _ _ | with_reducible show @ite _ _ _ _ _ | with_reducible show And _ _); walk1) | (dsimp only; (first | with_reducible show wpAny _ _ _ _ _ _ | with_reducible show @ite _ _ _ _ _ | with_reducible show And _ _); walk1)))
  obtain ⟨o, dx, od, mm, t, u, e1, hc, hnc, hd1, e2, dI, r1, r2⟩ := hf
  refine w_get lk_tag (F.keep _ _ e1) hc (func_nc hnc) hd1 (F.keep _ _ e2) dI r2 rfl ?_
  (try dsimp only)
  (repeat' (first | (k_unfold; (try dsimp only)) | ((first | with_reducible show wpAny _ _ _ _ _ _ | with_reducible show @ite _ _ _ _ _ | with_reducible show And _ _); walk1) | (dsimp only; (first | with_reducible show wpAny _ _ _ _ _ _ | with_reducible show @ite _ _ _ _ _ | with_reducible show And _ _); walk1)))
  exact k _ _ _ (by assumption) (by assumption)
theorem tail_sl {value slice : Expr} {x : Str} {t uj : Tok} {a : Addr} {j : Int} {Q : Value → Shared → Prop} {E : Value → Shared → Prop} (ha : s.heap.get? a = some (slObj j uj)) (h : ∀ t' k, Q (.str (Txt.slice x none (some j)) t') { s with toks := k })
    (hs : subscripted slice false (.str x t) (.ref a) = operate [.ref a, .str x t] (getItem (.str x t) (.ref a)))
    (ht : ∀ r, letTemporaryGo value (.str x t) r = pure ()) (hsz : x.length ≤ sizeLine) :
    wpAny (model P0 w) A (subscriptTail value slice (.str x t) (.ref a)) Q E s :=
  tail_of_ItemOn ⟨"str", _, F.slot_str_getitem.lookup, typeIs_str _ _ _, wpAny_getItem_str_slice (l := none) (u := some (j, uj)) (st := none) ⟨_, ha, rfl, rfl⟩ rfl
    (post_val_or_str ⟨Nat.le_trans (Txt.slice_le x _ _) hsz, fun t' k => h t' k⟩)⟩ hs ht
/-- the test -/
theorem g_test {g : Heap} {C f c c1 c2 c3 c4 fa a : Addr} {m : Str → Option Value} {o1 o2 o3 o4 : Obj} {rest : List (Addr × Obj)} {Q : Bool → Shared → Prop} {E : Value → Shared → Prop} {x ns : Str} {u t u1 : Tok}
    (F : Fr g C s.heap (fun y => if y = Str.ofString "el_tag" then some (.str x u) else if y = Str.ofString "elem" then some (.ref fa) else m y)) (N : News g C s.heap ((c1, o1) :: (c2, o2) :: (c3, o3) :: (c4, o4) :: (a, slObj ns.length u1) :: rest)) (X : (hd.heap_39 w.params).In g) (T : Top p loose mean mg mb g)
    (d1 : o1.data = .cell (some (.ref a))) (d2 : o2.data = .cell (some (.str ns t))) (d3 : o3.data = .cell (some (.type "str"))) (d4 : o4.data = .cell (some (.builtin "isinstance"))) (hl : x.length ≤ 1000) (hl2 : ns.length ≤ 1000) (Cd : CodeHd g 20 16)
    (k : ∀ h' tk, Fr g C h' (fun y => if y = Str.ofString "el_tag" then some (.str x u) else if y = Str.ofString "elem" then some (.ref fa) else m y) → News g C h' ((c1, o1) :: (c2, o2) :: (c3, o3) :: (c4, o4) :: (a, slObj ns.length u1) :: rest) → Q (Txt.slice x none (some (ns.length : Int)) == ns) { s with heap := h', toks := tk }) :
    wpAny (model P0 w) A (isTrue (testOf (nthS (stmtsIn (nthS selParts.2.1 0)) 1)) (selEnv C f c c1 c2 c3 c4) (eval (testOf (nthS (stmtsIn (nthS selParts.2.1 0)) 1)) (selEnv C f c c1 c2 c3 c4))) Q E s := by
  dsimp only [selParts, nthS, stmtsIn, testOf, selEnv, List.getD, List.getElem?_cons_zero, List.getElem?_cons_succ, Option.getD]
  (repeat' (first | (k_unfold; (try dsimp only)) | ((first | with_reducible show wpAny _ _ _ _ _ _ | with_reducible show @ite _ _ _ _ _ | with_reducible show And _ _); walk1) | (dsimp only; (first | with_reducible show wpAny _ _ _ _ _ _ | with_reducible show @ite _ _ _ _ _ | with_reducible show And _ _); walk1)))
  refine tail_sl (N (_, _) (by k_mem)).1 ?_ (by with_unfolding_all rfl) (by intro _; with_unfolding_all rfl) (Nat.le_trans hl (by decide))
  intro t' k'
  (try dsimp only)
  (repeat' (first | (k_unfold; (try dsimp only)) | ((first | with_reducible show wpAny _ _ _ _ _ _ | with_reducible show @ite _ _ _ _ _ | with_reducible show And _ _); walk1) | (dsimp only; (first | with_reducible show wpAny _ _ _ _ _ _ | with_reducible show @ite _ _ _ _ _ | with_reducible show And _ _); walk1)))
  all_goals (rename_i hb; have z := k s.heap k' F N; first | (rw [hb] at z; exact z) | (rw [Bool.eq_false_iff.mpr hb] at z; exact z))
end
section
variable {M : Model} {A : Around} {R : GenEnd} {Y : Protocol} {n : Nat} {s₀ : Shared} {c : Code} {fs : List Frame} {s : Shared} {env : Env}
  {K : Flow → Sem Fin} {H : Value → Sem Fin} {gd : Bool → Bool} {lv : List Value → List Value}
theorem seg_For {target iter : Expr} {body orelse : List Stmt} {pos : Pos}
    (h : wpAny M (A.over c fs) (eval iter env) (fun x s₁ => wpAny M (A.over c fs) (pyIter x) (fun it s₂ =>
      ∀ p, Seg M A R Y n s₀ (.forLoop target it body orelse env) (M.den (.forLoop target it body orelse env))
      (.ret (fun r => ((match r with | .ok f => (.pure f : Sem Flow) | .error e => .raise e).onRaise fun (x : Value) => do
        if (← field x 1) == Value.none then unsupported "frame.own-activation:exception-without-traceback"
        setFlight x env.frame).wrap K H gd lv) none (gd false) (lv []) c p [] :: fs) s₂) (fun x s' => Seg M A R Y n s₀ c (H x) fs s') s₁) (fun x s' => Seg M A R Y n s₀ c (H x) fs s') s)
    (hs : ∀ x, foldedSetIterable iter env x = pure x := by intro _; rfl) :
    Seg M A R Y n s₀ c ((exec (.For target iter body orelse pos) env).wrap K H gd lv) fs s := by
  rw [exec_For]
  refine seg_bind_wrap (wpAny_standAt ?_)
  refine seg_bind_wrap (wpAny_mono h (fun x s₁ h₁ => ?_) fun _ _ e => e)
  refine seg_bind_wrap (wpAny_of_eq (hs x) ?_)
  refine seg_bind_wrap (wpAny_standAt ?_)
  refine seg_bind_wrap (wpAny_holding (wpAny_mono h₁ (fun it s₂ h₂ => ?_) fun _ _ e => e))
  exact seg_call h₂
theorem seg_If {test : Expr} {body orelse : List Stmt} {pos : Pos}
    (h : wpAny M (A.over c fs) (isTrue test env (eval test env)) (fun b s' => if b = true then Seg M A R Y n s₀ c ((execs body env).wrap K H gd lv) fs s' else Seg M A R Y n s₀ c ((execs orelse env).wrap K H gd lv) fs s') (fun x s' => Seg M A R Y n s₀ c (H x) fs s') s) :
    Seg M A R Y n s₀ c ((exec (.If test body orelse pos) env).wrap K H gd lv) fs s := by
  rw [exec_If]
  refine seg_bind_wrap (wpAny_standAt ?_)
  refine seg_bind_wrap (wpAny_mono h (fun b s₁ h₁ => ?_) fun _ _ e => e)
  cases b with
  | true => exact h₁
  | false => exact h₁
theorem seg_exec {st : Stmt} (h : wpAny M (A.over c fs) (exec st env) (fun f s' => Seg M A R Y n s₀ c (K f) fs s') (fun x s' => Seg M A R Y n s₀ c (H x) fs s') s) : Seg M A R Y n s₀ c ((exec st env).wrap K H gd lv) fs s := seg_wrap h
end
section
variable {prog : Program} {w : World} {A : Around} {R : GenEnd} {Y : Protocol} {n : Nat} {s₀ : Shared} {fs : List Frame} {s : Shared} {env : Env}
theorem seg_forLoop {x : Str} {px : Pos} {it : Value} {body : List Stmt}
    (h : wpAny (model prog w) (A.over (.forLoop (.Name x px) it body [] env) fs) (pyNext it) (fun r s₁ => match r with
      | none => Seg (model prog w) A R Y n s₀ (.block [] env) ((model prog w).den (.block [] env)) fs s₁
      | some v => wpAny (model prog w) (A.over (.forLoop (.Name x px) it body [] env) fs) (assign (.Name x px) env v) (fun _ s₂ =>
          Seg (model prog w) A R Y n s₀ (.forLoop (.Name x px) it body [] env) ((execs body env).wrap (fun f => match f with
            | .next | .cont => .pure (.again (.forLoop (.Name x px) it body [] env))
            | .brk => .pure (.done .next)
            | .ret v => .pure (.done (.ret v))) (fun e => (do noteFrame e env; theTreesLotGoes e : Sem Unit).wrap (fun _ => .raise e) .raise id id) id id) fs s₂) (fun _ _ => False) s₁) (fun _ _ => False) s) :
    Seg (model prog w) A R Y n s₀ (.forLoop (.Name x px) it body [] env) ((model prog w).den (.forLoop (.Name x px) it body [] env)) fs s := by
  show Seg _ A R Y n s₀ _ ((forTurn (.Name x px) it body [] env).onRaise (fun x => do noteFrame x env; theTreesLotGoes x)) fs s
  unfold forTurn
  rw [Sem.onRaise_eq_wrap]
  refine seg_bind_wrap (wpAny_standAt ?_)
  refine seg_bind_wrap (wpAny_onRaise (wpAny_mono h (fun r s₁ h₁ => ?_) fun _ _ e => e.elim))
  cases r with
  | none => exact seg_again rfl h₁
  | some v =>
    refine seg_bind_wrap (wpAny_of_eq (rfl : letOwnedTupleGo (.Name x px) it v = pure ()) ?_)
    refine seg_bind_wrap (wpAny_mono h₁ (fun _ s₂ h₂ => ?_) fun _ _ e => e.elim)
    show Seg _ A R Y n s₀ _ ((execs body env >>= _).wrap _ _ _ _) fs s₂
    rw [Sem.bind_eq_wrap', Sem.wrap_wrap]
    rw [Sem.wrap_congr (execs body env) _ _ (K' := fun f => match f with
            | .next | .cont => .pure (.again (.forLoop (.Name x px) it body [] env))
            | .brk => .pure (.done .next)
            | .ret v => .pure (.done (.ret v))) (H' := (fun e => (do noteFrame e env; theTreesLotGoes e : Sem Unit).wrap (fun _ => .raise e) .raise id id))
        (fun f => by cases f <;> rfl)
        (fun e => by first | exact Sem.bind_eq_wrap _ _ | (show (do noteFrame e env; theTreesLotGoes e : Sem Unit).bind (fun _ => .raise e) = _; rw [Sem.bind_eq_wrap]))]
    exact h₂
theorem seg_block0 {k h g l c₁ p₁ kp} (hk : Seg (model prog w) A R Y n s₀ c₁ (k (.ok .next)) fs s) :
    Seg (model prog w) A R Y n s₀ (.block [] env) ((model prog w).den (.block [] env)) (.ret k h g l c₁ p₁ kp :: fs) s := by
  show Seg _ A R Y n s₀ _ (.pure (.done .next)) _ s
  exact seg_leaf (.ok .next) hk
end
end Mine
end

section
open PySem PySem.W PyProof.Rows PySem.Spec PySem.Calls PySem.W.X
set_option maxRecDepth 100000
set_option maxHeartbeats 8000000
namespace Mine
section
noncomputable def tgtOf : Stmt → Expr
  | .For t _ _ _ _ => t
  | _ => .Constant .none 0 default
noncomputable def LitIs (o : Obj) (l : Addr) (i : Nat) : Prop := ∀ (h : Heap) (it : Addr), h.get? it = some o → h.IsListIter it l i
theorem lit_of {h : Heap} {it l : Addr} {i : Nat} (x : h.IsListIter it l i) : ∃ o, h.get? it = some o ∧ LitIs o l i := by
  obtain ⟨o, e, r⟩ := x
  exact ⟨o, e, fun h' it' e' => ⟨o, e', r⟩⟩
/-- what lies at given places -/
noncomputable def restAt (h : Heap) (dom : List Addr) : List (Addr × Obj) := dom.map fun b => (b, (h.get? b).getD default)
structure GC (w : World) (p : Program) (loose : List Str) (mean : ExcName → Option Value) (mg mb : Str → Option Value) (g : Heap) (C c1 c2 c3 c4 a l : Addr) (o1 o2 o3 o4 : Obj) (ns : Str) (t u1 : Tok) (fa : Nat → Addr) (num : Nat → Int) (tg : Nat → Str) (n₀ : Nat) (items : Array Value) (dom : List Addr) : Prop where
  X : (hd.heap_39 w.params).In g
  T : Top p loose mean mg mb g
  Cd : CodeHd g 20 16
  d1 : o1.data = .cell (some (.ref a))
  d2 : o2.data = .cell (some (.str ns t))
  d3 : o3.data = .cell (some (.type "str"))
  d4 : o4.data = .cell (some (.builtin "isinstance"))
  hl2 : ns.length ≤ 1000
  hl : ∀ i, i < n₀ → (tg i).length ≤ 1000
  files : ∀ i, i < n₀ → FileAt g (fa i) (num i) (tg i)
  lst : g.IsList l items
  sz : items.size = n₀
  at' : ∀ i, i < n₀ → items[i]? = some (.ref (fa i))
  domC : ∀ b ∈ dom, b ≠ C ∧ g.get? b = none
  dom1 : c1 ∉ dom
  dom2 : c2 ∉ dom
  dom3 : c3 ∉ dom
  dom4 : c4 ∉ dom
  doma : a ∉ dom
variable {w : World} {p : Program} {loose : List Str} {mean : ExcName → Option Value} {mg mb : Str → Option Value} {g : Heap} {C c1 c2 c3 c4 a l f c : Addr} {o1 o2 o3 o4 : Obj} {ns : Str} {t u1 : Tok} {fa : Nat → Addr} {num : Nat → Int} {tg : Nat → Str} {n₀ : Nat} {items : Array Value} {dom : List Addr} {A : Around}
/-- the loop's ground: i are done -/
noncomputable def GI (g : Heap) (C c1 c2 c3 c4 a l : Addr) (o1 o2 o3 o4 : Obj) (ns : Str) (u1 : Tok) (dom : List Addr) (it : Addr) (i : Nat) (h : Heap) : Prop :=
  ∃ m oi, Fr g C h m ∧ News g C h ((c1, o1) :: (c2, o2) :: (c3, o3) :: (c4, o4) :: (a, slObj ns.length u1) :: (it, oi) :: restAt h dom) ∧ LitIs oi l i ∧ it ∉ dom ∧ it ≠ c1 ∧ it ≠ c2 ∧ it ≠ c3 ∧ it ≠ c4 ∧ it ≠ a
noncomputable def Since (g : Heap) (dom : List Addr) (s₀ s : Shared) : Prop := ∃ h' tk, s = { s₀ with heap := h', toks := tk } ∧ (∀ b ∈ dom, ∀ o, s₀.heap.get? b = some o → h'.get? b = some o)
theorem Since.step {s₀ s : Shared} (x : Since g dom s₀ s) {h' : Heap} {tk : Nat} (k : ∀ b ∈ dom, ∀ o, s.heap.get? b = some o → h'.get? b = some o) : Since g dom s₀ { s with heap := h', toks := tk } := by
  obtain ⟨h1, t1, rfl, k1⟩ := x
  exact ⟨h', tk, rfl, fun b hb o e => k b hb o (k1 b hb o e)⟩
theorem rest_keep {h h' : Heap} {L : Addr} (N : News g L h' (restAt h dom)) : ∀ b ∈ dom, ∀ o, h.get? b = some o → h'.get? b = some o := fun b hb o e => by
  have := (N (b, (h.get? b).getD default) (List.mem_map.mpr ⟨b, hb, rfl⟩)).1
  rw [this, e]; rfl
theorem rest_eq {h h' : Heap} {L : Addr} (N : News g L h' (restAt h dom)) : restAt h' dom = restAt h dom := by
  refine List.map_congr_left fun b hb => ?_
  have := (N (b, (h.get? b).getD default) (List.mem_map.mpr ⟨b, hb, rfl⟩)).1
  rw [this]; rfl
theorem news_tail {h : Heap} {L : Addr} {q : Addr × Obj} {r : List (Addr × Obj)} (N : News g L h (q :: r)) : News g L h r := fun z hz => N z (.tail _ hz)
noncomputable def Rg (g : Heap) (dom : List Addr) : GenEnd := fun n s₀ r s₁ => r = .ok (.ret .none) ∧ (n = 0 ∧ Since g dom s₀ s₁ ∧ g.StaysIn s₁.heap)
noncomputable def Yg (g : Heap) (dom : List Addr) (pz : Nat → Bool) (n₀ : Nat) (fa : Nat → Addr) : Protocol := fun m s₀ v s kap =>
  (∃ i, (passing pz n₀ 0)[(passing pz n₀ 0).length - 1 - m]? = some i ∧ v = .ref (fa i)) ∧ Since g dom s₀ s ∧ g.StaysIn s.heap ∧
    ∀ s'' : Shared, (∀ b o, b ∉ dom → s.heap.get? b = some o → s''.heap.get? b = some o) → (∀ b ∈ dom, ∃ o, s''.heap.get? b = some o) → kap (.send .none) s''
noncomputable def pzOf (tg : Nat → Str) (ns : Str) (i : Nat) : Bool := Txt.slice (tg i) none (some (ns.length : Int)) == ns
noncomputable abbrev gBody : List Stmt := stmtsIn (nthS selParts.2.1 0)
noncomputable abbrev gTgt : Expr := tgtOf (nthS selParts.2.1 0)
theorem news_it {h h' : Heap} {L it : Addr} {oi oi' : Obj} {P r : List (Addr × Obj)} (N : News g L h (P ++ (it, oi) :: r)) (hs : ∀ b x, b ≠ it → h.get? b = some x → h'.get? b = some x) (e : h'.get? it = some oi') (nP : ∀ q ∈ P, q.1 ≠ it) (nr : ∀ q ∈ r, q.1 ≠ it) : News g L h' (P ++ (it, oi') :: r) := fun q hq => by
  rcases List.mem_append.mp hq with hq | hq
  · have z := N q (List.mem_append_left _ hq)
    exact ⟨hs _ _ (nP q hq) z.1, z.2⟩
  · rcases List.mem_cons.mp hq with rfl | hq
    · exact ⟨e, (N (it, oi) (List.mem_append_right _ (.head _))).2⟩
    · have z := N q (List.mem_append_right _ (.tail _ hq))
      exact ⟨hs _ _ (nr q hq) z.1, z.2⟩
theorem rest_mem {h : Heap} {q : Addr × Obj} (hq : q ∈ restAt h dom) : q.1 ∈ dom := by
  obtain ⟨b, hb, rfl⟩ := List.mem_map.mp hq
  exact hb
theorem fr_store {h h' : Heap} {L : Addr} {m m' : Str → Option Value} (F : Fr g L h m) (hn : h'.Ns L m') (hs : Heap.SameBut L h h') : Fr g L h' m' :=
  ⟨hn, fun b o e => hs.extBut b o (fun q => by
    have := Heap.lt_size e
    rw [q] at this
    exact absurd F.above (Nat.not_le.mpr this)) (F.keep b o e), F.above⟩
theorem news_store {h h' : Heap} {L : Addr} {news : List (Addr × Obj)} (N : News g L h news) (hs : Heap.SameBut L h h') : News g L h' news := fun q hq => ⟨hs.extBut _ _ (N q hq).2.1 (N q hq).1, (N q hq).2⟩
theorem gi_back (G : GC w p loose mean mg mb g C c1 c2 c3 c4 a l o1 o2 o3 o4 ns t u1 fa num tg n₀ items dom) {it : Addr} {i : Nat} {h h' : Heap} (x : GI g C c1 c2 c3 c4 a l o1 o2 o3 o4 ns u1 dom it i h) (k : ∀ b o, b ∉ dom → h.get? b = some o → h'.get? b = some o) (pr : ∀ b ∈ dom, ∃ o, h'.get? b = some o) :
    GI g C c1 c2 c3 c4 a l o1 o2 o3 o4 ns u1 dom it i h' := by
  obtain ⟨m, oi, F, N, lit, hd, r⟩ := x
  refine ⟨m, oi, fr_kp (X := dom) F (fun b o e n => k b o n e) (fun z hz => ⟨(G.domC z hz).2, (G.domC z hz).1⟩), ?_, lit, hd, r⟩
  have N' : News g C h ([(c1, o1), (c2, o2), (c3, o3), (c4, o4), (a, slObj ns.length u1), (it, oi)] ++ restAt h dom) := N
  have : News g C h' ([(c1, o1), (c2, o2), (c3, o3), (c4, o4), (a, slObj ns.length u1), (it, oi)] ++ restAt h' dom) := fun q hq => by
    rcases List.mem_append.mp hq with hq | hq
    · have z := N' q (List.mem_append_left _ hq)
      refine ⟨k _ _ ?_ z.1, z.2⟩
      simp only [List.mem_cons, List.not_mem_nil, or_false] at hq
      rcases hq with rfl | rfl | rfl | rfl | rfl | rfl
      · exact G.dom1
      · exact G.dom2
      · exact G.dom3
      · exact G.dom4
      · exact G.doma
      · exact hd
    · obtain ⟨b, hb, rfl⟩ := List.mem_map.mp hq
      obtain ⟨o, e⟩ := pr b hb
      dsimp only
      rw [e]
      exact ⟨rfl, (G.domC b hb).1, (G.domC b hb).2⟩
  exact this
theorem g_elem {s : Shared} {fa1 : Addr} {m : Str → Option Value} {pos : Pos} {Q : Value → Shared → Prop} {E : Value → Shared → Prop} {x : Str} {u : Tok}
    (F : Fr g C s.heap (fun y => if y = Str.ofString "el_tag" then some (.str x u) else if y = Str.ofString "elem" then some (.ref fa1) else m y)) (k : Q (.ref fa1) s) :
    wpAny (model P0 w) A (eval (.Name (Str.ofString "elem") pos) (selEnv C f c c1 c2 c3 c4)) Q E s := by
  refine nameX_L F (v := .ref fa1) ?_ k rfl rfl
  rfl
theorem gen_loop (G : GC w p loose mean mg mb g C c1 c2 c3 c4 a l o1 o2 o3 o4 ns t u1 fa num tg n₀ items dom) (hh : A.handled = none) {it : Addr} {c₁ : Code} {kk : Result → Sem Fin} {p₁ : Pos}
    (hK : ∀ s₀ s, Since g dom s₀ s → g.StaysIn s.heap → Seg (model P0 w) A (Rg g dom) (Yg g dom (pzOf tg ns) n₀ fa) 0 s₀ c₁ (kk (.ok .next)) [] s) :
    ∀ (k i : Nat) (s₀ s : Shared), n₀ - i = k → i ≤ n₀ → GI g C c1 c2 c3 c4 a l o1 o2 o3 o4 ns u1 dom it i s.heap → Since g dom s₀ s →
      Seg (model P0 w) A (Rg g dom) (Yg g dom (pzOf tg ns) n₀ fa) (passing (pzOf tg ns) n₀ i).length s₀ (.forLoop gTgt (.ref it) gBody [] (selEnv C f c c1 c2 c3 c4)) ((model P0 w).den (.forLoop gTgt (.ref it) gBody [] (selEnv C f c c1 c2 c3 c4))) [.ret kk none false [] c₁ p₁ []] s := by
  intro k
  induction k with
  | zero =>
    intro i s₀ s hk hi hI hS
    have hin : i = n₀ := by omega
    subst hin
    obtain ⟨m, oi, F, N, lit, hd⟩ := hI
    have hit := lit _ _ (N (it, oi) (by k_mem)).1
    refine seg_forLoop (wpAny_pyNext_list_end (show (Around.over A _ _).handled = none from hh) hit (G.lst.at fun o e => F.keep _ _ e) (by rw [Array.getElem?_eq_none (by rw [G.sz]; exact Nat.le_refl _)]) fun h' hx => ?_)
    have F' : Fr g C h' m := fr_kp (X := [it]) F (fun b o e n => hx b o (fun q => n (by rw [q]; exact .head _)) e) (fun z hz => by rw [List.mem_singleton.mp hz]; exact ⟨(N (it, oi) (by k_mem)).2.2, (N (it, oi) (by k_mem)).2.1⟩)
    rw [passing_end]
    exact seg_block0 (hK _ _ (hS.step fun b hb o e => hx b o (fun q => hd.1 (q ▸ hb)) e) F'.keep)
  | succ k ih =>
    intro i s₀ s hk hi hI hS
    have hlt : i < n₀ := by omega
    obtain ⟨m, oi, F, N, lit, hd, i1, i2, i3, i4, ia⟩ := hI
    have hit := lit _ _ (N (it, oi) (by k_mem)).1
    refine seg_forLoop (wpAny_pyNext_list_item hit (G.lst.at fun o e => F.keep _ _ e) (G.at' i hlt) fun h1 hit1 hs1 => ?_)
    obtain ⟨oi1, e1, lit1⟩ := lit_of hit1
    have F1 := fr_turn F (N (it, oi) (by k_mem)).2 (fun b x n e => hs1.extBut b x n e)
    have N1 : News g C h1 ([(c1, o1), (c2, o2), (c3, o3), (c4, o4), (a, slObj ns.length u1)] ++ (it, oi1) :: restAt s.heap dom) := news_it (P := [(c1, o1), (c2, o2), (c3, o3), (c4, o4), (a, slObj ns.length u1)]) N (fun b x n e => hs1.extBut b x n e) e1 (by
        intro q hq
        simp only [List.mem_cons, List.not_mem_nil, or_false] at hq
        rcases hq with rfl | rfl | rfl | rfl | rfl
        · exact i1.symm
        · exact i2.symm
        · exact i3.symm
        · exact i4.symm
        · exact ia.symm) (fun q hq z => hd (z ▸ rest_mem hq))
    dsimp only
    refine wpAny_assign_Name (wpAny_storeName_local rfl F1.ns (fun h2 hn2 hs2 => ?_) rfl)
    have F2 := fr_store F1 hn2 hs2
    have N2 := news_store N1 hs2
    show Seg _ _ _ _ _ _ _ ((execs (nthS gBody 0 :: nthS gBody 1 :: []) _).wrap _ _ _ _) _ _
    refine seg_execs_cons (seg_exec (g_tag F2 N2 G.X G.T (G.files i hlt) fun h3 tk3 u3 F3 N3 => ?_))
    (try dsimp only)
    refine seg_execs_cons (seg_If (g_test (rest := (it, oi1) :: restAt s.heap dom) F3 N3 G.X G.T G.d1 G.d2 G.d3 G.d4 (G.hl i hlt) G.hl2 G.Cd fun h4 tk4 F4 N4 => ?_))
    have hS4 : Since g dom s₀ { s with heap := h4, toks := tk4 } := hS.step (rest_keep (fun q hq => N4 q (List.mem_append_right [(c1, o1), (c2, o2), (c3, o3), (c4, o4), (a, slObj ns.length u1), (it, oi1)] hq)))
    have hR4 : restAt h4 dom = restAt s.heap dom := rest_eq (L := C) (g := g) (fun q hq => N4 q (List.mem_append_right [(c1, o1), (c2, o2), (c3, o3), (c4, o4), (a, slObj ns.length u1), (it, oi1)] hq))
    have hI4 : GI g C c1 c2 c3 c4 a l o1 o2 o3 o4 ns u1 dom it (i + 1) h4 := ⟨_, oi1, F4, by rw [hR4]; exact N4, lit1, hd, i1, i2, i3, i4, ia⟩
    cases hpz : pzOf tg ns i with
    | false =>
      have hb : (Txt.slice (tg i) none (some (ns.length : Int)) == ns) = false := hpz
      rw [hb, if_neg Bool.false_ne_true, passing_false hlt hpz]
      exact seg_again rfl (ih (i + 1) s₀ _ (by omega) hlt hI4 hS4)
    | true =>
      have hb : (Txt.slice (tg i) none (some (ns.length : Int)) == ns) = true := hpz
      rw [hb, if_pos rfl, passing_true hlt hpz, List.length_cons]
      refine seg_execs_cons (seg_Expr_Yield rfl rfl rfl ?_ rfl rfl)
      refine g_elem F4 ?_
      intro kap hkap
      refine ⟨⟨i, passing_here hlt hpz, rfl⟩, hS4, F4.keep, fun s2 k2 p2 => hkap .none s2 ?_⟩
      exact seg_again rfl (ih (i + 1) s2 s2 (by omega) hlt (gi_back G hI4 k2 p2) ⟨s2.heap, s2.toks, rfl, fun _ _ _ e => e⟩)
end
end Mine
end

section
open PySem PySem.W PyProof.Rows PySem.Spec PySem.Calls PySem.W.X
set_option maxRecDepth 100000
set_option maxHeartbeats 8000000
namespace Mine
section
variable {w : World} {p : Program} {loose : List Str} {mean : ExcName → Option Value} {mg mb : Str → Option Value} {g : Heap} {C c1 c2 c3 c4 a l f c : Addr} {o1 o2 o3 o4 : Obj} {ns : Str} {t u1 : Tok} {fa : Nat → Addr} {num : Nat → Int} {tg : Nat → Str} {n₀ : Nat} {items : Array Value} {dom : List Addr} {A : Around}
theorem gen_seg (G : GC w p loose mean mg mb g C c1 c2 c3 c4 a l o1 o2 o3 o4 ns t u1 fa num tg n₀ items dom) (hh : A.handled = none) {s : Shared} {m : Str → Option Value}
    (F : Fr g C s.heap m) (hm : m (Str.ofString "result") = some (.ref l)) (N : News g C s.heap [(c1, o1), (c2, o2), (c3, o3), (c4, o4), (a, slObj ns.length u1)]) (pr : ∀ b ∈ dom, ∃ o, s.heap.get? b = some o) :
    Seg (model P0 w) A (Rg g dom) (Yg g dom (pzOf tg ns) n₀ fa) (passing (pzOf tg ns) n₀ 0).length s (.func selParts.2.1 (selEnv C f c c1 c2 c3 c4)) ((model P0 w).den (.func selParts.2.1 (selEnv C f c c1 c2 c3 c4))) [] s := by
  refine seg_func ?_
  show Seg _ _ _ _ _ _ _ ((execs (nthS selParts.2.1 0 :: []) _).wrap _ _ _ _) _ _
  refine seg_execs_cons (seg_For ?_ ?hs)
  case hs => intro _; rfl
  refine nameX_L F (v := .ref l) hm ?_ rfl rfl
  refine wpAny_pyIter_list (G.lst.at fun o e => F.keep _ _ e) ?_
  intro p₁
  dsimp only
  have e0 : (s.heap.push { cls := .type "list_iterator", data := .fields #[.ref l, (.int 0 0)] }).get? s.heap.objs.size = some { cls := .type "list_iterator", data := .fields #[.ref l, (.int 0 0)] } := Heap.get?_push_size _ rfl
  have no : ∀ b o, s.heap.get? b = some o → s.heap.objs.size ≠ b := fun b o e q => Nat.lt_irrefl _ (q ▸ Heap.lt_size e)
  refine gen_loop G hh (fun s₀ s hS hst => ?_) n₀ 0 _ _ (Nat.sub_zero _) (Nat.zero_le _) ?_ ?_
  · exact seg_end (.ok (.ret .none)) ⟨rfl, rfl, hS, hst⟩
  · refine ⟨m, { cls := .type "list_iterator", data := .fields #[.ref l, .int 0 0] }, fr_push F _, ?_, fun h' it' e' => ⟨_, e', rfl, rfl⟩, fun q => ?_, no _ _ (N (c1, o1) (by k_mem)).1, no _ _ (N (c2, o2) (by k_mem)).1, no _ _ (N (c3, o3) (by k_mem)).1, no _ _ (N (c4, o4) (by k_mem)).1, no _ _ (N (a, _) (by k_mem)).1⟩
    · have nn := fr_ne F (Heap.get?_none_of_le (Nat.le_refl s.heap.objs.size))
      have : News g C (s.heap.push { cls := .type "list_iterator", data := .fields #[.ref l, .int 0 0] }) ([(c1, o1), (c2, o2), (c3, o3), (c4, o4), (a, slObj ns.length u1)] ++ (s.heap.objs.size, { cls := .type "list_iterator", data := .fields #[.ref l, .int 0 0] }) :: restAt (s.heap.push { cls := .type "list_iterator", data := .fields #[.ref l, .int 0 0] }) dom) := fun q hq => by
        rcases List.mem_append.mp hq with hq | hq
        · exact ⟨Heap.get?_push_of_some _ (N q hq).1, (N q hq).2⟩
        · rcases List.mem_cons.mp hq with rfl | hq
          · exact ⟨e0, nn⟩
          · obtain ⟨b, hb, rfl⟩ := List.mem_map.mp hq
            obtain ⟨o, e⟩ := pr b hb
            dsimp only
            rw [Heap.get?_push_of_some _ e]
            exact ⟨rfl, (G.domC b hb).1, (G.domC b hb).2⟩
      exact this
    · obtain ⟨o, e⟩ := pr _ q
      exact no _ _ e rfl
  · exact ⟨_, _, rfl, fun b hb o e => Heap.get?_push_of_some _ e⟩
end
end Mine
end

section
open PySem PySem.W PyProof.Rows PySem.Spec PySem.Calls PySem.W.X
set_option maxRecDepth 100000
set_option maxHeartbeats 8000000
namespace Mine
section
variable {w : World} {p : Program} {loose : List Str} {mean : ExcName → Option Value} {mg mb : Str → Option Value} {g : Heap} {fa : Nat → Addr} {n₀ : Nat} {dom : List Addr} {A : Around} {pz : Nat → Bool} {ag : Addr} {gi : Nat}
/-- the generator's state for its user: j are handed out -/
noncomputable def GA (w : World) (A : Around) (g : Heap) (dom : List Addr) (pz : Nat → Bool) (n₀ : Nat) (fa : Nat → Addr) (ag : Addr) (gi : Nat) (j : Nat) (s : Shared) : Prop :=
  s.heap.IsGen ag gi ∧ g.StaysIn s.heap ∧ ∃ gs, s.gens[gi]? = some gs ∧ ∀ s'' : Shared, (∀ b o, b ∉ dom → s.heap.get? b = some o → s''.heap.get? b = some o) → (∀ b ∈ dom, ∃ o, s''.heap.get? b = some o) →
    gs.Goes (model P0 w) A.in1 (Rg g dom) (Yg g dom pz n₀ fa) ((passing pz n₀ 0).length - j) (.send .none) s''
theorem GA.frame {j : Nat} {s : Shared} {h' : Heap} {tk : Nat} (x : GA w A g dom pz n₀ fa ag gi j s) (k : ∀ b o, b ∉ dom → s.heap.get? b = some o → h'.get? b = some o) (kg : ∀ o, s.heap.get? ag = some o → h'.get? ag = some o) (kk : g.StaysIn h') : GA w A g dom pz n₀ fa ag gi j { s with heap := h', toks := tk } := by
  obtain ⟨⟨o, nm, qn, e, r⟩, _, gs, hgs, go⟩ := x
  exact ⟨⟨o, nm, qn, kg _ e, r⟩, kk, gs, hgs, fun s'' k2 p2 => go s'' (fun b o n e => k2 b o n (k b o n e)) p2⟩
theorem gen_item (T : Top p loose mean mg mb g) (hh : A.handled = none) (hroom : A.depth < recursionLimit) (hag : ag ∈ dom) {j : Nat} {s : Shared} {Q : Option Value → Shared → Prop} {E : Value → Shared → Prop} (hj : j < (passing pz n₀ 0).length) (pr : ∀ b ∈ dom, ∃ o, s.heap.get? b = some o)
    (x : GA w A g dom pz n₀ fa ag gi j s)
    (hQ : ∀ i h' tk gens', (passing pz n₀ 0)[j]? = some i → (∀ b ∈ dom, ∀ o, s.heap.get? b = some o → h'.get? b = some o) → GenOnly gi s.gens gens' → GA w A g dom pz n₀ fa ag gi (j + 1) { s with heap := h', toks := tk, gens := gens' } → Q (some (.ref (fa i))) { s with heap := h', toks := tk, gens := gens' }) :
    wpAny (model P0 w) A (pyNext (.ref ag)) Q E s := by
  obtain ⟨hg, hst, gs, hgs, go⟩ := x
  obtain ⟨m, hm⟩ : ∃ m, (passing pz n₀ 0).length - j = m + 1 := ⟨(passing pz n₀ 0).length - j - 1, by omega⟩
  rw [hm] at go
  refine wpAny_pyNext_gen (P := fun n s₀ s₁ => n = 0 ∧ Since g dom s₀ s₁ ∧ g.StaysIn s₁.heap) hh (T.nolimit.keeps hst) hroom hg hgs (go _ (fun _ _ _ e => e) pr) (fun v s₁ gs' hv => ?_) (fun s₁ hp h' hk => ?_)
  · obtain ⟨⟨i, hi, rfl⟩, ⟨h₁, tk₁, rfl, hk₁⟩, hst₁, hkap⟩ := hv
    have hidx : (passing pz n₀ 0).length - 1 - (m + 1 - 1) = j := by omega
    rw [hidx] at hi
    refine hQ i h₁ tk₁ _ hi hk₁ ((GenOnly.setGen s gi .running).trans (GenOnly.setGen _ gi gs')) ⟨let ⟨o, nm, qn, ho, r⟩ := hg; ⟨o, nm, qn, hk₁ ag hag o ho, r⟩, hst₁, gs', setGen_self (gs := .running) (setGen_self hgs), fun s'' k2 p2 => ?_⟩
    have e : (passing pz n₀ 0).length - (j + 1) = m := by omega
    rw [e]
    exact hkap s'' k2 p2
  · exact absurd hp.1 (Nat.succ_ne_zero m)
theorem gen_done (T : Top p loose mean mg mb g) (hh : A.handled = none) (hroom : A.depth < recursionLimit) {s : Shared} {Q : Option Value → Shared → Prop} {E : Value → Shared → Prop} (pr : ∀ b ∈ dom, ∃ o, s.heap.get? b = some o)
    (x : GA w A g dom pz n₀ fa ag gi (passing pz n₀ 0).length s)
    (hQ : ∀ h' tk gens', (∀ b ∈ dom, ∀ o, s.heap.get? b = some o → h'.get? b = some o) → g.StaysIn h' → GenOnly gi s.gens gens' → gens'[gi]? = some .finished → Q none { s with heap := h', toks := tk, gens := gens' }) :
    wpAny (model P0 w) A (pyNext (.ref ag)) Q E s := by
  obtain ⟨hg, hst, gs, hgs, go⟩ := x
  rw [Nat.sub_self] at go
  refine wpAny_pyNext_gen (P := fun n s₀ s₁ => n = 0 ∧ Since g dom s₀ s₁ ∧ g.StaysIn s₁.heap) hh (T.nolimit.keeps hst) hroom hg hgs (go _ (fun _ _ _ e => e) pr) (fun v s₁ gs' hv => ?_) (fun s₁ hp h' hk => ?_)
  · obtain ⟨_, ⟨h₁, tk₁, rfl, hk₁⟩, _, hkap⟩ := hv
    exact False.elim (hkap { s with heap := h₁ } (fun _ _ _ e => e) (fun b hb => let ⟨o, e⟩ := pr b hb; ⟨o, hk₁ b hb o e⟩))
  · obtain ⟨_, ⟨h₁, tk₁, rfl, hk₁⟩, hst₁⟩ := hp
    exact hQ h' tk₁ _ (fun b hb o e => hk b o (hk₁ b hb o e)) (fun b o e => hk b o (hst₁ b o e)) ((GenOnly.setGen s gi .running).trans (GenOnly.setGen _ gi .finished)) (setGen_self (gs := .running) (setGen_self hgs))
end
end Mine
end

section
open PySem PySem.W PyProof.Rows PySem.Spec PySem.Calls PySem.W.X
set_option maxRecDepth 100000
set_option maxHeartbeats 8000000
namespace Mine
section
variable {w : World} {p : Program} {loose : List Str} {mean : ExcName → Option Value} {mg mb : Str → Option Value} {g : Heap} {fa : Nat → Addr} {n₀ : Nat} {dom : List Addr} {A : Around} {pz : Nat → Bool} {ag : Addr} {gi : Nat}
noncomputable def IsI (v : Value) (n : Int) : Prop := ∃ t, v = .int n t
theorem passing_lt {j i : Nat} (h : (passing pz n₀ 0)[j]? = some i) : i < n₀ := by
  have := List.mem_of_getElem? h
  unfold passing at this
  rw [List.drop_zero, List.mem_filter] at this
  exact List.mem_range.mp this.1
theorem passing_len : (passing pz n₀ 0).length ≤ n₀ := by
  unfold passing
  rw [List.drop_zero]
  exact Nat.le_trans (List.length_filter_le _ _) (by rw [List.length_range]; exact Nat.le_refl _)
theorem found_loop {R : Result → Shared → Prop} {elt iter : Expr} {x : Str} {px : Pos} {scope : Scope} {pos : Pos} {D : Addr} {cenv : Env} {num : Nat → Int} {s : Shared} {m : Str → Option Value}
    (T : Top p loose mean mg mb g) (hh : A.handled = none) (hroom : A.depth < recursionLimit) (hn0 : n₀ ≤ 1000) (hD : D ∈ dom) (hC : cenv.locals ∈ dom) (hag : ag ∈ dom) (hDC : D ≠ cenv.locals) (hgD : ag ≠ D) (hgC : ag ≠ cenv.locals)
    (nD : g.get? D = none) (nC : g.get? cenv.locals = none) (pr : ∀ b ∈ dom, ∃ o, s.heap.get? b = some o)
    (hx : cenv.kindOf x = some .local) (hp : (cenv.scope.kind == .class || (cenv.scope.kind == .module && cenv.locals != cenv.globals)) = false)
    (hga : GA w A g dom pz n₀ fa ag gi 0 s) (hacc : s.heap.PlainList D #[]) (hn : s.heap.Ns cenv.locals m)
    (helt : ∀ i (s' : Shared) m' Q E, i < n₀ → s'.heap.Ns cenv.locals m' → m' x = some (.ref (fa i)) → g.StaysIn s'.heap → (∀ t tk, Q (.int (num i) t) { s' with toks := tk }) → wpAny (model P0 w) A (eval elt cenv) Q E s')
    (hR : ∀ h' tk gens' m' ys, h'.Ns cenv.locals m' → h'.PlainList D ys → Paired IsI ys.toList ((passing pz n₀ 0).map num) → (∀ b ∈ dom, b ≠ D → b ≠ cenv.locals → ∀ o, s.heap.get? b = some o → h'.get? b = some o) → g.StaysIn h' → GenOnly gi s.gens gens' → gens'[gi]? = some .finished → R (.ok .next) { s with heap := h', toks := tk, gens := gens' }) :
    codeAny (model P0 w) A (.compLoop (.ListComp elt [⟨.Name x px, iter, [], 0⟩] scope pos) 0 (.ref ag) (.ref D) cenv) R s := by
  refine codeAny_compLoop_list
    (fun k s' => ∃ h' tk gens' m' ys j, s' = { s with heap := h', toks := tk, gens := gens' } ∧ GA w A g dom pz n₀ fa ag gi j s' ∧ h'.PlainList D ys ∧ h'.Ns cenv.locals m' ∧
      Paired IsI ys.toList (((passing pz n₀ 0).take j).map num) ∧ j ≤ (passing pz n₀ 0).length ∧ k = (passing pz n₀ 0).length + 1 - j ∧ GenOnly gi s.gens gens' ∧
      (∀ b ∈ dom, b ≠ D → b ≠ cenv.locals → ∀ o, s.heap.get? b = some o → h'.get? b = some o) ∧ (∀ b ∈ dom, ∃ o, h'.get? b = some o)) ?_ ((passing pz n₀ 0).length + 1)
    ⟨s.heap, s.toks, s.gens, m, #[], 0, rfl, hga, hacc, hn, Paired.nil, Nat.zero_le _, rfl, ⟨rfl, fun _ _ => rfl⟩, fun _ _ _ _ _ e => e, pr⟩
  rintro k s' ⟨h', tk, gens', m', ys, j, rfl, ga, pl, ns, hP, hj, rfl, go, kp, pr'⟩
  by_cases hlt : j < (passing pz n₀ 0).length
  · refine gen_item T hh hroom hag hlt pr' ga ?_
    intro i h1 tk1 gens1 hi k1 go1 ga1
    have hi0 := passing_lt hi
    have ns1 := ns.at' fun o e => k1 _ hC o e
    dsimp only at k1 ga1 go1
    refine wpAny_assign_Name (wpAny_storeName_local hx ns1 (fun h2 hn2 hs2 => ?_) hp)
    dsimp only at hn2 hs2
    have st1 : g.StaysIn h1 := ga1.2.1
    have st2 : g.StaysIn h2 := fun b o e => hs2.extBut b o (fun q => by rw [q, nC] at e; cases e) (st1 b o e)
    refine helt i _ _ _ _ hi0 hn2 (by simp) st2 (fun t tk2 => ?_)
    have hys : ys.size ≤ sizeLine := by
      have e1 := hP.length
      rw [List.length_map, List.length_take] at e1
      have e2 : (passing pz n₀ 0).length ≤ n₀ := passing_len
      have e4 : ys.toList.length = ys.size := by simp
      have : (1000 : Nat) ≤ sizeLine := by decide
      omega
    have pl2 : h2.PlainList D ys := pl.at fun o e => hs2.extBut _ o hDC (k1 _ hD o e)
    refine wpAny_list_append_plain (hsz := hys) pl2 fun h3 hl3 hs3 => ?_
    dsimp only at hl3 hs3 ⊢
    have ga3 := GA.frame (h' := h3) (tk := tk2) ga1 (fun b o n e => hs3.extBut b o (fun q => n (q ▸ hD)) (hs2.extBut b o (fun q => n (q ▸ hC)) e)) (fun o e => hs3.extBut _ o hgD (hs2.extBut _ o hgC e)) (fun b o e => hs3.extBut b o (fun q => by rw [q, nD] at e; cases e) (st2 b o e))
    refine ⟨(passing pz n₀ 0).length + 1 - (j + 1), by omega, h3, _, gens1, _, ys.push (.int (num i) t), j + 1, rfl, ga3, hl3, hn2.sameBut hs3 (Ne.symm hDC), ?_, hlt, rfl, go.trans go1, fun b hb n1 n2 o e => hs3.extBut b o n1 (hs2.extBut b o n2 (k1 b hb o (kp b hb n1 n2 o e))), fun b hb => ?_⟩
    · rw [List.take_add_one, hi, List.map_append]
      simpa using Paired.snoc hP (show IsI (.int (num i) t) (num i) from ⟨t, rfl⟩)
    · by_cases q1 : b = D
      · subst q1; obtain ⟨n, e⟩ := hl3; exact ⟨_, e⟩
      by_cases q2 : b = cenv.locals
      · subst q2
        obtain ⟨o, _, _, e, _⟩ := hn2.sameBut hs3 (Ne.symm hDC)
        exact ⟨o, e⟩
      obtain ⟨o, e⟩ := pr' b hb
      exact ⟨o, hs3.extBut b o q1 (hs2.extBut b o q2 (k1 b hb o e))⟩
  · have hin : j = (passing pz n₀ 0).length := by omega
    subst hin
    refine gen_done T hh hroom pr' ga ?_
    intro h1 tk1 gens1 k1 st1 go1 fin
    dsimp only at k1 go1
    refine hR h1 tk1 gens1 m' ys (ns.at' fun o e => k1 _ hC o e) (pl.at fun o e => k1 _ hD o e) (by simpa using hP) (fun b hb n1 n2 o e => k1 b hb o (kp b hb n1 n2 o e)) st1 (go.trans go1) fin
end
end Mine
end
theorem Mine.t_resetFD : True := by
  first | (walk1; fail "no") | trivial

section
open PySem PySem.W PyProof.Rows PySem.Spec PySem.Calls PySem.W.X
set_option maxRecDepth 100000
set_option maxHeartbeats 8000000
namespace Mine
theorem t_offFD : True := by
  w_top off
  trivial
/-- a head that may be asked for -/
structure HeadOk (x : Str) : Prop where
  st : ∃ r, cp x = 45 :: r
  en : ∃ r, cp x = r ++ [125]
  ln : x.length ≤ 900
noncomputable abbrev star (x : Str) : Str := x ++ Str.ofString "*"
theorem cp_star (x : Str) : cp (star x) = cp x ++ [42] := by
  unfold star
  rw [cp_app]
  rfl
theorem star_len (x : Str) : (star x).length = x.length + 1 := by rw [← cp_len, cp_star, List.length_append, cp_len]; rfl
theorem star_init (x : Str) : Txt.slice (star x) none (some (-1)) = x := cp_ext (by
  rw [cp_init, star_len, cp_star, Nat.add_sub_cancel, List.take_append_of_le_length (by rw [cp_len]; exact Nat.le_refl _), List.take_of_length_le (by rw [cp_len]; exact Nat.le_refl _)])
theorem ne_of_cp {x y : Str} {a b : Nat} {r q : List Nat} (hx : cp x = a :: r) (hy : cp y = b :: q) (h : a ≠ b) : (x == y) = false := by
  rw [beq_eq_false_iff_ne]
  intro e
  rw [e, hy] at hx
  injection hx with h1 _
  exact h h1.symm
theorem HeadOk.h1 {x : Str} (h : HeadOk x) : (star x == Str.ofString "{*}*") = false := by
  obtain ⟨r, e⟩ := h.st
  exact ne_of_cp (a := 45) (b := 123) (r := r ++ [42]) (q := [42, 125, 42]) (by rw [cp_star, e]; rfl) rfl (by decide)
theorem HeadOk.h2 {x : Str} (h : HeadOk x) : (star x == Str.ofString "{}*") = false := by
  obtain ⟨r, e⟩ := h.st
  exact ne_of_cp (a := 45) (b := 123) (r := r ++ [42]) (q := [125, 42]) (by rw [cp_star, e]; rfl) rfl (by decide)
theorem HeadOk.h3 {x : Str} (h : HeadOk x) : (Txt.slice (star x) none (some 3) == Str.ofString "{*}") = false := by
  obtain ⟨r, e⟩ := h.st
  refine ne_of_cp (a := 45) (b := 123) (r := (r ++ [42]).take 2) (q := [42, 125]) ?_ rfl (by decide)
  rw [show (3 : Int) = ((3 : Nat) : Int) from rfl, cp_take, cp_star, e]
  rfl
theorem HeadOk.h4 {x : Str} (h : HeadOk x) : (Txt.slice (star x) (some (-2)) none == Str.ofString "}*") = true := by
  obtain ⟨r, e⟩ := h.en
  have hl : x.length = r.length + 1 := by rw [← cp_len, e, List.length_append]; rfl
  rw [beq_iff_eq]
  apply cp_ext
  rw [cp_last2 _ (by rw [star_len]; omega), star_len, cp_star, e, hl]
  rw [show r.length + 1 + 1 - 2 = r.length from by omega, List.append_assoc, List.drop_left]
  rfl
section
variable {w : World} {p : Program} {loose : List Str} {mean : ExcName → Option Value} {mg mb : Str → Option Value} {H : Heap} {s : Shared} {A : Around} {Q E : Value → Shared → Prop}
theorem TabSel.ps {h : Heap} (x : TabSel h) : ∃ ps, h.get? 16 = some (tabObj ps) := by
  rcases x with e | ⟨c, e, _⟩
  · exact ⟨_, e⟩
  · exact ⟨_, e⟩
theorem TabSel.move {h h' : Heap} {ps : Array Value} (x : TabSel h) (e : h.get? 16 = some (tabObj ps)) (e' : h'.get? 16 = some (tabObj ps)) (k : Kp [16] h h') : TabSel h' := by
  rcases x with e1 | ⟨c, e1, r, n⟩
  · rw [e] at e1
    exact .inl (e'.trans e1)
  · rw [e] at e1
    exact .inr ⟨c, e'.trans e1, r.at fun o q => k _ _ q (fun z => n (List.mem_singleton.mp z)), n⟩
noncomputable abbrev selFn (c1 c2 c3 c4 : Addr) (doc pm : Value) (c : Addr) (ct : Value) : Obj := fnMade (Str.ofString "select") selQual selParts.1 selParts.2.1 selParts.2.2.1 [(Str.ofString "ns_only", c1), (Str.ofString "ns", c2), (Str.ofString "_str", c3), (Str.ofString "_isinstance", c4)] doc pm c ct
theorem none_g {g h : Heap} {L b : Addr} {m : Str → Option Value} (F : Fr g L h m) (e : h.get? b = none) : g.get? b = none ∧ b ≠ L := ⟨(fr_ne F e).2, (fr_ne F e).1⟩
theorem k_prep {s₀ : Shared} {g : Heap} {L : Addr} {m : Str → Option Value} {ps : Array Value} (F : Fr g L s.heap m) (N : News g L s.heap [(16, tabObj ps)]) (hg : g = hideAll s₀.heap [16]) (h16 : s₀.heap.get? 16 = some (tabObj ps)) (hT : TabSel s₀.heap) (W : Wd w p loose mean mg mb H) (st : H.StaysIn g) (ok : Ok 2 A) (hd0 : Str) (t : Tok) (hh : HeadOk hd0)
    (k : ∀ f h' tk c1 c2 c3 c4 a o1 o2 o3 o4 t u doc pm ct c, Fr g L h' m → News g L h' [(f, selFn c1 c2 c3 c4 doc pm c ct)] → TabSel h' → SelAt s.heap h' f hd0 c1 c2 c3 c4 a o1 o2 o3 o4 t (slObj hd0.length u) doc pm ct c → Kp [16] s.heap h' → Q (.ref f) { s with heap := h', toks := tk }) :
    wpAny (model P0 w) A (call (.ref 21) [.str (star hd0) t]) Q E s := by
  have k0 : Kp [16] s₀.heap s.heap := fun b o e n => F.keep b o (by rw [hg]; exact hideAll_get [16] e n)
  refine c_prep W (fun b o e => F.keep b o (st b o e)) ok (star hd0) t (by rw [star_len]; have := hh.ln; omega) hh.h1 hh.h2 hh.h3 hh.h4 (hT.move h16 (N _ (.head _)).1 k0) ?_
  rw [star_init]
  intro f h' tk c1 c2 c3 c4 a o1 o2 o3 o4 t u doc pm ct c kp tb sa
  have F' := fr_kp F kp (fun z hz => by rw [List.mem_singleton.mp hz]; exact ⟨(N _ (.head _)).2.2, (N _ (.head _)).2.1⟩)
  exact k f h' tk c1 c2 c3 c4 a o1 o2 o3 o4 t u doc pm ct c F' (fun q hq => by
    rw [List.mem_singleton.mp hq]
    exact ⟨sa.fn, (none_g F sa.n0).2, (none_g F sa.n0).1⟩) tb sa kp
theorem c_sel {f c1 c2 c3 c4 c l : Addr} {doc pm ct : Value} (hl : s.heap.NoLimit) (ok : Ok 1 A) (hf : s.heap.get? f = some (selFn c1 c2 c3 c4 doc pm c ct)) (hc : s.heap.CodeRec (.ref c) selQual)
    (k : ∀ ag h' tk, (∀ b o, s.heap.get? b = some o → h'.get? b = some o) → h'.Ns s.heap.objs.size (fun y => List.lookup y (List.reverse [(Str.ofString "context", Value.none), (Str.ofString "result", Value.ref l)])) → h'.IsGen ag s.gens.size → s.heap.objs.size < ag →
      Q (.ref ag) { s with heap := h', toks := tk, gens := s.gens.push (.fresh (.func selParts.2.1 (selEnv s.heap.objs.size f c c1 c2 c3 c4))) }) :
    wpAny (model P0 w) A (call (.ref f) [.none, .ref l]) Q E s := by
  refine wpAny_call (codeAny_call_generator ok.room hf rfl rfl rfl rfl hc ?_)
  refine BindsTo.of_eq (binds := [(Str.ofString "context", Value.none), (Str.ofString "result", Value.ref l)]) rfl _ _ _ _ ?_
  refine wpAny_newFunctionEnv (show ∀ x ∈ selParts.2.2.1.names, x.2 ≠ .cell by decide +kernel) (by exact locs rfl) (fun h₀ hns₀ hsb₀ => ⟨hl.fresh _ hsb₀, ?_⟩) rfl
  have up : ∀ b o, s.heap.get? b = some o → h₀.get? b = some o := fun b o e => hsb₀.extBut b o (Nat.ne_of_lt (Heap.lt_size e)) (Heap.get?_push_of_some _ e)
  refine k _ _ _ (fun b o e => Heap.get?_push_of_some _ (up b o e)) (hns₀.push _) ⟨_, _, _, Heap.get?_push_size _ rfl, rfl, rfl, rfl⟩ hns₀.lt
theorem TabSel.ex {g h : Heap} (x : TabSel h) (st : g.StaysIn h) : ∃ ex : List Addr, (∀ b ∈ ex, g.get? b = none ∧ b ≠ 16 ∧ ∃ o vs t, h.get? b = some o ∧ o.data = .fields vs ∧ vs[1]? = some (.str selQual t)) ∧ (∀ h' : Heap, (∀ o, h.get? 16 = some o → h'.get? 16 = some o) → (∀ b ∈ ex, ∀ o, h.get? b = some o → h'.get? b = some o) → g.StaysIn h' → TabSel h') := by
  rcases x with e | ⟨c, e, cr, n⟩
  · exact ⟨[], ⟨fun b hb => (nomatch hb), fun h' k _ _ => .inl (k _ e)⟩⟩
  · obtain ⟨c', oc, vs, t, e1, e2, r⟩ := id cr
    cases e1
    cases q : g.get? c with
    | none =>
      exact ⟨[c], fun b hb => by rw [List.mem_singleton.mp hb]; exact ⟨q, n, oc, vs, t, e2, r⟩, fun h' k k2 _ => .inr ⟨c, k _ e, cr.at fun o z => k2 c (.head _) o z, n⟩⟩
    | some o =>
      refine ⟨[], ⟨fun b hb => (nomatch hb), fun h' k _ k3 => .inr ⟨c, k _ e, cr.at fun o' z => ?_, n⟩⟩⟩
      rw [st c o q] at z
      cases z
      exact k3 c o q
theorem bare_end {gs gs' : Array GenState} {c : Code} (go : GenOnly gs.size (gs.push (.fresh c)) gs') (fin : gs'[gs.size]? = some .finished) (x : AllBare gs) : AllBare gs' := fun y hy => by
  obtain ⟨k, hk, rfl⟩ := Array.mem_iff_getElem.mp hy
  by_cases q : k = gs.size
  · subst q
    rw [Array.getElem?_eq_getElem hk] at fin
    rw [Option.some.inj fin]
    rfl
  · have e := go.2 k q
    have sz := go.1
    rw [Array.size_push] at sz
    rw [Array.getElem?_push, if_neg q, Array.getElem?_eq_getElem hk, Array.getElem?_eq_getElem (show k < gs.size by omega)] at e
    rw [Option.some.inj e]
    exact x _ (Array.getElem_mem _)
noncomputable def RetD (s : Shared) (Q : Value → Shared → Prop) (ns : List Int) : Prop := ∀ D h' tk gens' ys, Kp [16] s.heap h' → TabSel h' → (AllBare s.gens → AllBare gens') → h'.PlainList D ys → s.heap.get? D = none → Paired IsI ys.toList ns → Q (.ref D) { s with heap := h', toks := tk, gens := gens' }
theorem c_found (W : Wd w p loose mean mg mb H) (hs : H.StaysIn s.heap) (ok : Ok 4 A) (l : Addr) (items : Array Value) (hd0 : Str) (u : Tok) (hh : HeadOk hd0) (hT : TabSel s.heap) (hl : s.heap.IsList l items) {fa : Nat → Addr} {num : Nat → Int} {tg : Nat → Str} {n₀ : Nat} (hn0 : n₀ ≤ 1000) (hsz : items.size = n₀) (hat : ∀ i, i < n₀ → items[i]? = some (.ref (fa i))) (hfl : ∀ i, i < n₀ → FileAt s.heap (fa i) (num i) (tg i)) (htl : ∀ i, i < n₀ → (tg i).length ≤ 1000)
    (hret : RetD s Q ((passing (pzOf tg hd0) n₀ 0).map num)) :
    wpAny (model P0 w) A (call (.ref 94) [.ref l, .str hd0 u]) Q E s := by
  refine wp_weaken ok ?_
  clear ok
  refine wpAny_call ?_
  have hlen : hd0.length ≤ 900 := hh.ln
  obtain ⟨ps, h16⟩ := hT.ps
  k_dflt (refine' enterK (binds := [(Str.ofString "files", .ref l), (Str.ofString "head", .str hd0 u)]) W hs [16] [(16, tabObj ps)] ?hX ?hN (ok_AL (by decide)).room ?ho ?hcd ?hbind ?hloc ?_ ?hcell ?a ?b ?c; (case hX => intro z hz; rw [List.mem_singleton.mp hz]; exact W.n2); (case hN => intro z hz; rw [List.mem_singleton.mp hz]; exact ⟨h16, .head _⟩); (case ho => k_is); (case hcd => k_is); (case hbind => exact BindsTo.of_eq rfl); (case hloc => exact locs rfl); (case hcell => decide); (case a => rfl); (case b => rfl); (case c => rfl); k_whole; intro g L h₁ hg hL F0 N0 X T st hk; (try dsimp only); (try k_fold))
  have C2 : CodeHd g 20 16 := W.c2.keeps st
  (try dsimp only)
  (repeat' (first | (k_unfold; (try dsimp only)) | ((first | with_reducible show wpAny _ _ _ _ _ _ | with_reducible show @ite _ _ _ _ _ | with_reducible show And _ _); (first | (with_reducible show wpAny _ _ (eval (Expr.ListComp _ _ _ _) _) _ _ _; (k_here; rw [eval_ListComp]; k_dflt (refine' wpAny_comprehension_free (cl := []) (use := none) ?h1 ?h2 ?h3 ?h4 ?h5 ?_; (case h1 => rfl); (case h2 => intro _; rfl); (case h3 => rfl); (case h4 => rfl); (case h5 => decide)); k_whole; (try dsimp only [firstIter]))) | (with_reducible show wpAny _ _ (call (Value.ref _) _) _ _ _; (k_here; k_dflt (refine' k_prep ?F ?N (by assumption) (by assumption) (by assumption) (by assumption) (by assumption) (Ok.less (Ok.deeper (ok_AL (n := 4) (by decide))) (by decide)) _ _ (by assumption) ?_; (case F => k_asm); (case N => k_asm)); k_whole; intro _ _ _ _ _ _ _ _ _ _ _ _ _ _ _ _ _ _ _ _ _ _ _)) | walk1)) | (dsimp only; (first | with_reducible show wpAny _ _ _ _ _ _ | with_reducible show @ite _ _ _ _ _ | with_reducible show And _ _); (first | (with_reducible show wpAny _ _ (eval (Expr.ListComp _ _ _ _) _) _ _ _; (k_here; rw [eval_ListComp]; k_dflt (refine' wpAny_comprehension_free (cl := []) (use := none) ?h1 ?h2 ?h3 ?h4 ?h5 ?_; (case h1 => rfl); (case h2 => intro _; rfl); (case h3 => rfl); (case h4 => rfl); (case h5 => decide)); k_whole; (try dsimp only [firstIter]))) | (with_reducible show wpAny _ _ (call (Value.ref _) _) _ _ _; (k_here; k_dflt (refine' k_prep ?F ?N (by assumption) (by assumption) (by assumption) (by assumption) (by assumption) (Ok.less (Ok.deeper (ok_AL (n := 4) (by decide))) (by decide)) _ _ (by assumption) ?_; (case F => k_asm); (case N => k_asm)); k_whole; intro _ _ _ _ _ _ _ _ _ _ _ _ _ _ _ _ _ _ _ _ _ _ _)) | walk1))))
  · rename News _ _ _ _ => N1
    exact FnAt.of N1 (.head _)
  rename_i f hp tkp c1 c2 c3 c4 a o1 o2 o3 o4 t3 u3 doc pm ct c F1 N1 tb sa kp
  dsimp only at sa kp
  have hlg : g.IsList l items := by
    obtain ⟨o, e, c, r⟩ := hl
    refine ⟨o, ?_, c, r⟩
    rw [hg]
    refine hideAll_get [16] e (fun q => ?_)
    rw [List.mem_singleton.mp q, h16] at e
    cases e; cases c
  have hfg : ∀ i, i < n₀ → FileAt g (fa i) (num i) (tg i) := fun i hi => (hfl i hi).kp (X := [16]) (fun b o e n => by rw [hg]; exact hideAll_get [16] e n) (fun y hy => by rw [List.mem_singleton.mp hy]; exact ⟨ps, h16⟩)
  have h16' := (N0 _ (.head _)).1
  dsimp only at h16'
  refine c_sel (T.nolimit.keeps F1.keep) (Ok.less (Ok.deeper (ok_AL (n := 4) (by decide))) (by decide)) sa.fn sa.code ?_
  intro ag h2 tk2 k2 ns2 ig2 lt2
  dsimp only at k2 ns2 ig2 lt2 ⊢
  refine wpAny_pyIter_gen ig2 ?_
  refine wpAny_newObj_type (wpAny_newFunctionEnv (by decide) (by intro y hy; simp at hy) (fun h3 hns3 hsb3 => ?_) rfl)
  dsimp only at hns3 hsb3 ⊢
  have F2 := fr_keep F1 (Kp.of k2)
  have nD2 := fr_size F2
  have nC2 := fr_size (fr_push F2 { cls := .type "list", data := .seq #[] })
  generalize hH2 : h2.push { cls := .type "list", data := .seq #[] } = H2 at hns3 hsb3 nC2 ⊢
  have hCs : H2.objs.size = h2.objs.size + 1 := by rw [← hH2, Heap.size_push]
  have up3 : ∀ b o, h2.get? b = some o → h3.get? b = some o := fun b o e => hsb3.extBut b o (by have := Heap.lt_size e; rw [hCs]; exact Nat.ne_of_lt (Nat.lt_succ_of_lt this)) (Heap.get?_push_of_some _ (hH2 ▸ Heap.get?_push_of_some _ e))
  have eD : h3.PlainList h2.objs.size #[] := ⟨_, hsb3.extBut _ _ (by rw [hCs]; exact Nat.ne_of_lt (Nat.lt_succ_self _)) (Heap.get?_push_of_some _ (hH2 ▸ Heap.get?_push_size _ rfl))⟩
  obtain ⟨ex, hex, tbx⟩ := tb.ex F1.keep
  obtain ⟨ps2, e16⟩ := tb.ps
  have lC : hp.objs.size < h2.objs.size := ns2.lt
  have lL : L < hp.objs.size := F1.ns.lt
  have l16 : 16 < hp.objs.size := Heap.lt_size e16
  have gL := F1.above
  obtain ⟨oag, _, _, eag, _⟩ := id ig2
  have lag : ag < h2.objs.size := Heap.lt_size eag
  have pL : ∃ o, hp.get? L = some o := let ⟨o, _, _, e, _⟩ := F1.ns; ⟨o, e⟩
  have pL1 : ∃ o, h₁.get? L = some o := let ⟨o, _, _, e, _⟩ := F0.ns; ⟨o, e⟩
  have nin : ∀ x ox, hp.get? x = some ox → h₁.get? x = none → (∀ vs t, ox.data = .fields vs → vs[1]? = some (.str selQual t) → False) → x ∉ h2.objs.size :: H2.objs.size :: ag :: L :: 16 :: ex := fun x ox e n d hm => by
    have lx := Heap.lt_size e
    rcases List.mem_cons.mp hm with q | hm
    · rw [q] at lx; exact Nat.lt_asymm lx lC
    rcases List.mem_cons.mp hm with q | hm
    · rw [q, hCs] at lx; exact Nat.lt_asymm lx (Nat.lt_succ_of_lt lC)
    rcases List.mem_cons.mp hm with q | hm
    · rw [q] at lx; exact Nat.lt_asymm lx lt2
    rcases List.mem_cons.mp hm with q | hm
    · obtain ⟨o, eo⟩ := pL1
      rw [q, eo] at n; cases n
    rcases List.mem_cons.mp hm with q | hm
    · rw [q, h16'] at n; cases n
    · obtain ⟨_, _, o, vs, t, eo, dd, vv⟩ := hex _ hm
      rw [e] at eo; cases eo
      exact d vs t dd vv
  have nd : ∀ {o : Obj} {v : Option Value}, o.data = .cell v → ∀ vs t, o.data = .fields vs → vs[1]? = some (.str selQual t) → False := fun e vs t q _ => by rw [e] at q; cases q
  have i1 := nin _ _ sa.g1 sa.n1 (nd sa.d1)
  have i2 := nin _ _ sa.g2 sa.n2 (nd sa.d2)
  have i3 := nin _ _ sa.g3 sa.n3 (nd sa.d3)
  have i4 := nin _ _ sa.g4 sa.n4 (nd sa.d4)
  have ia := nin _ _ sa.ga sa.na (fun vs t q r => by cases q; cases r)
  have dC : ∀ b ∈ h2.objs.size :: H2.objs.size :: ag :: L :: 16 :: ex, b ≠ hp.objs.size ∧ g.get? b = none := fun b hm => by
    rcases List.mem_cons.mp hm with q | hm
    · rw [q]; exact ⟨Nat.ne_of_gt lC, nD2⟩
    rcases List.mem_cons.mp hm with q | hm
    · rw [q]; exact ⟨by rw [hCs]; exact Nat.ne_of_gt (Nat.lt_succ_of_lt lC), nC2⟩
    rcases List.mem_cons.mp hm with q | hm
    · rw [q]; exact ⟨Nat.ne_of_gt lt2, Heap.get?_none_of_le (Nat.le_trans gL (Nat.le_of_lt (Nat.lt_trans lL lt2)))⟩
    rcases List.mem_cons.mp hm with q | hm
    · rw [q]; exact ⟨Nat.ne_of_lt lL, Heap.get?_none_of_le gL⟩
    rcases List.mem_cons.mp hm with q | hm
    · rw [q]; exact ⟨Nat.ne_of_lt l16, (N0 _ (.head _)).2.2⟩
    · obtain ⟨n, _, o, _, _, eo, _⟩ := hex _ hm
      exact ⟨Nat.ne_of_lt (Heap.lt_size eo), n⟩
  have pr3 : ∀ b ∈ h2.objs.size :: H2.objs.size :: ag :: L :: 16 :: ex, ∃ o, h3.get? b = some o := fun b hm => by
    rcases List.mem_cons.mp hm with q | hm
    · rw [q]; obtain ⟨n, e⟩ := eD; exact ⟨_, e⟩
    rcases List.mem_cons.mp hm with q | hm
    · rw [q]; obtain ⟨o, _, _, e, _⟩ := hns3; exact ⟨_, e⟩
    rcases List.mem_cons.mp hm with q | hm
    · rw [q]; exact ⟨_, up3 _ _ eag⟩
    rcases List.mem_cons.mp hm with q | hm
    · rw [q]; obtain ⟨o, e⟩ := pL; exact ⟨_, up3 _ _ (k2 _ _ e)⟩
    rcases List.mem_cons.mp hm with q | hm
    · rw [q]; exact ⟨_, up3 _ _ (k2 _ _ e16)⟩
    · obtain ⟨n, _, o, _, _, eo, _⟩ := hex _ hm
      exact ⟨_, up3 _ _ (k2 _ _ eo)⟩
  have G : GC w p loose mean mg mb g hp.objs.size c1 c2 c3 c4 a l o1 o2 o3 o4 hd0 t3 u3 fa num tg n₀ items (h2.objs.size :: H2.objs.size :: ag :: L :: 16 :: ex) := ⟨X, T, C2, sa.d1, sa.d2, sa.d3, sa.d4, Nat.le_trans hlen (by decide), htl, hfg, hlg, hsz, hat, dC, i1, i2, i3, i4, ia⟩
  have st3 : g.StaysIn h3 := fun b o e => up3 b o (F2.keep b o e)
  have ga : GA w (Around.deeper (AL 4) (envX (Str.ofString "_law_found") default L 94 (Value.ref 93) [])) g (h2.objs.size :: H2.objs.size :: ag :: L :: 16 :: ex) (pzOf tg hd0) n₀ fa ag s.gens.size 0 { heap := h3, gens := s.gens.push (.fresh (.func selParts.2.1 (selEnv hp.objs.size f c c1 c2 c3 c4))), drawn := s.drawn, toks := tk2, os := s.os } := by
    refine ⟨ig2.keeps up3, st3, _, Array.getElem?_push_size, fun s'' k pr => ⟨rfl, ?_⟩⟩
    have nb : ∀ x, x < hp.objs.size → x ≠ hp.objs.size := fun x hx => Nat.ne_of_lt hx
    refine gen_seg G rfl (m := fun y => List.lookup y (List.reverse [(Str.ofString "context", Value.none), (Str.ofString "result", Value.ref l)])) ⟨ns2.at' fun o e => k _ _ (fun q => (dC _ q).1 rfl) (up3 _ _ e), fun b o e => k b o (fun q => by rw [(dC b q).2] at e; cases e) (st3 b o e), Nat.le_trans gL (Nat.le_of_lt lL)⟩ rfl (fun q hq => ?_) pr
    simp only [List.mem_cons, List.not_mem_nil, or_false] at hq
    rcases hq with rfl | rfl | rfl | rfl | rfl
    · exact ⟨k _ _ i1 (up3 _ _ (k2 _ _ sa.g1)), nb _ (Heap.lt_size sa.g1), (none_g F0 sa.n1).1⟩
    · exact ⟨k _ _ i2 (up3 _ _ (k2 _ _ sa.g2)), nb _ (Heap.lt_size sa.g2), (none_g F0 sa.n2).1⟩
    · exact ⟨k _ _ i3 (up3 _ _ (k2 _ _ sa.g3)), nb _ (Heap.lt_size sa.g3), (none_g F0 sa.n3).1⟩
    · exact ⟨k _ _ i4 (up3 _ _ (k2 _ _ sa.g4)), nb _ (Heap.lt_size sa.g4), (none_g F0 sa.n4).1⟩
    · exact ⟨k _ _ ia (up3 _ _ (k2 _ _ sa.ga)), nb _ (Heap.lt_size sa.ga), (none_g F0 sa.na).1⟩
  refine codeAny_compStart_list ?lp (wpAny_pyIter_gen (ig2.keeps up3) ?lp2)
  all_goals
    refine found_loop (num := num) (dom := h2.objs.size :: H2.objs.size :: ag :: L :: 16 :: ex) T rfl (Ok.room (Ok.deeper (ok_AL (n := 4) (by decide)))) hn0 (.head _) (.tail _ (.head _)) (.tail _ (.tail _ (.head _))) (Nat.ne_of_lt (by show h2.objs.size < H2.objs.size; rw [hCs]; exact Nat.lt_succ_self _)) (Nat.ne_of_lt lag) (Nat.ne_of_lt (by show ag < H2.objs.size; rw [hCs]; exact Nat.lt_succ_of_lt lag)) nD2 nC2 pr3 rfl rfl ga eD hns3 ?helt ?hR
    case helt =>
      intro i s' m' Q' E' hi hns hm hst k'
      have F' : Fr g H2.objs.size s'.heap m' := ⟨hns, hst, Nat.le_trans gL (Nat.le_of_lt (Nat.lt_trans lL (by rw [hCs]; exact Nat.lt_succ_of_lt lC)))⟩
      have N' : News g H2.objs.size s'.heap [] := fun q hq => nomatch hq
      clear F0 N0 F1 N1 F2
      dsimp only [newEnv]
      (repeat' (first | (k_unfold; (try dsimp only)) | ((first | with_reducible show wpAny _ _ _ _ _ _ | with_reducible show @ite _ _ _ _ _ | with_reducible show And _ _); (first | (with_reducible show wpAny _ _ (eval (Expr.ListComp _ _ _ _) _) _ _ _; (k_here; rw [eval_ListComp]; k_dflt (refine' wpAny_comprehension_free (cl := []) (use := none) ?h1 ?h2 ?h3 ?h4 ?h5 ?_; (case h1 => rfl); (case h2 => intro _; rfl); (case h3 => rfl); (case h4 => rfl); (case h5 => decide)); k_whole; (try dsimp only [firstIter]))) | (with_reducible show wpAny _ _ (call (Value.ref _) _) _ _ _; (k_here; k_dflt (refine' k_prep ?F ?N (by assumption) (by assumption) (by assumption) (by assumption) (by assumption) (Ok.less (Ok.deeper (ok_AL (n := 4) (by decide))) (by decide)) _ _ (by assumption) ?_; (case F => k_asm); (case N => k_asm)); k_whole; intro _ _ _ _ _ _ _ _ _ _ _ _ _ _ _ _ _ _ _ _ _ _ _)) | walk1)) | (dsimp only; (first | with_reducible show wpAny _ _ _ _ _ _ | with_reducible show @ite _ _ _ _ _ | with_reducible show And _ _); (first | (with_reducible show wpAny _ _ (eval (Expr.ListComp _ _ _ _) _) _ _ _; (k_here; rw [eval_ListComp]; k_dflt (refine' wpAny_comprehension_free (cl := []) (use := none) ?h1 ?h2 ?h3 ?h4 ?h5 ?_; (case h1 => rfl); (case h2 => intro _; rfl); (case h3 => rfl); (case h4 => rfl); (case h5 => decide)); k_whole; (try dsimp only [firstIter]))) | (with_reducible show wpAny _ _ (call (Value.ref _) _) _ _ _; (k_here; k_dflt (refine' k_prep ?F ?N (by assumption) (by assumption) (by assumption) (by assumption) (by assumption) (Ok.less (Ok.deeper (ok_AL (n := 4) (by decide))) (by decide)) _ _ (by assumption) ?_; (case F => k_asm); (case N => k_asm)); k_whole; intro _ _ _ _ _ _ _ _ _ _ _ _ _ _ _ _ _ _ _ _ _ _ _)) | walk1))))
      refine wpAny_Name (wpAny_loadName_local rfl rfl hns hm ?_) (by decide)
      obtain ⟨o, dx, od, mm, t, u, e1, hc, hnc, hd1, e2, dI, r1, r2⟩ := hfg i hi
      refine w_get lk_number (hst _ _ e1) hc (func_nc hnc) hd1 (hst _ _ e2) dI r1 rfl ?_
      exact k' _ _
    case hR =>
      intro h' tk' gens' m' ys ns pl hP kd stg go fin
      refine ⟨m', ns, fun h4 hs4 => ?_⟩
      dsimp only
      have neC : ∀ b, b ∈ L :: 16 :: ex → b ≠ h2.objs.size ∧ b ≠ H2.objs.size := fun b hb => by
        have lb : b < hp.objs.size := by
          rcases List.mem_cons.mp hb with q | hb
          · rw [q]; exact lL
          rcases List.mem_cons.mp hb with q | hb
          · rw [q]; exact l16
          · obtain ⟨n, _, o, _, _, eo, _⟩ := hex _ hb
            exact Heap.lt_size eo
        exact ⟨Nat.ne_of_lt (Nat.lt_trans lb lC), by rw [hCs]; exact Nat.ne_of_lt (Nat.lt_succ_of_lt (Nat.lt_trans lb lC))⟩
      have k4 : ∀ b, b ∈ L :: 16 :: ex → ∀ o, hp.get? b = some o → h4.get? b = some o := fun b hb o e => hs4.extBut b o (neC b hb).2 (kd b (.tail _ (.tail _ (.tail _ hb))) (neC b hb).1 (neC b hb).2 o (up3 _ _ (k2 _ _ e)))
      have st4 : g.StaysIn h4 := fun b o e => hs4.extBut b o (fun q => by have z : g.get? b = none := (congrArg g.get? q).trans nC2; rw [z] at e; cases e) (stg b o e)
      refine hret _ h4 _ _ ys (fun b o e n => st4 b o (by rw [hg]; exact hideAll_get [16] e n)) (tbx h4 (fun o e => k4 16 (.tail _ (.head _)) o e) (fun b hb o e => k4 b (.tail _ (.tail _ hb)) o e) st4) (bare_end go fin) (pl.extBut hs4.extBut (Nat.ne_of_lt (by show h2.objs.size < H2.objs.size; rw [hCs]; exact Nat.lt_succ_self _))) (old_new (by rw [← hL]; exact Nat.le_of_lt (Nat.lt_trans lL lC))) hP
end
end Mine
end
theorem Mine.t_resetWK : True := by
  first | (walk1; fail "no") | trivial

section
open PySem PySem.W PyProof.Rows PySem.Spec PySem.Calls PySem.W.X
set_option maxRecDepth 100000
set_option maxHeartbeats 8000000
namespace Mine
theorem t_offWK : True := by
  w_top off
  trivial
noncomputable def walkParts : Arguments × List Stmt × Scope × Pos := by
  refine (fun (x : Arguments × List Stmt × Scope × Pos) (_ : partsD (nthS (bodyD (nthS PySem.Challenge.pw_op0074_01.main.body 33)) 0) = (x.1, x.2.1, x.2.2.1, x.2.2.2)) => x) (?a, ?b, ?c, ?d) ?h
  case h => exact rfl
noncomputable def walkQual : Str := Str.ofString "_law_walker.<locals>._law_walked"
noncomputable def TabWalk (h : Heap) : Prop := h.get? 103 = some (tabObj #[]) ∨ ∃ c, h.get? 103 = some (tabObj #[rawInt 112, rawInt 4, .ref c]) ∧ h.CodeRec (.ref c) walkQual ∧ c ≠ 103
noncomputable abbrev walkFn (c1 c2 : Addr) (doc pm : Value) (c : Addr) (ct : Value) : Obj := fnMade (Str.ofString "_law_walked") walkQual walkParts.1 walkParts.2.1 walkParts.2.2.1 [(Str.ofString "row", c1), (Str.ofString "files", c2)] doc pm c ct
structure WalkAt (h₀ h : Heap) (f l : Addr) (x : Str) (t : Tok) (c1 c2 : Addr) (o1 o2 : Obj) (doc pm ct : Value) (c : Addr) : Prop where
  fn : h.get? f = some (walkFn c1 c2 doc pm c ct)
  code : h.CodeRec (.ref c) walkQual
  g1 : h.get? c1 = some o1
  g2 : h.get? c2 = some o2
  d1 : o1.data = .cell (some (.str x t))
  d2 : o2.data = .cell (some (.ref l))
  n0 : h₀.get? f = none
  n1 : h₀.get? c1 = none
  n2 : h₀.get? c2 = none
noncomputable def RetW (s : Shared) (Q : Value → Shared → Prop) (l : Addr) (x : Str) (t : Tok) : Prop := ∀ f h' tk c1 c2 o1 o2 doc pm ct c, Kp [103] s.heap h' → TabWalk h' → WalkAt s.heap h' f l x t c1 c2 o1 o2 doc pm ct c → Q (.ref f) { s with heap := h', toks := tk }
section
variable {w : World} {p : Program} {loose : List Str} {mean : ExcName → Option Value} {mg mb : Str → Option Value} {H : Heap} {s : Shared} {A : Around} {Q E : Value → Shared → Prop}
theorem c_walker1 (W : Wd w p loose mean mg mb H) (hs : H.StaysIn s.heap) (ok : Ok 2 A) (l : Addr) (x : Str) (t : Tok)
    (hT : s.heap.get? 103 = some (tabObj #[])) (hret : RetW s Q l x t) :
    wpAny (model P0 w) A (call (.ref 108) [.ref l, .str x t]) Q E s := by
  refine wp_weaken ok ?_
  clear ok
  refine wpAny_call ?_
  k_dflt (refine' enterKC (binds := [(Str.ofString "files", .ref l), (Str.ofString "row", .str x t)]) W hs [103] [(103, tabObj #[])] ?hX ?hN (ok_AL (by decide)).room ?ho ?hcd ?hbind ?hkind ?hnd ?_ ?a ?b ?c; (case hX => intro z hz; rw [List.mem_singleton.mp hz]; exact W.n1); (case hN => intro z hz; rw [List.mem_singleton.mp hz]; exact ⟨hT, .head _⟩); (case ho => k_is); (case hcd => k_is); (case hbind => exact BindsTo.of_eq rfl); (case hkind => exact rfl); (case hnd => decide +kernel); (case a => rfl); (case b => rfl); (case c => rfl); k_whole; intro g L h₁ tk₁ cells hg hL F0 N0 Y X T st hk lt16; k_lt lt16; k_cells Y; (try simp only [List.cons_append, List.nil_append, List.append_nil] at N0); (try dsimp only); (try k_fold))
  have C2 : CodeHd g 107 103 := W.c1.keeps st
  (try dsimp only)
  (repeat' (first | (k_unfold; (try dsimp only)) | ((first | with_reducible show wpAny _ _ _ _ _ _ | with_reducible show @ite _ _ _ _ _ | with_reducible show And _ _); walk1) | (dsimp only; (first | with_reducible show wpAny _ _ _ _ _ _ | with_reducible show @ite _ _ _ _ _ | with_reducible show And _ _); walk1)))
  rename Fr _ _ _ _ => F1
  rename News _ _ _ _ => N1
  subst hg
  rename_i hc1 hc2 hl1 hl2 hz
  refine hret _ _ _ _ _ _ _ _ _ _ _ (kp_hide F1) (.inr ⟨_, (N1 (103, _) (by k_mem)).1, codeRec_news N1 (by k_mem) hc1 hc2, Nat.ne_of_gt (by omega)⟩) ⟨(N1 _ (.head _)).1, codeRec_news N1 (by k_mem) hc1 hc2, (N1 (_, _) (by k_mem)).1, (N1 (_, _) (by k_mem)).1, by assumption, by assumption, old_new (by omega), old_new (by omega), old_new (by omega)⟩
theorem c_walker2 (W : Wd w p loose mean mg mb H) (hs : H.StaysIn s.heap) (ok : Ok 2 A) (l : Addr) (x : Str) (t : Tok)
    (cc : Addr) (hT : s.heap.get? 103 = some (tabObj #[rawInt 112, rawInt 4, .ref cc])) (hC : s.heap.CodeRec (.ref cc) walkQual) (hcc : cc ≠ 103) (hret : RetW s Q l x t) :
    wpAny (model P0 w) A (call (.ref 108) [.ref l, .str x t]) Q E s := by
  refine wp_weaken ok ?_
  clear ok
  refine wpAny_call ?_
  k_dflt (refine' enterKC (binds := [(Str.ofString "files", .ref l), (Str.ofString "row", .str x t)]) W hs [103] [(103, tabObj #[rawInt 112, rawInt 4, .ref cc])] ?hX ?hN (ok_AL (by decide)).room ?ho ?hcd ?hbind ?hkind ?hnd ?_ ?a ?b ?c; (case hX => intro z hz; rw [List.mem_singleton.mp hz]; exact W.n1); (case hN => intro z hz; rw [List.mem_singleton.mp hz]; exact ⟨hT, .head _⟩); (case ho => k_is); (case hcd => k_is); (case hbind => exact BindsTo.of_eq rfl); (case hkind => exact rfl); (case hnd => decide +kernel); (case a => rfl); (case b => rfl); (case c => rfl); k_whole; intro g L h₁ tk₁ cells hg hL F0 N0 Y X T st hk lt16; k_lt lt16; k_cells Y; (try simp only [List.cons_append, List.nil_append, List.append_nil] at N0); (try dsimp only); (try k_fold))
  have C2 : CodeHd g 107 103 := W.c1.keeps st
  (try dsimp only)
  (repeat' (first | (k_unfold; (try dsimp only)) | ((first | with_reducible show wpAny _ _ _ _ _ _ | with_reducible show @ite _ _ _ _ _ | with_reducible show And _ _); walk1) | (dsimp only; (first | with_reducible show wpAny _ _ _ _ _ _ | with_reducible show @ite _ _ _ _ _ | with_reducible show And _ _); walk1)))
  rename Fr _ _ _ _ => F1
  rename News _ _ _ _ => N1
  subst hg
  have hC2 := Heap.CodeRec.at hC (fun o e => kp_hide F1 _ _ e (fun q => hcc (List.mem_singleton.mp q)))
  refine hret _ _ _ _ _ _ _ _ _ _ _ (kp_hide F1) (.inr ⟨_, (N1 (103, _) (by k_mem)).1, hC2, hcc⟩) ⟨(N1 _ (.head _)).1, hC2, (N1 (_, _) (by k_mem)).1, (N1 (_, _) (by k_mem)).1, by assumption, by assumption, old_new (by omega), old_new (by omega), old_new (by omega)⟩
theorem c_walker (W : Wd w p loose mean mg mb H) (hs : H.StaysIn s.heap) (ok : Ok 2 A) (l : Addr) (x : Str) (t : Tok) (hT : TabWalk s.heap) (hret : RetW s Q l x t) :
    wpAny (model P0 w) A (call (.ref 108) [.ref l, .str x t]) Q E s := by
  rcases hT with hT | ⟨c, hT, hC, hcc⟩
  · exact c_walker1 W hs ok l x t hT hret
  · exact c_walker2 W hs ok l x t c hT hC hcc hret
end
end Mine
end
theorem Mine.t_resetWD : True := by
  first | (walk1; fail "no") | trivial

section
open PySem PySem.W PyProof.Rows PySem.Spec PySem.Calls PySem.W.X
set_option maxRecDepth 100000
set_option maxHeartbeats 8000000
namespace Mine
theorem t_offWD : True := by
  w_top off
  trivial
section
variable {w : World} {p : Program} {loose : List Str} {mean : ExcName → Option Value} {mg mb : Str → Option Value} {H : Heap} {s : Shared} {A : Around} {Q E : Value → Shared → Prop}
theorem item_row (m : Int) (k : Nat) (h : k < 9) : Txt.item (rowS m) (k : Int) = fmc m (k + 1) := by
  have e := row_get m k h
  rw [fmc_eq]
  have hl : (rowS m).length = 9 := row_size m
  have hq : seqIndex? (k : Int) (rowS m).length = some k := by
    rw [hl]
    unfold seqIndex?
    simp
    omega
  unfold Txt.item Txt.charAt
  rw [hq]
  show (⟨#[((rowS m).cps[k]?).getD 0]⟩ : Str) = _
  rw [e]
  rfl
theorem k_wish {g : Heap} {L : Addr} {m : Str → Option Value} {news : List (Addr × Obj)} {v : Str} (F : Fr g L s.heap m) (N : News g L s.heap news) (W : Wd w p loose mean mg mb H) (st : H.StaysIn g) (ok : Ok 1 A) (y : Str) (k : Nat) (t u : Tok) (e : v = y) (hk : k < 9) (hy : y ∈ may k)
    (kk : ∀ lw n items h' tk, Fr g L h' m → News g L h' ((lw, PySem.W.listOf items n) :: news) → StrsAre items.toList (wish y k) → (∀ q ∈ news, q.1 ≠ lw) → Q (.ref lw) { s with heap := h', toks := tk }) : wpAny (model P0 w) A (call (.ref 101) [.str v t, .int (k : Int) u]) Q E s := by
  subst e
  exact c_wishes W (fun b o e => F.keep b o (st b o e)) ok v k t u hk hy fun lw n items h' tk kp nl el ss => kk lw n items h' tk (fr_keep F kp) (news_new F nl el (news_keep N kp)) ss (fun q hq => news_lt N hq nl)
theorem k_wr {g : Heap} {L : Addr} {m : Str → Option Value} {news : List (Addr × Obj)} (F : Fr g L s.heap m) (N : News g L s.heap news) (W : Wd w p loose mean mg mb H) (st : H.StaysIn g) (ok : Ok 1 A) (x : Str) (t : Tok) (hx : x ∈ signs)
    (k : ∀ u h' tk, Fr g L h' m → News g L h' news → Q (.str (wr x) u) { s with heap := h', toks := tk }) : wpAny (model P0 w) A (call (.ref 84) [.str x t]) Q E s :=
  c_written W (fun b o e => F.keep b o (st b o e)) ok x t hx fun u h' tk kp => k u h' tk (fr_keep F kp) (news_keep N kp)
theorem may_fmc (m : Int) (k : Nat) (h : k < 9) : fmc m (k + 1) ∈ may k := by
  have all : ∀ k, k < 9 → Str.ofString "-" ∈ may k ∧ ∀ y ∈ (fmTabs.getD (k + 1) []).map (·.2), y ∈ may k := by decide +kernel
  unfold fmc
  rw [if_neg (Nat.succ_ne_zero k)]
  rcases pick_mm (fun b => Builtin.bitAnd m b == b) (Str.ofString "-") (fmTabs.getD (k + 1) []) with e | e
  · rw [e]; exact (all k h).1
  · exact (all k h).2 _ e
theorem ints_of : ∀ {vs : List Value} {ns : List Int}, Paired IsI vs ns → IntsAre vs ns
  | _, _, .nil => .nil
  | _, _, .cons ⟨t, e⟩ r => by subst e; exact .cons _ t (ints_of r)
noncomputable def TabOk (g : Heap) (c1 : Addr) (ps : Array Value) (cc : Addr) (occ : Obj) : Prop := (∀ h' : Heap, h'.get? 16 = some (tabObj ps) → h'.get? cc = some occ → g.StaysIn h' → TabSel h') ∧ (cc = c1 ∨ ∃ vs t, occ.data = .fields vs ∧ vs[1]? = some (.str selQual t))
theorem TabSel.now {g h : Heap} {L c1 : Addr} {o1 : Obj} {m : Str → Option Value} (x : TabSel h) (F : Fr g L h m) (e1 : h.get? c1 = some o1) (n1 : c1 ≠ L ∧ g.get? c1 = none) : ∃ ps cc occ, h.get? 16 = some (tabObj ps) ∧ h.get? cc = some occ ∧ (cc ≠ L ∧ g.get? cc = none) ∧ TabOk g c1 ps cc occ := by
  rcases x with e | ⟨c, e, cr, n⟩
  · exact ⟨#[], c1, o1, e, e1, n1, fun h' k _ _ => .inl k, .inl rfl⟩
  · obtain ⟨c', oc, vs, t, q1, e2, d, r⟩ := id cr
    cases q1
    cases q : g.get? c with
    | none =>
      refine ⟨_, c, oc, e, e2, ⟨fun z => ?_, q⟩, fun h' k k2 _ => .inr ⟨c, k, ⟨c, oc, vs, t, rfl, k2, d, r⟩, n⟩, .inr ⟨vs, t, d, r⟩⟩
      obtain ⟨oL, es, ep, eL, dL, _⟩ := F.ns
      rw [z, eL] at e2
      cases e2
      rw [d] at dL
      cases dL
    | some o =>
      refine ⟨_, c1, o1, e, e1, n1, fun h' k _ k3 => .inr ⟨c, k, cr.at fun o' z => ?_, n⟩, .inl rfl⟩
      rw [F.keep c o q] at z
      cases z
      exact k3 c o q
/-- the files, as _law_found asks for them -/
structure Files (h : Heap) (l : Addr) (items : Array Value) (fa : Nat → Addr) (num : Nat → Int) (tg : Nat → Str) (n₀ : Nat) : Prop where
  hl : h.IsList l items
  hn0 : n₀ ≤ 1000
  hsz : items.size = n₀
  hat : ∀ i, i < n₀ → items[i]? = some (.ref (fa i))
  hfl : ∀ i, i < n₀ → FileAt h (fa i) (num i) (tg i)
  htl : ∀ i, i < n₀ → (tg i).length ≤ 1000
theorem Files.keeps {h h' : Heap} {l : Addr} {items : Array Value} {fa : Nat → Addr} {num : Nat → Int} {tg : Nat → Str} {n₀ : Nat} (x : Files h l items fa num tg n₀) (k : ∀ b o, h.get? b = some o → h'.get? b = some o) : Files h' l items fa num tg n₀ :=
  ⟨x.hl.at fun o e => k _ _ e, x.hn0, x.hsz, x.hat, fun i hi => (x.hfl i hi).keeps k, x.htl⟩
noncomputable def NotF (o : Obj) : Prop := (∀ fd, o.data ≠ .func fd) ∧ (∀ es ep, o.data ≠ .dict es ep) ∧ (∀ xs n, o.data ≠ .seq xs n)
theorem Files.kp {h h' : Heap} {X : List Addr} {l : Addr} {items : Array Value} {fa : Nat → Addr} {num : Nat → Int} {tg : Nat → Str} {n₀ : Nat} (x : Files h l items fa num tg n₀) (k : Kp X h h') (hX : ∀ y ∈ X, ∀ o, h.get? y = some o → NotF o) : Files h' l items fa num tg n₀ := by
  refine ⟨?_, x.hn0, x.hsz, x.hat, fun i hi => ?_, x.htl⟩
  · obtain ⟨o, e, c, n, d⟩ := x.hl
    exact ⟨o, k _ _ e (fun q => (hX _ q _ e).2.2 _ _ d), c, n, d⟩
  · obtain ⟨o, dx, od, m, t, u, e1, c, nc, d, e2, dI, r⟩ := x.hfl i hi
    obtain ⟨fd, ef⟩ := nc
    refine ⟨o, dx, od, m, t, u, k _ _ e1 (fun q => (hX _ q _ e1).1 _ ef), c, ⟨fd, ef⟩, d, k _ _ e2 (fun q => ?_), dI, r⟩
    obtain ⟨es, ep, e3, _⟩ := dI
    exact (hX _ q _ e2).2.1 _ _ e3
theorem notF_tab (ps : Array Value) : NotF (tabObj ps) := ⟨fun _ q => (by cases q), fun _ _ q => (by cases q), fun _ _ q => (by cases q)⟩
theorem notF_cell {o : Obj} {v : Option Value} (e : o.data = .cell v) : NotF o := ⟨fun _ q => (by rw [e] at q; cases q), fun _ _ q => (by rw [e] at q; cases q), fun _ _ q => (by rw [e] at q; cases q)⟩
theorem k_found {g : Heap} {L l : Addr} {m : Str → Option Value} {ps : Array Value} {cc c1 : Addr} {occ o1 : Obj} {rest : List (Addr × Obj)} {items : Array Value} {fa : Nat → Addr} {num : Nat → Int} {tg : Nat → Str} {n₀ : Nat} (F : Fr g L s.heap m) (N : News g L s.heap ((16, tabObj ps) :: (cc, occ) :: (c1, o1) :: rest)) (tb : TabOk g c1 ps cc occ) (FL : Files g l items fa num tg n₀)
    (ne : ∀ q ∈ rest, q.1 ≠ 16) (ne1 : c1 ≠ 16) (W : Wd w p loose mean mg mb H) (st : H.StaysIn g) (ok : Ok 4 A) (x : Str) (t : Tok) (hx : HeadOk x)
    (k : ∀ D n vs h' tk gens' ps' cc' occ', Fr g L h' m → News g L h' ((D, PySem.W.listOf vs.toArray n) :: (16, tabObj ps') :: (cc', occ') :: (c1, o1) :: rest) → TabOk g c1 ps' cc' occ' → (AllBare s.gens → AllBare gens') → IntsAre vs ((passing (pzOf tg x) n₀ 0).map num) → Q (.ref D) { s with heap := h', toks := tk, gens := gens' }) : wpAny (model P0 w) A (call (.ref 94) [.ref l, .str x t]) Q E s := by
  have FL' := FL.keeps F.keep
  refine c_found W (fun b o e => F.keep b o (st b o e)) ok l items x t hx (tb.1 _ (N _ (.head _)).1 (N _ (.tail _ (.head _))).1 F.keep) FL'.hl FL'.hn0 FL'.hsz FL'.hat FL'.hfl FL'.htl ?_
  intro D h' tk gens' ys kp tb' bare pl nD hP
  obtain ⟨n, eD⟩ := pl
  have F' := fr_kp F kp (fun z hz => by rw [List.mem_singleton.mp hz]; exact ⟨(N _ (.head _)).2.2, (N _ (.head _)).2.1⟩)
  have z1 := N _ (.tail _ (.tail _ (.head _)))
  have e1 : h'.get? c1 = some o1 := kp _ _ z1.1 (fun q => ne1 (List.mem_singleton.mp q))
  obtain ⟨ps', cc', occ', q1, q2, q3, q4⟩ := tb'.now F' e1 z1.2
  refine k D n ys.toList h' tk gens' ps' cc' occ' F' (fun q hq => ?_) q4 bare (ints_of hP)
  rcases List.mem_cons.mp hq with rfl | hq
  · exact ⟨eD, fr_ne F nD⟩
  rcases List.mem_cons.mp hq with rfl | hq
  · exact ⟨q1, (N _ (.head _)).2⟩
  rcases List.mem_cons.mp hq with rfl | hq
  · exact ⟨q2, q3⟩
  rcases List.mem_cons.mp hq with rfl | hq
  · exact ⟨e1, z1.2⟩
  · have z := N q (.tail _ (.tail _ (.tail _ hq)))
    exact ⟨kp _ _ z.1 (fun r => ne q hq (List.mem_singleton.mp r)), z.2⟩
noncomputable def fndB (tg : Nat → Str) (n₀ : Nat) (x : Str) : Bool := !(passing (pzOf tg x) n₀ 0).isEmpty
noncomputable def walkedS (tg : Nat → Str) (n₀ : Nat) (m : Int) (hd : Str) (k : Nat) : Str :=
  match (wish (fmc m (k + 1)) k).find? (fun sg => fndB tg n₀ (hd ++ wr sg)) with
  | some sg => hd ++ wr sg
  | none => hd
structure HeadIn (x : Str) (n : Nat) : Prop where
  ln : x.length ≤ 3 * n
  st : cp x = [] ∨ ∃ r, cp x = 45 :: r
theorem wr_cp : ∀ x ∈ signs, (∃ r, cp (wr x) = 45 :: r) ∧ (∃ r, cp (wr x) = r ++ [125]) := by
  intro x hx
  simp only [signs, List.mem_cons, List.not_mem_nil, or_false] at hx
  rcases hx with rfl | rfl | rfl | rfl | rfl | rfl | rfl | rfl
  · exact ⟨⟨[125], by decide +kernel⟩, ⟨[45], by decide +kernel⟩⟩
  · exact ⟨⟨[114, 125], by decide +kernel⟩, ⟨[45, 114], by decide +kernel⟩⟩
  · exact ⟨⟨[119, 125], by decide +kernel⟩, ⟨[45, 119], by decide +kernel⟩⟩
  · exact ⟨⟨[120, 125], by decide +kernel⟩, ⟨[45, 120], by decide +kernel⟩⟩
  · exact ⟨⟨[115, 125], by decide +kernel⟩, ⟨[45, 115], by decide +kernel⟩⟩
  · exact ⟨⟨[83, 125], by decide +kernel⟩, ⟨[45, 83], by decide +kernel⟩⟩
  · exact ⟨⟨[116, 125], by decide +kernel⟩, ⟨[45, 116], by decide +kernel⟩⟩
  · exact ⟨⟨[84, 125], by decide +kernel⟩, ⟨[45, 84], by decide +kernel⟩⟩
theorem HeadIn.add {x y : Str} {n : Nat} (h : HeadIn x n) (hy : y ∈ signs) : HeadIn (x ++ wr y) (n + 1) := by
  obtain ⟨⟨r, er⟩, _⟩ := wr_cp y hy
  refine ⟨?_, .inr ?_⟩
  · have := wr_len hy
    have l := h.ln
    rw [← cp_len, cp_app, List.length_append, cp_len, cp_len]
    omega
  · rw [cp_app]
    rcases h.st with e | ⟨q, e⟩
    · rw [e, er]; exact ⟨r, rfl⟩
    · rw [e]; exact ⟨q ++ cp (wr y), rfl⟩
theorem HeadIn.ok {x y : Str} {n : Nat} (h : HeadIn x n) (hn : n ≤ 200) (hy : y ∈ signs) : HeadOk (x ++ wr y) := by
  have z := h.add hy
  obtain ⟨_, ⟨r, er⟩⟩ := wr_cp y hy
  refine ⟨?_, ⟨cp x ++ r, by rw [cp_app, er, List.append_assoc]⟩, by have := z.ln; omega⟩
  rcases z.st with e | e
  · rw [cp_app, er] at e; simp at e
  · exact e
theorem wish_signs : ∀ k, k < 9 → ∀ y ∈ may k, ∀ sg ∈ wish y k, sg ∈ signs := by decide +kernel
noncomputable def RetWd (s : Shared) (Q : Value → Shared → Prop) (y : Str) : Prop := ∀ u h' tk gens', Kp [16] s.heap h' → TabSel h' → (AllBare s.gens → AllBare gens') → Q (.str y u) { s with heap := h', toks := tk, gens := gens' }
noncomputable def wdM (hd kk sg : Option Value) : Str → Option Value := fun y => if y = Str.ofString "sign" then sg else if y = Str.ofString "k" then kk else if y = Str.ofString "head" then hd else none
theorem wd_map {hd kk sg sg' : Option Value} : ∀ y, (if y = Str.ofString "sign" then sg' else wdM hd kk sg y) = wdM hd kk sg' y := fun y => by
  by_cases h : y = Str.ofString "sign"
  · subst h; rfl
  · simp only [wdM, if_neg h]
theorem wd_map0 {hd kk : Value} : ∀ y, List.lookup y (List.reverse [(Str.ofString "head", hd), (Str.ofString "k", kk)]) = wdM (some hd) (some kk) none y := fun y => by
  rw [look2]
  by_cases h : y = Str.ofString "sign"
  · subst h; rfl
  · simp only [wdM, if_neg h]
theorem find_none_of {α : Type} {q : α → Bool} {l : List α} (h : ∀ j, j < l.length → ∀ a, l[j]? = some a → q a = false) : l.find? q = none := by
  rw [List.find?_eq_none]
  intro a ha
  obtain ⟨j, hj⟩ := List.mem_iff_getElem?.mp ha
  have hl : j < l.length := (List.getElem?_eq_some_iff.mp hj).1
  rw [h j hl a hj]; simp
theorem find_some_of {α : Type} {q : α → Bool} : ∀ {l : List α} {i : Nat} {a : α}, l[i]? = some a → q a = true → (∀ j, j < i → ∀ b, l[j]? = some b → q b = false) → l.find? q = some a
  | [], i, a, h, _, _ => by simp at h
  | b :: r, 0, a, h, hq, _ => by simp at h; subst h; simp [hq]
  | b :: r, i + 1, a, h, hq, hn => by
    have hb := hn 0 (Nat.succ_pos _) b rfl
    rw [List.find?_cons, hb]
    exact find_some_of (l := r) (i := i) (by simpa using h) hq (fun j hj c hc => hn (j + 1) (Nat.succ_lt_succ hj) c (by simpa using hc))
theorem c_walked (W : Wd w p loose mean mg mb H) (hs : H.StaysIn s.heap) (ok : Ok 6 A) (f l c1 c2 c : Addr) (o1 o2 : Obj) (doc pm ct : Value) (x : Str) (m : Int) (t t1 t2 : Tok) (k : Nat) (hk9 : k < 9) (ps : Array Value)
    (fn : s.heap.get? f = some (walkFn c1 c2 doc pm c ct)) (code : s.heap.CodeRec (.ref c) walkQual) (g1 : s.heap.get? c1 = some o1) (g2 : s.heap.get? c2 = some o2) (d1 : o1.data = .cell (some (.str (rowS m) t1))) (d2 : o2.data = .cell (some (.ref l)))
    (n1 : H.get? c1 = none) (n2 : H.get? c2 = none) (h16 : s.heap.get? 16 = some (tabObj ps)) (hT : TabSel s.heap) (hx : HeadIn x k) {items : Array Value} {fa : Nat → Addr} {num : Nat → Int} {tg : Nat → Str} {n₀ : Nat} (FL : Files s.heap l items fa num tg n₀) (hret : RetWd s Q (walkedS tg n₀ m x k)) :
    wpAny (model P0 w) A (call (.ref f) [.str x t, .int k t2]) Q E s := by
  refine wp_weaken ok ?_
  clear ok
  refine wpAny_call ?_
  dsimp only [walkFn, walkParts] at fn
  k_dflt (refine' enterX (binds := [(Str.ofString "head", .str x t), (Str.ofString "k", .int k t2)]) W hs [16, c1, c2] [(16, tabObj ps), (c1, o1), (c2, o2)] ?hX ?hN (ok_AL (by decide)).room fn rfl code ?hbind ?hloc ?_ ?hcell ?a ?b ?c; (case hX => intro z hz; simp only [List.mem_cons, List.not_mem_nil, or_false] at hz; (rcases hz with rfl | rfl | rfl; exact W.n2; exact n1; exact n2)); (case hN => intro z hz; simp only [List.mem_cons, List.not_mem_nil, or_false] at hz; (rcases hz with rfl | rfl | rfl; exact ⟨h16, by simp⟩; exact ⟨g1, by simp⟩; exact ⟨g2, by simp⟩)); (case hbind => exact BindsTo.of_eq rfl); (case hloc => exact locs rfl); (case hcell => decide); (case a => rfl); (case b => rfl); (case c => rfl); k_whole; intro g L h₁ hg hL F0 N0 X T st hk; (try dsimp only); (try k_fold))
  have C2 : CodeHd g 20 16 := W.c2.keeps st
  have lrow : (rowS m).length = 9 := row_size m
  (try dsimp only)
  ((first | (k_unfold; (try dsimp only)) | (first | (k_here; (with_reducible show wpAny _ _ (call (Value.ref 94) _) _ _ _); k_dflt (refine' k_found ?F ?N (by assumption) (by assumption) (by assumption) (by assumption) (by assumption) (by assumption) (Ok.less (Ok.deeper (ok_AL (n := 6) (by decide))) (by decide)) _ _ (by assumption) ?_; (case F => k_asm); (case N => k_asm)); k_whole; intro _ _ _ _ _ _ _ _ _ _ _ _ _ _) | (k_here; (with_reducible show wpAny _ _ (call (Value.ref 84) _) _ _ _); k_dflt (refine' k_wr ?F ?N (by assumption) (by assumption) (Ok.less (Ok.deeper (ok_AL (n := 6) (by decide))) (by decide)) _ _ (by assumption) ?_; (case F => k_asm); (case N => k_asm)); k_whole; intro _ _ _ _ _) | (k_here; (with_reducible show wpAny _ _ (call (Value.ref 101) _) _ _ _); k_dflt (refine' k_wish ?F ?N (by assumption) (by assumption) (Ok.less (Ok.deeper (ok_AL (n := 6) (by decide))) (by decide)) _ _ _ _ (item_row _ _ (by assumption)) (by assumption) (may_fmc _ _ (by assumption)) ?_; (case F => k_asm); (case N => k_asm)); k_whole; intro _ _ _ _ _ _ _ _ _) | walk1) | (dsimp only; (first | (k_here; (with_reducible show wpAny _ _ (call (Value.ref 94) _) _ _ _); k_dflt (refine' k_found ?F ?N (by assumption) (by assumption) (by assumption) (by assumption) (by assumption) (by assumption) (Ok.less (Ok.deeper (ok_AL (n := 6) (by decide))) (by decide)) _ _ (by assumption) ?_; (case F => k_asm); (case N => k_asm)); k_whole; intro _ _ _ _ _ _ _ _ _ _ _ _ _ _) | (k_here; (with_reducible show wpAny _ _ (call (Value.ref 84) _) _ _ _); k_dflt (refine' k_wr ?F ?N (by assumption) (by assumption) (Ok.less (Ok.deeper (ok_AL (n := 6) (by decide))) (by decide)) _ _ (by assumption) ?_; (case F => k_asm); (case N => k_asm)); k_whole; intro _ _ _ _ _) | (k_here; (with_reducible show wpAny _ _ (call (Value.ref 101) _) _ _ _); k_dflt (refine' k_wish ?F ?N (by assumption) (by assumption) (Ok.less (Ok.deeper (ok_AL (n := 6) (by decide))) (by decide)) _ _ _ _ (item_row _ _ (by assumption)) (by assumption) (may_fmc _ _ (by assumption)) ?_; (case F => k_asm); (case N => k_asm)); k_whole; intro _ _ _ _ _ _ _ _ _) | walk1))))
  refine wpAny_For ?_ ?hs1
  case hs1 => intro _; rfl
  (repeat' (first | (k_unfold; (try dsimp only)) | ((first | with_reducible show wpAny _ _ _ _ _ _ | with_reducible show @ite _ _ _ _ _ | with_reducible show And _ _); (first | (k_here; (with_reducible show wpAny _ _ (call (Value.ref 94) _) _ _ _); k_dflt (refine' k_found ?F ?N (by assumption) (by assumption) (by assumption) (by assumption) (by assumption) (by assumption) (Ok.less (Ok.deeper (ok_AL (n := 6) (by decide))) (by decide)) _ _ (by assumption) ?_; (case F => k_asm); (case N => k_asm)); k_whole; intro _ _ _ _ _ _ _ _ _ _ _ _ _ _) | (k_here; (with_reducible show wpAny _ _ (call (Value.ref 84) _) _ _ _); k_dflt (refine' k_wr ?F ?N (by assumption) (by assumption) (Ok.less (Ok.deeper (ok_AL (n := 6) (by decide))) (by decide)) _ _ (by assumption) ?_; (case F => k_asm); (case N => k_asm)); k_whole; intro _ _ _ _ _) | (k_here; (with_reducible show wpAny _ _ (call (Value.ref 101) _) _ _ _); k_dflt (refine' k_wish ?F ?N (by assumption) (by assumption) (Ok.less (Ok.deeper (ok_AL (n := 6) (by decide))) (by decide)) _ _ _ _ (item_row _ _ (by assumption)) (by assumption) (may_fmc _ _ (by assumption)) ?_; (case F => k_asm); (case N => k_asm)); k_whole; intro _ _ _ _ _ _ _ _ _) | walk1)) | (dsimp only; (first | with_reducible show wpAny _ _ _ _ _ _ | with_reducible show @ite _ _ _ _ _ | with_reducible show And _ _); (first | (k_here; (with_reducible show wpAny _ _ (call (Value.ref 94) _) _ _ _); k_dflt (refine' k_found ?F ?N (by assumption) (by assumption) (by assumption) (by assumption) (by assumption) (by assumption) (Ok.less (Ok.deeper (ok_AL (n := 6) (by decide))) (by decide)) _ _ (by assumption) ?_; (case F => k_asm); (case N => k_asm)); k_whole; intro _ _ _ _ _ _ _ _ _ _ _ _ _ _) | (k_here; (with_reducible show wpAny _ _ (call (Value.ref 84) _) _ _ _); k_dflt (refine' k_wr ?F ?N (by assumption) (by assumption) (Ok.less (Ok.deeper (ok_AL (n := 6) (by decide))) (by decide)) _ _ (by assumption) ?_; (case F => k_asm); (case N => k_asm)); k_whole; intro _ _ _ _ _) | (k_here; (with_reducible show wpAny _ _ (call (Value.ref 101) _) _ _ _); k_dflt (refine' k_wish ?F ?N (by assumption) (by assumption) (Ok.less (Ok.deeper (ok_AL (n := 6) (by decide))) (by decide)) _ _ _ _ (item_row _ _ (by assumption)) (by assumption) (may_fmc _ _ (by assumption)) ?_; (case F => k_asm); (case N => k_asm)); k_whole; intro _ _ _ _ _ _ _ _ _) | walk1))))
  rename_i lw nn its h2 tk2 F1 N1 ss ne1
  dsimp only
  refine wpAny_pyIter_list (N1.isList (.head _)) ?_
  dsimp only
  have hN1 := N1
  have FLg : Files g l items fa num tg n₀ := FL.kp (X := [16, c1, c2]) (fun b o e n => by rw [hg]; exact hideAll_get _ e n) (by
    intro y hy o e
    simp only [List.mem_cons, List.not_mem_nil, or_false] at hy
    rcases hy with rfl | rfl | rfl
    · rw [h16] at e; cases e; exact notF_tab _
    · rw [g1] at e; cases e; exact notF_cell d1
    · rw [g2] at e; cases e; exact notF_cell d2)
  have n1' : c1 ≠ 16 := fun q => by rw [q, h16] at g1; cases g1; cases d1
  have n2' : c2 ≠ 16 := fun q => by rw [q, h16] at g2; cases g2; cases d2
  have kp16 : ∀ h' m', Fr g L h' m' → h'.get? c1 = some o1 → h'.get? c2 = some o2 → Kp [16] s.heap h' := fun h' m' F' e1 e2 b o e n => by
    by_cases q1 : b = c1
    · subst q1; rw [g1] at e; cases e; exact e1
    by_cases q2 : b = c2
    · subst q2; rw [g2] at e; cases e; exact e2
    refine F'.keep b o ?_
    rw [hg]
    refine hideAll_get _ e (fun q => ?_)
    simp only [List.mem_cons, List.not_mem_nil, or_false] at q
    rcases q with q | q | q
    · exact n (by rw [q]; exact .head _)
    · exact q1 q
    · exact q2 q
  have z16 := N1 (16, tabObj ps) (by k_mem)
  have zc1 := N1 (c1, o1) (by k_mem)
  have zc2 := N1 (c2, o2) (by k_mem)
  have zlw := N1 (lw, PySem.W.listOf its nn) (by k_mem)
  have l16 : 16 < h2.objs.size := Heap.lt_size z16.1
  have lc1 : c1 < h2.objs.size := Heap.lt_size zc1.1
  have lc2 : c2 < h2.objs.size := Heap.lt_size zc2.1
  have llw : lw < h2.objs.size := Heap.lt_size zlw.1
  have nlw : lw ≠ 16 := fun q => ne1 (16, tabObj ps) (.head _) q.symm
  have nit : h2.objs.size ≠ 16 := Nat.ne_of_gt l16
  have ss' := ss
  generalize hws : wish (fmc m (k + 1)) k = ws at ss
  have hsg : ∀ sg ∈ ws, sg ∈ signs := by rw [← hws]; exact wish_signs k hk9 _ (may_fmc m k hk9)
  have hlen : its.toList.length = ws.length := ss.len_eq
  refine hideR fun R1 hR1 => ?_
  refine hideI (fun n s' => ∃ i h' tk gens' ps cc occ oi sg, s' = { s with heap := h', toks := tk, gens := gens' } ∧ i ≤ ws.length ∧ n = ws.length + 1 - i ∧ Fr g L h' (wdM (some (.str x t)) (some (.int k t2)) sg) ∧
    News g L h' [(16, tabObj ps), (cc, occ), (c1, o1), (c2, o2), (lw, PySem.W.listOf its nn), (h2.objs.size, oi)] ∧ LitIs oi lw i ∧ TabOk g c1 ps cc occ ∧ (AllBare s.gens → AllBare gens') ∧ (∀ j, j < i → ∀ a, ws[j]? = some a → fndB tg n₀ (x ++ wr a) = false)) fun I1 hI1 => ?_
  refine codeAny_forLoop I1 ?turn (ws.length + 1) ?init (by intro _; rfl)
  case init =>
    refine (hI1 _ _).2 ?_
    obtain ⟨ps0, cc0, occ0, q1, q2, q3, q4⟩ := (hT.move h16 z16.1 (kp16 _ _ F1 zc1.1 zc2.1)).now F1 zc1.1 zc1.2
    refine ⟨0, _, _, _, ps0, cc0, occ0, { cls := .type "list_iterator", data := .fields #[.ref lw, .int 0 0] }, none, rfl, Nat.zero_le _, rfl, fr_map (fr_push F1 _) wd_map0, fun q hq => ?_, fun h' it' e' => ⟨_, e', rfl, rfl⟩, q4, fun z => z, fun j hj => absurd hj (Nat.not_lt_zero _)⟩
    simp only [List.mem_cons, List.not_mem_nil, or_false] at hq
    rcases hq with rfl | rfl | rfl | rfl | rfl | rfl
    · exact ⟨Heap.get?_push_of_some _ q1, z16.2⟩
    · exact ⟨Heap.get?_push_of_some _ q2, q3⟩
    · exact ⟨Heap.get?_push_of_some _ zc1.1, zc1.2⟩
    · exact ⟨Heap.get?_push_of_some _ zc2.1, zc2.2⟩
    · exact ⟨Heap.get?_push_of_some _ zlw.1, zlw.2⟩
    · exact ⟨Heap.get?_push_size _ rfl, fr_ne F1 (Heap.get?_none_of_le (Nat.le_refl _))⟩
  intro n s' hI
  replace hI := (hI1 n s').1 hI
  obtain ⟨i, h3, tk3, gens3, ps3, cc, occ, oi, sg0, rfl, hi, rfl, F3, N3, lit, tb, bare, hno⟩ := hI
  have hit := lit _ _ (N3 (h2.objs.size, oi) (by k_mem)).1
  have hl3 := N3.isList (show (lw, PySem.W.listOf its nn) ∈ _ by k_mem)
  by_cases hlt : i < ws.length
  · obtain ⟨sg, hsgi⟩ : ∃ sg, ws[i]? = some sg := ⟨_, List.getElem?_eq_getElem hlt⟩
    obtain ⟨u4, hv⟩ := ss.at hsgi
    refine wpAny_pyNext_list_item hit hl3 (x := .str sg u4) (by simpa using hv) fun h4 hit4 hs4 => ?_
    dsimp only at hit4 hs4 ⊢
    obtain ⟨oi4, e4, lit4⟩ := lit_of hit4
    have ncc : cc ≠ h2.objs.size := fun q => by
      rcases tb.2 with e | ⟨vs, t', dv, e⟩
      · exact Nat.ne_of_lt lc1 (e ▸ q)
      · have z := (N3 (cc, occ) (by k_mem)).1
        obtain ⟨o5, z5, _, d5⟩ := hit
        rw [q] at z
        rw [z] at z5
        cases z5
        rw [dv] at d5
        cases d5
        cases e
    have F4 := fr_turn F3 (N3 (h2.objs.size, oi) (by k_mem)).2 (fun b x n e => hs4.extBut b x n e)
    have N4 : News g L h4 [(16, tabObj ps3), (cc, occ), (c1, o1), (c2, o2), (lw, PySem.W.listOf its nn), (h2.objs.size, oi4)] := news_it (P := [(16, tabObj ps3), (cc, occ), (c1, o1), (c2, o2), (lw, PySem.W.listOf its nn)]) (r := []) N3 (fun b x n e => hs4.extBut b x n e) e4 (by
        intro q hq
        simp only [List.mem_cons, List.not_mem_nil, or_false] at hq
        rcases hq with rfl | rfl | rfl | rfl | rfl
        · exact nit.symm
        · exact ncc
        · exact Nat.ne_of_lt lc1
        · exact Nat.ne_of_lt lc2
        · exact Nat.ne_of_lt llw) (fun q hq => nomatch hq)
    refine wpAny_assign_Name (wpAny_storeName_local rfl F4.ns (fun h5 hn5 hs5 => ?_) rfl)
    have F5 : Fr g L h5 (wdM (some (.str x t)) (some (.int k t2)) (some (.str sg u4))) := fr_map (fr_store F4 hn5 hs5) wd_map
    have N5 := news_store N4 hs5
    have hsg1 : sg ∈ signs := hsg sg (List.mem_of_getElem? hsgi)
    have hHd : HeadOk (x ++ wr sg) := hx.ok (by omega) hsg1
    have hlx : x.length ≤ 27 := by have := hx.ln; omega
    have hlw : (wr sg).length ≤ 3 := wr_len hsg1
    have nrest : ∀ q ∈ [(c2, o2), (lw, PySem.W.listOf its nn), (h2.objs.size, oi4)], q.1 ≠ 16 := by
      intro q hq
      simp only [List.mem_cons, List.not_mem_nil, or_false] at hq
      rcases hq with rfl | rfl | rfl
      · exact n2'
      · exact nlw
      · exact nit
    clear F0 N0 F1 N1 hN1 F3 N3 F4 N4 hn5 hs5 hs4 hit hit4 e4 hl3 z16 zc1 zc2 zlw
    (try dsimp only)
    (repeat' (first | (k_unfold; (try dsimp only)) | ((first | with_reducible show wpAny _ _ _ _ _ _ | with_reducible show @ite _ _ _ _ _ | with_reducible show And _ _); (first | (k_here; (with_reducible show wpAny _ _ (call (Value.ref 94) _) _ _ _); k_dflt (refine' k_found ?F ?N (by assumption) (by assumption) (by assumption) (by assumption) (by assumption) (by assumption) (Ok.less (Ok.deeper (ok_AL (n := 6) (by decide))) (by decide)) _ _ (by assumption) ?_; (case F => k_asm); (case N => k_asm)); k_whole; intro _ _ _ _ _ _ _ _ _ _ _ _ _ _) | (k_here; (with_reducible show wpAny _ _ (call (Value.ref 84) _) _ _ _); k_dflt (refine' k_wr ?F ?N (by assumption) (by assumption) (Ok.less (Ok.deeper (ok_AL (n := 6) (by decide))) (by decide)) _ _ (by assumption) ?_; (case F => k_asm); (case N => k_asm)); k_whole; intro _ _ _ _ _) | (k_here; (with_reducible show wpAny _ _ (call (Value.ref 101) _) _ _ _); k_dflt (refine' k_wish ?F ?N (by assumption) (by assumption) (Ok.less (Ok.deeper (ok_AL (n := 6) (by decide))) (by decide)) _ _ _ _ (item_row _ _ (by assumption)) (by assumption) (may_fmc _ _ (by assumption)) ?_; (case F => k_asm); (case N => k_asm)); k_whole; intro _ _ _ _ _ _ _ _ _) | walk1)) | (dsimp only; (first | with_reducible show wpAny _ _ _ _ _ _ | with_reducible show @ite _ _ _ _ _ | with_reducible show And _ _); (first | (k_here; (with_reducible show wpAny _ _ (call (Value.ref 94) _) _ _ _); k_dflt (refine' k_found ?F ?N (by assumption) (by assumption) (by assumption) (by assumption) (by assumption) (by assumption) (Ok.less (Ok.deeper (ok_AL (n := 6) (by decide))) (by decide)) _ _ (by assumption) ?_; (case F => k_asm); (case N => k_asm)); k_whole; intro _ _ _ _ _ _ _ _ _ _ _ _ _ _) | (k_here; (with_reducible show wpAny _ _ (call (Value.ref 84) _) _ _ _); k_dflt (refine' k_wr ?F ?N (by assumption) (by assumption) (Ok.less (Ok.deeper (ok_AL (n := 6) (by decide))) (by decide)) _ _ (by assumption) ?_; (case F => k_asm); (case N => k_asm)); k_whole; intro _ _ _ _ _) | (k_here; (with_reducible show wpAny _ _ (call (Value.ref 101) _) _ _ _); k_dflt (refine' k_wish ?F ?N (by assumption) (by assumption) (Ok.less (Ok.deeper (ok_AL (n := 6) (by decide))) (by decide)) _ _ _ _ (item_row _ _ (by assumption)) (by assumption) (may_fmc _ _ (by assumption)) ?_; (case F => k_asm); (case N => k_asm)); k_whole; intro _ _ _ _ _ _ _ _ _) | walk1))))
    · rename News _ _ _ _ => Nq
      rename Fr _ _ _ _ => Fq
      rename (AllBare _ → AllBare _) => bq
      rename decide _ = true => dq
      rename TabOk _ _ _ _ _ => tbq
      have hf : fndB tg n₀ (x ++ wr sg) = false := by
        have z := of_decide_eq_true dq
        unfold fndB
        rw [List.map_eq_nil_iff.mp z]; rfl
      refine ⟨ws.length + 1 - (i + 1), by omega, (hI1 _ _).2 ⟨i + 1, _, _, _, _, _, _, oi4, _, rfl, hlt, rfl, Fq, fun q hq => Nq q (.tail _ (.tail _ hq)), lit4, tbq, fun z => bq (bare z), fun j hj a ha => ?_⟩⟩
      by_cases q : j = i
      · subst q; rw [hsgi] at ha; cases ha; exact hf
      · exact hno j (by omega) a ha
    · refine hR1 _ _ ?_
      (try dsimp only)
      (repeat' (first | (k_unfold; (try dsimp only)) | ((first | with_reducible show wpAny _ _ _ _ _ _ | with_reducible show @ite _ _ _ _ _ | with_reducible show And _ _); (first | (k_here; (with_reducible show wpAny _ _ (call (Value.ref 94) _) _ _ _); k_dflt (refine' k_found ?F ?N (by assumption) (by assumption) (by assumption) (by assumption) (by assumption) (by assumption) (Ok.less (Ok.deeper (ok_AL (n := 6) (by decide))) (by decide)) _ _ (by assumption) ?_; (case F => k_asm); (case N => k_asm)); k_whole; intro _ _ _ _ _ _ _ _ _ _ _ _ _ _) | (k_here; (with_reducible show wpAny _ _ (call (Value.ref 84) _) _ _ _); k_dflt (refine' k_wr ?F ?N (by assumption) (by assumption) (Ok.less (Ok.deeper (ok_AL (n := 6) (by decide))) (by decide)) _ _ (by assumption) ?_; (case F => k_asm); (case N => k_asm)); k_whole; intro _ _ _ _ _) | (k_here; (with_reducible show wpAny _ _ (call (Value.ref 101) _) _ _ _); k_dflt (refine' k_wish ?F ?N (by assumption) (by assumption) (Ok.less (Ok.deeper (ok_AL (n := 6) (by decide))) (by decide)) _ _ _ _ (item_row _ _ (by assumption)) (by assumption) (may_fmc _ _ (by assumption)) ?_; (case F => k_asm); (case N => k_asm)); k_whole; intro _ _ _ _ _ _ _ _ _) | walk1)) | (dsimp only; (first | with_reducible show wpAny _ _ _ _ _ _ | with_reducible show @ite _ _ _ _ _ | with_reducible show And _ _); (first | (k_here; (with_reducible show wpAny _ _ (call (Value.ref 94) _) _ _ _); k_dflt (refine' k_found ?F ?N (by assumption) (by assumption) (by assumption) (by assumption) (by assumption) (by assumption) (Ok.less (Ok.deeper (ok_AL (n := 6) (by decide))) (by decide)) _ _ (by assumption) ?_; (case F => k_asm); (case N => k_asm)); k_whole; intro _ _ _ _ _ _ _ _ _ _ _ _ _ _) | (k_here; (with_reducible show wpAny _ _ (call (Value.ref 84) _) _ _ _); k_dflt (refine' k_wr ?F ?N (by assumption) (by assumption) (Ok.less (Ok.deeper (ok_AL (n := 6) (by decide))) (by decide)) _ _ (by assumption) ?_; (case F => k_asm); (case N => k_asm)); k_whole; intro _ _ _ _ _) | (k_here; (with_reducible show wpAny _ _ (call (Value.ref 101) _) _ _ _); k_dflt (refine' k_wish ?F ?N (by assumption) (by assumption) (Ok.less (Ok.deeper (ok_AL (n := 6) (by decide))) (by decide)) _ _ _ _ (item_row _ _ (by assumption)) (by assumption) (may_fmc _ _ (by assumption)) ?_; (case F => k_asm); (case N => k_asm)); k_whole; intro _ _ _ _ _ _ _ _ _) | walk1))))
      rename News _ _ _ _ => Nq
      rename Fr _ _ _ _ => Fq
      rename (AllBare _ → AllBare _) => bq
      rename decide _ = false => dq
      rename TabOk _ _ _ _ _ => tbq
      have hf : fndB tg n₀ (x ++ wr sg) = true := by
        have z := of_decide_eq_false dq
        unfold fndB
        cases q : passing (pzOf tg (x ++ wr sg)) n₀ 0 with
        | nil => rw [q] at z; exact absurd rfl z
        | cons a r => rfl
      have e : walkedS tg n₀ m x k = x ++ wr sg := by
        unfold walkedS
        rw [hws, find_some_of hsgi hf hno]
      rw [e] at hret
      exact hret _ _ _ _ (kp16 _ _ Fq (Nq (c1, o1) (by k_mem)).1 (Nq (c2, o2) (by k_mem)).1) (tbq.1 _ (Nq _ (.tail _ (.tail _ (.head _)))).1 (Nq _ (.tail _ (.tail _ (.tail _ (.head _))))).1 Fq.keep) (fun z => bq (bare z))
  · have hge : ws.length ≤ i := Nat.le_of_not_lt hlt
    have e : walkedS tg n₀ m x k = x := by
      unfold walkedS
      rw [hws, find_none_of (fun j hj a ha => hno j (by omega) a ha)]
    rw [e] at hret
    have hN3 := N3
    refine wpAny_pyNext_list_end rfl hit hl3 (by simp; have := hlen; simp at this; omega) fun h4 ext4 => ?_
    dsimp only
    have nn1 : ∀ q ∈ [(16, tabObj ps3), (c1, o1), (c2, o2), (lw, PySem.W.listOf its nn)], q.1 ≠ h2.objs.size := by
      intro q hq
      simp only [List.mem_cons, List.not_mem_nil, or_false] at hq
      rcases hq with rfl | rfl | rfl | rfl
      · exact nit.symm
      · exact Nat.ne_of_lt lc1
      · exact Nat.ne_of_lt lc2
      · exact Nat.ne_of_lt llw
    have ncc : cc ≠ h2.objs.size := fun q => by
      rcases tb.2 with e | ⟨vs, t', dv, e⟩
      · exact Nat.ne_of_lt lc1 (e ▸ q)
      · have z := (N3 (cc, occ) (by k_mem)).1
        obtain ⟨o5, z5, _, d5⟩ := hit
        rw [q] at z
        rw [z] at z5
        cases z5
        rw [dv] at d5
        cases d5
        cases e
    have F4 := fr_turn F3 (N3 (h2.objs.size, oi) (by k_mem)).2 (fun b x n e => ext4 b x n e)
    have N4 : News g L h4 [(16, tabObj ps3), (cc, occ), (c1, o1), (c2, o2)] := fun q hq => by
      have z : q ∈ [(16, tabObj ps3), (cc, occ), (c1, o1), (c2, o2), (lw, PySem.W.listOf its nn), (h2.objs.size, oi)] := List.mem_append_left [(lw, PySem.W.listOf its nn), (h2.objs.size, oi)] hq
      refine ⟨ext4 _ _ ?_ (N3 q z).1, (N3 q z).2⟩
      simp only [List.mem_cons, List.not_mem_nil, or_false] at hq
      rcases hq with rfl | rfl | rfl | rfl
      · exact nit.symm
      · exact ncc
      · exact Nat.ne_of_lt lc1
      · exact Nat.ne_of_lt lc2
    clear F0 N0 F1 N1 hN1 F3 N3 hN3 hit hl3 z16 zc1 zc2 zlw
    (try dsimp only)
    (repeat' (first | (k_unfold; (try dsimp only)) | ((first | with_reducible show wpAny _ _ _ _ _ _ | with_reducible show @ite _ _ _ _ _ | with_reducible show And _ _); (first | (k_here; (with_reducible show wpAny _ _ (call (Value.ref 94) _) _ _ _); k_dflt (refine' k_found ?F ?N (by assumption) (by assumption) (by assumption) (by assumption) (by assumption) (by assumption) (Ok.less (Ok.deeper (ok_AL (n := 6) (by decide))) (by decide)) _ _ (by assumption) ?_; (case F => k_asm); (case N => k_asm)); k_whole; intro _ _ _ _ _ _ _ _ _ _ _ _ _ _) | (k_here; (with_reducible show wpAny _ _ (call (Value.ref 84) _) _ _ _); k_dflt (refine' k_wr ?F ?N (by assumption) (by assumption) (Ok.less (Ok.deeper (ok_AL (n := 6) (by decide))) (by decide)) _ _ (by assumption) ?_; (case F => k_asm); (case N => k_asm)); k_whole; intro _ _ _ _ _) | (k_here; (with_reducible show wpAny _ _ (call (Value.ref 101) _) _ _ _); k_dflt (refine' k_wish ?F ?N (by assumption) (by assumption) (Ok.less (Ok.deeper (ok_AL (n := 6) (by decide))) (by decide)) _ _ _ _ (item_row _ _ (by assumption)) (by assumption) (may_fmc _ _ (by assumption)) ?_; (case F => k_asm); (case N => k_asm)); k_whole; intro _ _ _ _ _ _ _ _ _) | walk1)) | (dsimp only; (first | with_reducible show wpAny _ _ _ _ _ _ | with_reducible show @ite _ _ _ _ _ | with_reducible show And _ _); (first | (k_here; (with_reducible show wpAny _ _ (call (Value.ref 94) _) _ _ _); k_dflt (refine' k_found ?F ?N (by assumption) (by assumption) (by assumption) (by assumption) (by assumption) (by assumption) (Ok.less (Ok.deeper (ok_AL (n := 6) (by decide))) (by decide)) _ _ (by assumption) ?_; (case F => k_asm); (case N => k_asm)); k_whole; intro _ _ _ _ _ _ _ _ _ _ _ _ _ _) | (k_here; (with_reducible show wpAny _ _ (call (Value.ref 84) _) _ _ _); k_dflt (refine' k_wr ?F ?N (by assumption) (by assumption) (Ok.less (Ok.deeper (ok_AL (n := 6) (by decide))) (by decide)) _ _ (by assumption) ?_; (case F => k_asm); (case N => k_asm)); k_whole; intro _ _ _ _ _) | (k_here; (with_reducible show wpAny _ _ (call (Value.ref 101) _) _ _ _); k_dflt (refine' k_wish ?F ?N (by assumption) (by assumption) (Ok.less (Ok.deeper (ok_AL (n := 6) (by decide))) (by decide)) _ _ _ _ (item_row _ _ (by assumption)) (by assumption) (may_fmc _ _ (by assumption)) ?_; (case F => k_asm); (case N => k_asm)); k_whole; intro _ _ _ _ _ _ _ _ _) | walk1))))
    refine hR1 _ _ ?_
    (try dsimp only)
    (repeat' (first | (k_unfold; (try dsimp only)) | ((first | with_reducible show wpAny _ _ _ _ _ _ | with_reducible show @ite _ _ _ _ _ | with_reducible show And _ _); (first | (k_here; (with_reducible show wpAny _ _ (call (Value.ref 94) _) _ _ _); k_dflt (refine' k_found ?F ?N (by assumption) (by assumption) (by assumption) (by assumption) (by assumption) (by assumption) (Ok.less (Ok.deeper (ok_AL (n := 6) (by decide))) (by decide)) _ _ (by assumption) ?_; (case F => k_asm); (case N => k_asm)); k_whole; intro _ _ _ _ _ _ _ _ _ _ _ _ _ _) | (k_here; (with_reducible show wpAny _ _ (call (Value.ref 84) _) _ _ _); k_dflt (refine' k_wr ?F ?N (by assumption) (by assumption) (Ok.less (Ok.deeper (ok_AL (n := 6) (by decide))) (by decide)) _ _ (by assumption) ?_; (case F => k_asm); (case N => k_asm)); k_whole; intro _ _ _ _ _) | (k_here; (with_reducible show wpAny _ _ (call (Value.ref 101) _) _ _ _); k_dflt (refine' k_wish ?F ?N (by assumption) (by assumption) (Ok.less (Ok.deeper (ok_AL (n := 6) (by decide))) (by decide)) _ _ _ _ (item_row _ _ (by assumption)) (by assumption) (may_fmc _ _ (by assumption)) ?_; (case F => k_asm); (case N => k_asm)); k_whole; intro _ _ _ _ _ _ _ _ _) | walk1)) | (dsimp only; (first | with_reducible show wpAny _ _ _ _ _ _ | with_reducible show @ite _ _ _ _ _ | with_reducible show And _ _); (first | (k_here; (with_reducible show wpAny _ _ (call (Value.ref 94) _) _ _ _); k_dflt (refine' k_found ?F ?N (by assumption) (by assumption) (by assumption) (by assumption) (by assumption) (by assumption) (Ok.less (Ok.deeper (ok_AL (n := 6) (by decide))) (by decide)) _ _ (by assumption) ?_; (case F => k_asm); (case N => k_asm)); k_whole; intro _ _ _ _ _ _ _ _ _ _ _ _ _ _) | (k_here; (with_reducible show wpAny _ _ (call (Value.ref 84) _) _ _ _); k_dflt (refine' k_wr ?F ?N (by assumption) (by assumption) (Ok.less (Ok.deeper (ok_AL (n := 6) (by decide))) (by decide)) _ _ (by assumption) ?_; (case F => k_asm); (case N => k_asm)); k_whole; intro _ _ _ _ _) | (k_here; (with_reducible show wpAny _ _ (call (Value.ref 101) _) _ _ _); k_dflt (refine' k_wish ?F ?N (by assumption) (by assumption) (Ok.less (Ok.deeper (ok_AL (n := 6) (by decide))) (by decide)) _ _ _ _ (item_row _ _ (by assumption)) (by assumption) (may_fmc _ _ (by assumption)) ?_; (case F => k_asm); (case N => k_asm)); k_whole; intro _ _ _ _ _ _ _ _ _) | walk1))))
    rename News _ _ _ _ => Nq
    rename Fr _ _ _ _ => Fq
    exact hret _ _ _ _ (kp16 _ _ Fq (Nq (c1, o1) (by k_mem)).1 (Nq (c2, o2) (by k_mem)).1) (tb.1 _ (Nq _ (.head _)).1 (Nq _ (.tail _ (.head _))).1 Fq.keep) bare
end
end Mine
end
theorem Mine.t_resetRD : True := by
  first | (walk1; fail "no") | trivial

section
open PySem PySem.W PyProof.Rows PySem.Spec PySem.Calls PySem.W.X
set_option maxRecDepth 100000
set_option maxHeartbeats 8000000
namespace Mine
theorem t_offRD : True := by
  w_top off
  trivial
section
variable {w : World} {p : Program} {loose : List Str} {mean : ExcName → Option Value} {mg mb : Str → Option Value} {H : Heap} {s : Shared} {A : Around} {Q E : Value → Shared → Prop}
noncomputable abbrev rngObj (n : Int) (t u v : Tok) : Obj := { cls := .type "range", dict := none, data := .fields #[.int 0 t, .int n u, .int 1 v], slots := #[] }
noncomputable abbrev ritObj (x n : Int) : Obj := { cls := .type "range_iterator", dict := none, data := .fields #[rawInt x, rawInt n, rawInt 1], slots := #[] }
theorem iter_range {r : Addr} {n : Int} {t u v : Tok} (hr : s.heap.get? r = some (rngObj n t u v)) (hsm : Builtin.Range.small 0 n 1 = true)
    (h : Q (.ref s.heap.objs.size) { s with heap := s.heap.push (ritObj 0 (Builtin.Range.rangeSize 0 n 1)) }) :
    wpAny (model P0 w) A (call (.builtin "iter") [.ref r]) Q E s := by
  refine call_function_entry (by decide +kernel) (by decide +kernel) kdk_entry_iter (kdk_args_iter _) ?_
  unfold Builtin.«iter»
  refine wpAny_bind (m := someArgs "iter" 1 2 _) (wpAny_of_eq (a := [Value.ref r]) (by first | rfl | kernel_rfl!) ?_)
  show wpAny _ _ (pyIter (.ref r) >>= _) _ _ _
  refine wpAny_bind (wpAny_pyIter_range hr hsm ?_)
  exact wpAny_pure ⟨_, rfl, h⟩
theorem k_iter {g : Heap} {L r : Addr} {m : Str → Option Value} {news : List (Addr × Obj)} {t u v : Tok} (F : Fr g L s.heap m) (N : News g L s.heap news) (hr : g.get? r = some (rngObj 9 t u v))
    (k : ∀ it h', Fr g L h' m → News g L h' ((it, ritObj 0 9) :: news) → (∀ q ∈ news, q.1 ≠ it) → Q (.ref it) { s with heap := h' }) : wpAny (model P0 w) A (call (.builtin "iter") [.ref r]) Q E s :=
  iter_range (F.keep _ _ hr) (by decide +kernel) (k _ _ (F.push _) (News.push F N _ rfl) (fun q hq => Nat.ne_of_lt (Heap.lt_size (N q hq).1)))
theorem k_walked {g : Heap} {L l f c1 c2 c : Addr} {m : Str → Option Value} {ps : Array Value} {cc : Addr} {occ o1 o2 : Obj} {rest : List (Addr × Obj)} {items : Array Value} {fa : Nat → Addr} {num : Nat → Int} {tg : Nat → Str} {n₀ : Nat} {doc pm ct : Value} {mo : Int} {t1 : Tok} (F : Fr g L s.heap m) (N : News g L s.heap ((16, tabObj ps) :: (cc, occ) :: (c1, o1) :: rest)) (tb : TabOk g c1 ps cc occ) (FL : Files g l items fa num tg n₀)
    (ne : ∀ q ∈ rest, q.1 ≠ 16) (ne1 : c1 ≠ 16) (W : Wd w p loose mean mg mb H) (st : H.StaysIn g) (ok : Ok 6 A)
    (fn : g.get? f = some (walkFn c1 c2 doc pm c ct)) (code : g.CodeRec (.ref c) walkQual) (g2 : g.get? c2 = some o2) (d1 : o1.data = .cell (some (.str (rowS mo) t1))) (d2 : o2.data = .cell (some (.ref l))) (n1 : H.get? c1 = none) (n2 : H.get? c2 = none)
    (x : Str) (k : Nat) (t t2 : Tok) (hk9 : k < 9) (hx : HeadIn x k)
    (kk : ∀ u h' tk gens' ps' cc' occ', Fr g L h' m → News g L h' ((16, tabObj ps') :: (cc', occ') :: (c1, o1) :: rest) → TabOk g c1 ps' cc' occ' → (AllBare s.gens → AllBare gens') → Q (.str (walkedS tg n₀ mo x k) u) { s with heap := h', toks := tk, gens := gens' }) : wpAny (model P0 w) A (call (.ref f) [.str x t, .int (k : Int) t2]) Q E s := by
  have FL' := FL.keeps F.keep
  refine c_walked W (fun b o e => F.keep b o (st b o e)) ok f l c1 c2 c o1 o2 doc pm ct x mo t t1 t2 k hk9 ps (F.keep _ _ fn) (code.at fun o e => F.keep _ _ e) (N _ (.tail _ (.tail _ (.head _)))).1 (F.keep _ _ g2) d1 d2 n1 n2 (N _ (.head _)).1 (tb.1 _ (N _ (.head _)).1 (N _ (.tail _ (.head _))).1 F.keep) hx FL' ?_
  intro u h' tk gens' kp tb' bare
  have F' := fr_kp F kp (fun z hz => by rw [List.mem_singleton.mp hz]; exact ⟨(N _ (.head _)).2.2, (N _ (.head _)).2.1⟩)
  have z1 := N _ (.tail _ (.tail _ (.head _)))
  have e1 : h'.get? c1 = some o1 := kp _ _ z1.1 (fun q => ne1 (List.mem_singleton.mp q))
  obtain ⟨ps', cc', occ', q1, q2, q3, q4⟩ := tb'.now F' e1 z1.2
  refine kk u h' tk gens' ps' cc' occ' F' (fun q hq => ?_) q4 bare
  rcases List.mem_cons.mp hq with rfl | hq
  · exact ⟨q1, (N _ (.head _)).2⟩
  rcases List.mem_cons.mp hq with rfl | hq
  · exact ⟨q2, q3⟩
  rcases List.mem_cons.mp hq with rfl | hq
  · exact ⟨e1, z1.2⟩
  · have z := N q (.tail _ (.tail _ (.tail _ hq)))
    exact ⟨kp _ _ z.1 (fun r => ne q hq (List.mem_singleton.mp r)), z.2⟩
noncomputable def wholeS (tg : Nat → Str) (n₀ : Nat) (m : Int) : Nat → Str
  | 0 => Str.ofString ""
  | k + 1 => walkedS tg n₀ m (wholeS tg n₀ m k) k
theorem headIn_walked {tg : Nat → Str} {n₀ : Nat} {m : Int} {x : Str} {k : Nat} (hk : k < 9) (h : HeadIn x k) : HeadIn (walkedS tg n₀ m x k) (k + 1) := by
  unfold walkedS
  split
  · rename_i sg hs
    exact h.add (wish_signs k hk _ (may_fmc m k hk) _ (List.mem_of_find?_eq_some hs))
  · exact ⟨by have := h.ln; omega, h.st⟩
theorem headIn_whole {tg : Nat → Str} {n₀ : Nat} {m : Int} : ∀ {k : Nat}, k ≤ 9 → HeadIn (wholeS tg n₀ m k) k
  | 0, _ => ⟨Nat.le_refl _, .inl rfl⟩
  | k + 1, h => headIn_walked (by omega) (headIn_whole (k := k) (by omega))
local macro_rules | `(tactic| walk_at "call builtin:iter") => `(tactic| (k_here; k_dflt (refine' k_iter ?F ?N (by assumption) ?_; (case F => k_asm); (case N => k_asm)); k_whole; intro it' h' F' N' l1; (replace l1 := gnNe_of l1); (simp only [GnNe, and_true] at l1)))
noncomputable def rdM (f r it : Addr) (t : Tok) (v el : Option Value) : Str → Option Value := fun y => if y = Str.ofString "value" then v else if y = Str.ofString "element" then el else if y = Str.ofString "it" then some (.ref it) else if y = Str.ofString "initial" then some (.str (Str.ofString "") t) else if y = Str.ofString "sequence" then some (.ref r) else if y = Str.ofString "function" then some (.ref f) else none
theorem rd_map0 {f r it : Addr} {t : Tok} {v : Value} : ∀ y, (if y = Str.ofString "value" then some v else if y = Str.ofString "it" then some (Value.ref it) else List.lookup y (List.reverse [(Str.ofString "function", Value.ref f), (Str.ofString "sequence", Value.ref r), (Str.ofString "initial", Value.str (Str.ofString "") t)])) = rdM f r it t (some v) none y := fun y => by
  by_cases h1 : y = Str.ofString "value"; · subst h1; rfl
  by_cases h2 : y = Str.ofString "element"; · subst h2; rfl
  by_cases h3 : y = Str.ofString "it"; · subst h3; rfl
  by_cases h4 : y = Str.ofString "initial"; · subst h4; rfl
  by_cases h5 : y = Str.ofString "sequence"; · subst h5; rfl
  by_cases h6 : y = Str.ofString "function"; · subst h6; rfl
  have z : ∀ z : Str, y ≠ z → (y == z) = false := fun z h => by simpa using h
  simp only [rdM, if_neg h1, if_neg h2, if_neg h3, if_neg h4, if_neg h5, if_neg h6, List.reverse_cons, List.reverse_nil, List.nil_append, List.cons_append, List.lookup_cons, List.lookup_nil, z _ h4, z _ h5, z _ h6]
theorem rd_map1 {f r it : Addr} {t : Tok} {v el el' : Option Value} : ∀ y, (if y = Str.ofString "element" then el' else rdM f r it t v el y) = rdM f r it t v el' y := fun y => by
  by_cases h1 : y = Str.ofString "value"; · subst h1; rfl
  by_cases h2 : y = Str.ofString "element"; · subst h2; rfl
  simp only [rdM, if_neg h1, if_neg h2]
theorem rd_map2 {f r it : Addr} {t : Tok} {v v' el : Option Value} : ∀ y, (if y = Str.ofString "value" then v' else rdM f r it t v el y) = rdM f r it t v' el y := fun y => by
  by_cases h1 : y = Str.ofString "value"; · subst h1; rfl
  simp only [rdM, if_neg h1]
theorem fnAt_walk {g h : Heap} {L f c1 c2 c : Addr} {m : Str → Option Value} {doc pm ct : Value} (F : Fr g L h m) (e : g.get? f = some (walkFn c1 c2 doc pm c ct)) : FnAt f h := ⟨_, _, _, _, F.keep _ _ e⟩
local macro_rules | `(tactic| walk_at "FnAt") => `(tactic| (k_dflt (exact fnAt_walk (by k_asm) (by assumption))))
theorem c_reduce (W : Wd w p loose mean mg mb H) (hs : H.StaysIn s.heap) (ok : Ok 8 A) (f l c1 c2 c r : Addr) (o1 o2 : Obj) (doc pm ct : Value) (m : Int) (t t1 tr1 tr2 tr3 : Tok) (ps : Array Value)
    (fn : s.heap.get? f = some (walkFn c1 c2 doc pm c ct)) (code : s.heap.CodeRec (.ref c) walkQual) (g1 : s.heap.get? c1 = some o1) (g2 : s.heap.get? c2 = some o2) (d1 : o1.data = .cell (some (.str (rowS m) t1))) (d2 : o2.data = .cell (some (.ref l)))
    (n1 : H.get? c1 = none) (n2 : H.get? c2 = none) (hr : s.heap.get? r = some (rngObj 9 tr1 tr2 tr3)) (h16 : s.heap.get? 16 = some (tabObj ps)) (hT : TabSel s.heap) {items : Array Value} {fa : Nat → Addr} {num : Nat → Int} {tg : Nat → Str} {n₀ : Nat} (FL : Files s.heap l items fa num tg n₀) (hret : RetWd s Q (wholeS tg n₀ m 9)) :
    wpAny (model P0 w) A (call (.ref 30) [.ref f, .ref r, .str (Str.ofString "") t]) Q E s := by
  refine wp_weaken ok ?_
  clear ok
  refine wpAny_call ?_
  k_dflt (refine' enterK (binds := [(Str.ofString "function", .ref f), (Str.ofString "sequence", .ref r), (Str.ofString "initial", .str (Str.ofString "") t)]) W hs [16, c1] [(16, tabObj ps), (c1, o1)] ?hX ?hN (ok_AL (by decide)).room ?ho ?hcd ?hbind ?hloc ?_ ?hcell ?a ?b ?c; (case hX => intro z hz; simp only [List.mem_cons, List.not_mem_nil, or_false] at hz; (rcases hz with rfl | rfl; exact W.n2; exact n1)); (case hN => intro z hz; simp only [List.mem_cons, List.not_mem_nil, or_false] at hz; (rcases hz with rfl | rfl; exact ⟨h16, by simp⟩; exact ⟨g1, by simp⟩)); (case ho => k_is); (case hcd => k_is); (case hbind => exact BindsTo.of_defaults rfl (W.X.keeps hs 23 _ (by k_is)) rfl rfl rfl); (case hloc => exact locs rfl); (case hcell => decide); (case a => rfl); (case b => rfl); (case c => rfl); k_whole; intro g L h₁ hg hL F0 N0 X T st hk; (try dsimp only); (try k_fold))
  have n1' : c1 ≠ 16 := fun q => by rw [q, h16] at g1; cases g1; cases d1
  have keepg : ∀ b o, s.heap.get? b = some o → b ≠ 16 → b ≠ c1 → g.get? b = some o := fun b o e e1 e2 => by
    rw [hg]
    refine hideAll_get _ e (fun q => ?_)
    simp only [List.mem_cons, List.not_mem_nil, or_false] at q
    rcases q with q | q
    · exact e1 q
    · exact e2 q
  have hrg : g.get? r = some (rngObj 9 tr1 tr2 tr3) := keepg _ _ hr (fun q => by rw [q, h16] at hr; cases hr) (fun q => by rw [q, g1] at hr; cases hr; cases d1)
  (try dsimp only)
  iterate 25 ((first | (k_unfold; (try dsimp only)) | (first | (k_here; (with_reducible show wpAny _ _ (callWith _ (Value.ref _) [] (backTo _ (starEach (_ :: _) _)) []) _ _ _); k_dflt (refine' callWith_F ?k1 ?_; (case k1 => exact fnAt_walk (by k_asm) (by assumption)); k_whole)) | (k_here; (with_reducible show wpAny _ _ (call (Value.ref _) [Value.str _ _, Value.int _ _]) _ _ _); k_dflt (refine' k_walked ?F ?N (by assumption) (by assumption) (by assumption) (by assumption) (by assumption) (by assumption) (Ok.less (Ok.deeper (ok_AL (n := 8) (by decide))) (by decide)) (by assumption) (by assumption) (by assumption) (by assumption) (by assumption) (by assumption) (by assumption) _ _ _ _ (by assumption) (by assumption) ?_; (case F => k_asm); (case N => k_asm)); k_whole; intro _ _ _ _ _ _ _ _ _ _ _) | (k_here; (with_reducible show wpAny _ _ (compareOp CmpOp.Is (Value.str _ _) (Value.ref _)) _ _ _); refine wpAny_is_other (by rfl) (by intro x; cases x) ?_) | walk1) | (dsimp only; (first | (k_here; (with_reducible show wpAny _ _ (callWith _ (Value.ref _) [] (backTo _ (starEach (_ :: _) _)) []) _ _ _); k_dflt (refine' callWith_F ?k1 ?_; (case k1 => exact fnAt_walk (by k_asm) (by assumption)); k_whole)) | (k_here; (with_reducible show wpAny _ _ (call (Value.ref _) [Value.str _ _, Value.int _ _]) _ _ _); k_dflt (refine' k_walked ?F ?N (by assumption) (by assumption) (by assumption) (by assumption) (by assumption) (by assumption) (Ok.less (Ok.deeper (ok_AL (n := 8) (by decide))) (by decide)) (by assumption) (by assumption) (by assumption) (by assumption) (by assumption) (by assumption) (by assumption) _ _ _ _ (by assumption) (by assumption) ?_; (case F => k_asm); (case N => k_asm)); k_whole; intro _ _ _ _ _ _ _ _ _ _ _) | (k_here; (with_reducible show wpAny _ _ (compareOp CmpOp.Is (Value.str _ _) (Value.ref _)) _ _ _); refine wpAny_is_other (by rfl) (by intro x; cases x) ?_) | walk1))))
  refine wpAny_For ?_ ?hs1
  case hs1 => intro _; rfl
  ((first | (k_unfold; (try dsimp only)) | (first | (k_here; (with_reducible show wpAny _ _ (callWith _ (Value.ref _) [] (backTo _ (starEach (_ :: _) _)) []) _ _ _); k_dflt (refine' callWith_F ?k1 ?_; (case k1 => exact fnAt_walk (by k_asm) (by assumption)); k_whole)) | (k_here; (with_reducible show wpAny _ _ (call (Value.ref _) [Value.str _ _, Value.int _ _]) _ _ _); k_dflt (refine' k_walked ?F ?N (by assumption) (by assumption) (by assumption) (by assumption) (by assumption) (by assumption) (Ok.less (Ok.deeper (ok_AL (n := 8) (by decide))) (by decide)) (by assumption) (by assumption) (by assumption) (by assumption) (by assumption) (by assumption) (by assumption) _ _ _ _ (by assumption) (by assumption) ?_; (case F => k_asm); (case N => k_asm)); k_whole; intro _ _ _ _ _ _ _ _ _ _ _) | (k_here; (with_reducible show wpAny _ _ (compareOp CmpOp.Is (Value.str _ _) (Value.ref _)) _ _ _); refine wpAny_is_other (by rfl) (by intro x; cases x) ?_) | walk1) | (dsimp only; (first | (k_here; (with_reducible show wpAny _ _ (callWith _ (Value.ref _) [] (backTo _ (starEach (_ :: _) _)) []) _ _ _); k_dflt (refine' callWith_F ?k1 ?_; (case k1 => exact fnAt_walk (by k_asm) (by assumption)); k_whole)) | (k_here; (with_reducible show wpAny _ _ (call (Value.ref _) [Value.str _ _, Value.int _ _]) _ _ _); k_dflt (refine' k_walked ?F ?N (by assumption) (by assumption) (by assumption) (by assumption) (by assumption) (by assumption) (Ok.less (Ok.deeper (ok_AL (n := 8) (by decide))) (by decide)) (by assumption) (by assumption) (by assumption) (by assumption) (by assumption) (by assumption) (by assumption) _ _ _ _ (by assumption) (by assumption) ?_; (case F => k_asm); (case N => k_asm)); k_whole; intro _ _ _ _ _ _ _ _ _ _ _) | (k_here; (with_reducible show wpAny _ _ (compareOp CmpOp.Is (Value.str _ _) (Value.ref _)) _ _ _); refine wpAny_is_other (by rfl) (by intro x; cases x) ?_) | walk1))))
  rename Fr _ _ _ _ => F1
  rename News _ _ _ _ => N1
  rename_i it _ hne _ h2
  refine wpAny_pyIter_rangeiter (N1 _ (.head _)).1 ?_
  (try dsimp only)
  have Wk := Walks.range (prog := P0) (w := w) (A := (Around.deeper (AL 8) (envX (Str.ofString "reduce") default L 30 (Value.ref 29) []))) rfl it 0 1 9
  have FLg : Files g l items fa num tg n₀ := FL.kp (X := [16, c1]) (fun b o e n => by rw [hg]; exact hideAll_get _ e n) (by
    intro y hy o e
    simp only [List.mem_cons, List.not_mem_nil, or_false] at hy
    rcases hy with rfl | rfl
    · rw [h16] at e; cases e; exact notF_tab _
    · rw [g1] at e; cases e; exact notF_cell d1)
  have kp16 : ∀ h' m', Fr g L h' m' → h'.get? c1 = some o1 → Kp [16] s.heap h' := fun h' m' F' e1 b o e n => by
    by_cases q1 : b = c1
    · subst q1; rw [g1] at e; cases e; exact e1
    refine F'.keep b o (keepg b o e (fun q => n (by rw [q]; exact .head _)) q1)
  have fng : g.get? f = some (walkFn c1 c2 doc pm c ct) := keepg _ _ fn (fun q => by rw [q, h16] at fn; cases fn) (fun q => by rw [q, g1] at fn; cases fn; cases d1)
  have codeg : g.CodeRec (.ref c) walkQual := by
    obtain ⟨c', oc, vs, tq, e1, e2, dd, r⟩ := id code
    cases e1
    refine code.at fun o e => keepg _ _ e (fun q => ?_) (fun q => ?_)
    · rw [q, h16] at e2; cases e2
      rcases hT with e | ⟨c9, e, _⟩
      · rw [h16] at e; cases e; cases dd; cases r.symm
      · rw [h16] at e; cases e; cases dd; cases r.symm
    · rw [q, g1] at e2; cases e2; rw [d1] at dd; cases dd
  have g2g : g.get? c2 = some o2 := keepg _ _ g2 (fun q => by rw [q, h16] at g2; cases g2; cases d2) (fun q => by rw [q, g1] at g2; cases g2; rw [d1] at d2; cases d2)
  have z16 := N1 (16, tabObj ps) (by k_mem)
  have zc1 := N1 (c1, o1) (by k_mem)
  have hne16 : it ≠ 16 := hne.1.symm
  have hnec1 : it ≠ c1 := hne.2.symm
  have zit := N1 (it, ritObj 0 9) (by k_mem)
  refine hideR fun R1 hR1 => ?_
  refine hideI (fun n s' => ∃ i h' tk gens' ps cc occ el tv, s' = { s with heap := h', toks := tk, gens := gens' } ∧ i ≤ 9 ∧ n = 9 + 1 - i ∧ Fr g L h' (rdM f r it t (some (.str (wholeS tg n₀ m i) tv)) el) ∧
    News g L h' [(16, tabObj ps), (cc, occ), (c1, o1), (it, ritObj (0 + (i : Int) * 1) ((9 : Nat) - (i : Int)))] ∧ TabOk g c1 ps cc occ ∧ (AllBare s.gens → AllBare gens')) fun I1 hI1 => ?_
  refine codeAny_forLoop I1 ?turn (9 + 1) ?init (by intro _; rfl)
  case init =>
    refine (hI1 _ _).2 ?_
    obtain ⟨ps0, cc0, occ0, q1, q2, q3, q4⟩ := (hT.move h16 z16.1 (kp16 _ _ F1 zc1.1)).now F1 zc1.1 zc1.2
    refine ⟨0, _, _, _, ps0, cc0, occ0, none, t, rfl, Nat.zero_le _, rfl, fr_map F1 rd_map0, fun q hq => ?_, q4, fun z => z⟩
    simp only [List.mem_cons, List.not_mem_nil, or_false] at hq
    rcases hq with rfl | rfl | rfl | rfl
    · exact ⟨q1, z16.2⟩
    · exact ⟨q2, q3⟩
    · exact zc1
    · exact zit
  intro n s' hI
  replace hI := (hI1 n s').1 hI
  obtain ⟨i, h3, tk3, gens3, ps3, cc, occ, el0, tv, rfl, hi, rfl, F3, N3, tb, bare⟩ := hI
  have hit := (N3 (it, _) (.tail _ (.tail _ (.tail _ (.head _))))).1
  have ncc : cc ≠ it := fun q => by
    rcases tb.2 with e | ⟨vs, t', dv, e⟩
    · exact hnec1 (q.symm.trans e)
    · have z := (N3 (cc, occ) (by k_mem)).1
      rw [q, hit] at z
      cases z
      cases dv
      cases e
  by_cases hlt : i < 9
  · refine Wk.item i _ _ _ hlt hit (fun v h4 tk4 hv st4 k4 => ?_)
    obtain ⟨tv4, rfl⟩ := hv
    rw [show (0 : Int) + (i : Int) * 1 = (i : Int) from by omega]
    dsimp only at k4 ⊢
    have k4' : ∀ b x, b ≠ it → h3.get? b = some x → h4.get? b = some x := fun b x n e => k4 b x (fun q => n (List.mem_singleton.mp q)) e
    have F4 := fr_turn F3 (N3 (it, _) (.tail _ (.tail _ (.tail _ (.head _))))).2 k4'
    have N4 : News g L h4 [(16, tabObj ps3), (cc, occ), (c1, o1), (it, ritObj (0 + ((i + 1 : Nat) : Int) * 1) ((9 : Nat) - ((i + 1 : Nat) : Int)))] := news_it (P := [(16, tabObj ps3), (cc, occ), (c1, o1)]) (r := []) N3 k4' st4 (by
        intro q hq
        simp only [List.mem_cons, List.not_mem_nil, or_false] at hq
        rcases hq with rfl | rfl | rfl
        · exact hne16.symm
        · exact ncc
        · exact hnec1.symm) (fun q hq => nomatch hq)
    refine wpAny_assign_Name (wpAny_storeName_local rfl F4.ns (fun h5 hn5 hs5 => ?_) rfl)
    have F5 : Fr g L h5 (rdM f r it t (some (.str (wholeS tg n₀ m i) tv)) (some (.int i tv4))) := fr_map (fr_store F4 hn5 hs5) rd_map1
    have N5 := news_store N4 hs5
    have hxi : HeadIn (wholeS tg n₀ m i) i := headIn_whole (by omega)
    have nrest : ∀ q ∈ [(it, ritObj (0 + ((i + 1 : Nat) : Int) * 1) ((9 : Nat) - ((i + 1 : Nat) : Int)))], q.1 ≠ 16 := by
      intro q hq
      rw [List.mem_singleton.mp hq]; exact hne16
    clear F1 N1 F3 N3 F4 N4 hn5 hs5 hit z16 zc1 zit k4 st4
    (try dsimp only)
    (repeat' (first | (k_unfold; (try dsimp only)) | ((first | with_reducible show wpAny _ _ _ _ _ _ | with_reducible show @ite _ _ _ _ _ | with_reducible show And _ _); (first | (k_here; (with_reducible show wpAny _ _ (callWith _ (Value.ref _) [] (backTo _ (starEach (_ :: _) _)) []) _ _ _); k_dflt (refine' callWith_F ?k1 ?_; (case k1 => exact fnAt_walk (by k_asm) (by assumption)); k_whole)) | (k_here; (with_reducible show wpAny _ _ (call (Value.ref _) [Value.str _ _, Value.int _ _]) _ _ _); k_dflt (refine' k_walked ?F ?N (by assumption) (by assumption) (by assumption) (by assumption) (by assumption) (by assumption) (Ok.less (Ok.deeper (ok_AL (n := 8) (by decide))) (by decide)) (by assumption) (by assumption) (by assumption) (by assumption) (by assumption) (by assumption) (by assumption) _ _ _ _ (by assumption) (by assumption) ?_; (case F => k_asm); (case N => k_asm)); k_whole; intro _ _ _ _ _ _ _ _ _ _ _) | (k_here; (with_reducible show wpAny _ _ (compareOp CmpOp.Is (Value.str _ _) (Value.ref _)) _ _ _); refine wpAny_is_other (by rfl) (by intro x; cases x) ?_) | walk1)) | (dsimp only; (first | with_reducible show wpAny _ _ _ _ _ _ | with_reducible show @ite _ _ _ _ _ | with_reducible show And _ _); (first | (k_here; (with_reducible show wpAny _ _ (callWith _ (Value.ref _) [] (backTo _ (starEach (_ :: _) _)) []) _ _ _); k_dflt (refine' callWith_F ?k1 ?_; (case k1 => exact fnAt_walk (by k_asm) (by assumption)); k_whole)) | (k_here; (with_reducible show wpAny _ _ (call (Value.ref _) [Value.str _ _, Value.int _ _]) _ _ _); k_dflt (refine' k_walked ?F ?N (by assumption) (by assumption) (by assumption) (by assumption) (by assumption) (by assumption) (Ok.less (Ok.deeper (ok_AL (n := 8) (by decide))) (by decide)) (by assumption) (by assumption) (by assumption) (by assumption) (by assumption) (by assumption) (by assumption) _ _ _ _ (by assumption) (by assumption) ?_; (case F => k_asm); (case N => k_asm)); k_whole; intro _ _ _ _ _ _ _ _ _ _ _) | (k_here; (with_reducible show wpAny _ _ (compareOp CmpOp.Is (Value.str _ _) (Value.ref _)) _ _ _); refine wpAny_is_other (by rfl) (by intro x; cases x) ?_) | walk1))))
    · exact fnAt_walk F5 fng
    rename News _ _ _ _ => Nq
    rename Fr _ _ _ _ => Fq
    rename (AllBare (Shared.gens _) → AllBare _) => bq0
    rename (AllBare _ → AllBare _) => bq
    rename TabOk _ _ _ _ _ => tbq
    exact ⟨9 + 1 - (i + 1), by omega, (hI1 _ _).2 ⟨i + 1, _, _, _, _, _, _, _, _, rfl, hlt, rfl, fr_map Fq rd_map2, Nq, tbq, fun z => bq (bare z)⟩⟩
  · have : i = 9 := by omega
    subst this
    refine Wk.done _ _ _ hit (fun h4 tk4 k4 => ?_)
    dsimp only at k4 ⊢
    have k4' : ∀ b x, b ≠ it → h3.get? b = some x → h4.get? b = some x := fun b x n e => k4 b x (fun q => n (List.mem_singleton.mp q)) e
    have F4 := fr_turn F3 (N3 (it, _) (.tail _ (.tail _ (.tail _ (.head _))))).2 k4'
    have N4 : News g L h4 [(16, tabObj ps3), (cc, occ), (c1, o1)] := fun q hq => by
      have z : q ∈ [(16, tabObj ps3), (cc, occ), (c1, o1), (it, ritObj (0 + ((9 : Nat) : Int) * 1) ((9 : Nat) - ((9 : Nat) : Int)))] := List.mem_append_left [(it, _)] hq
      refine ⟨k4' _ _ ?_ (N3 q z).1, (N3 q z).2⟩
      simp only [List.mem_cons, List.not_mem_nil, or_false] at hq
      rcases hq with rfl | rfl | rfl
      · exact hne16.symm
      · exact ncc
      · exact hnec1.symm
    clear F1 N1 F3 N3 hit z16 zc1 zit
    (try dsimp only)
    (repeat' (first | (k_unfold; (try dsimp only)) | ((first | with_reducible show wpAny _ _ _ _ _ _ | with_reducible show @ite _ _ _ _ _ | with_reducible show And _ _); (first | (k_here; (with_reducible show wpAny _ _ (callWith _ (Value.ref _) [] (backTo _ (starEach (_ :: _) _)) []) _ _ _); k_dflt (refine' callWith_F ?k1 ?_; (case k1 => exact fnAt_walk (by k_asm) (by assumption)); k_whole)) | (k_here; (with_reducible show wpAny _ _ (call (Value.ref _) [Value.str _ _, Value.int _ _]) _ _ _); k_dflt (refine' k_walked ?F ?N (by assumption) (by assumption) (by assumption) (by assumption) (by assumption) (by assumption) (Ok.less (Ok.deeper (ok_AL (n := 8) (by decide))) (by decide)) (by assumption) (by assumption) (by assumption) (by assumption) (by assumption) (by assumption) (by assumption) _ _ _ _ (by assumption) (by assumption) ?_; (case F => k_asm); (case N => k_asm)); k_whole; intro _ _ _ _ _ _ _ _ _ _ _) | (k_here; (with_reducible show wpAny _ _ (compareOp CmpOp.Is (Value.str _ _) (Value.ref _)) _ _ _); refine wpAny_is_other (by rfl) (by intro x; cases x) ?_) | walk1)) | (dsimp only; (first | with_reducible show wpAny _ _ _ _ _ _ | with_reducible show @ite _ _ _ _ _ | with_reducible show And _ _); (first | (k_here; (with_reducible show wpAny _ _ (callWith _ (Value.ref _) [] (backTo _ (starEach (_ :: _) _)) []) _ _ _); k_dflt (refine' callWith_F ?k1 ?_; (case k1 => exact fnAt_walk (by k_asm) (by assumption)); k_whole)) | (k_here; (with_reducible show wpAny _ _ (call (Value.ref _) [Value.str _ _, Value.int _ _]) _ _ _); k_dflt (refine' k_walked ?F ?N (by assumption) (by assumption) (by assumption) (by assumption) (by assumption) (by assumption) (Ok.less (Ok.deeper (ok_AL (n := 8) (by decide))) (by decide)) (by assumption) (by assumption) (by assumption) (by assumption) (by assumption) (by assumption) (by assumption) _ _ _ _ (by assumption) (by assumption) ?_; (case F => k_asm); (case N => k_asm)); k_whole; intro _ _ _ _ _ _ _ _ _ _ _) | (k_here; (with_reducible show wpAny _ _ (compareOp CmpOp.Is (Value.str _ _) (Value.ref _)) _ _ _); refine wpAny_is_other (by rfl) (by intro x; cases x) ?_) | walk1))))
    refine hR1 _ _ ?_
    (try dsimp only)
    (repeat' (first | (k_unfold; (try dsimp only)) | ((first | with_reducible show wpAny _ _ _ _ _ _ | with_reducible show @ite _ _ _ _ _ | with_reducible show And _ _); (first | (k_here; (with_reducible show wpAny _ _ (callWith _ (Value.ref _) [] (backTo _ (starEach (_ :: _) _)) []) _ _ _); k_dflt (refine' callWith_F ?k1 ?_; (case k1 => exact fnAt_walk (by k_asm) (by assumption)); k_whole)) | (k_here; (with_reducible show wpAny _ _ (call (Value.ref _) [Value.str _ _, Value.int _ _]) _ _ _); k_dflt (refine' k_walked ?F ?N (by assumption) (by assumption) (by assumption) (by assumption) (by assumption) (by assumption) (Ok.less (Ok.deeper (ok_AL (n := 8) (by decide))) (by decide)) (by assumption) (by assumption) (by assumption) (by assumption) (by assumption) (by assumption) (by assumption) _ _ _ _ (by assumption) (by assumption) ?_; (case F => k_asm); (case N => k_asm)); k_whole; intro _ _ _ _ _ _ _ _ _ _ _) | (k_here; (with_reducible show wpAny _ _ (compareOp CmpOp.Is (Value.str _ _) (Value.ref _)) _ _ _); refine wpAny_is_other (by rfl) (by intro x; cases x) ?_) | walk1)) | (dsimp only; (first | with_reducible show wpAny _ _ _ _ _ _ | with_reducible show @ite _ _ _ _ _ | with_reducible show And _ _); (first | (k_here; (with_reducible show wpAny _ _ (callWith _ (Value.ref _) [] (backTo _ (starEach (_ :: _) _)) []) _ _ _); k_dflt (refine' callWith_F ?k1 ?_; (case k1 => exact fnAt_walk (by k_asm) (by assumption)); k_whole)) | (k_here; (with_reducible show wpAny _ _ (call (Value.ref _) [Value.str _ _, Value.int _ _]) _ _ _); k_dflt (refine' k_walked ?F ?N (by assumption) (by assumption) (by assumption) (by assumption) (by assumption) (by assumption) (Ok.less (Ok.deeper (ok_AL (n := 8) (by decide))) (by decide)) (by assumption) (by assumption) (by assumption) (by assumption) (by assumption) (by assumption) (by assumption) _ _ _ _ (by assumption) (by assumption) ?_; (case F => k_asm); (case N => k_asm)); k_whole; intro _ _ _ _ _ _ _ _ _ _ _) | (k_here; (with_reducible show wpAny _ _ (compareOp CmpOp.Is (Value.str _ _) (Value.ref _)) _ _ _); refine wpAny_is_other (by rfl) (by intro x; cases x) ?_) | walk1))))
    rename News _ _ _ _ => Nq
    rename Fr _ _ _ _ => Fq
    exact hret _ _ _ _ (kp16 _ _ Fq (Nq (c1, o1) (by k_mem)).1) (tb.1 _ (Nq _ (.head _)).1 (Nq _ (.tail _ (.head _))).1 Fq.keep) bare
end
end Mine
end

section
open PySem PySem.W PyProof.Rows PySem.Spec PySem.Calls PySem.W.X
set_option maxRecDepth 100000
set_option maxHeartbeats 8000000
namespace Mine
/-- the code points of signs as they are written -/
noncomputable def code (l : List Str) : List Nat := (l.map fun x => cp (wr x)).flatten
theorem code_cons (a : Str) (l : List Str) : code (a :: l) = cp (wr a) ++ code l := rfl
theorem code_snoc (l : List Str) (a : Str) : code (l ++ [a]) = code l ++ cp (wr a) := by simp [code]
theorem wr_form : ∀ x ∈ signs, (x = Str.ofString "-" ∧ cp (wr x) = [45, 125]) ∨ (∃ c, c ≠ 125 ∧ cp x = [c] ∧ cp (wr x) = [45, c, 125]) := by
  intro x hx
  simp only [signs, List.mem_cons, List.not_mem_nil, or_false] at hx
  rcases hx with rfl | rfl | rfl | rfl | rfl | rfl | rfl | rfl
  · exact .inl ⟨rfl, by decide +kernel⟩
  · exact .inr ⟨114, by decide, by decide +kernel, by decide +kernel⟩
  · exact .inr ⟨119, by decide, by decide +kernel, by decide +kernel⟩
  · exact .inr ⟨120, by decide, by decide +kernel, by decide +kernel⟩
  · exact .inr ⟨115, by decide, by decide +kernel, by decide +kernel⟩
  · exact .inr ⟨83, by decide, by decide +kernel, by decide +kernel⟩
  · exact .inr ⟨116, by decide, by decide +kernel, by decide +kernel⟩
  · exact .inr ⟨84, by decide, by decide +kernel, by decide +kernel⟩
theorem wr_pre {a b : Str} (ha : a ∈ signs) (hb : b ∈ signs) {r r' : List Nat} : cp (wr a) ++ r <+: cp (wr b) ++ r' ↔ a = b ∧ r <+: r' := by
  rcases wr_form a ha with ⟨ea, ca⟩ | ⟨c, nc, pa, ca⟩ <;> rcases wr_form b hb with ⟨eb, cb⟩ | ⟨d, nd, pb, cb⟩
  · rw [ca, cb, ea, eb]
    simp [List.cons_prefix_cons]
  · rw [ca, cb]
    constructor
    · intro h
      simp only [List.cons_append, List.nil_append, List.cons_prefix_cons] at h
      exact absurd h.2.1.symm nd
    · rintro ⟨e, _⟩
      rw [e, cb] at ca; cases ca
  · rw [ca, cb]
    constructor
    · intro h
      simp only [List.cons_append, List.nil_append, List.cons_prefix_cons] at h
      exact absurd h.2.1 nc
    · rintro ⟨e, _⟩
      rw [e, cb] at ca; cases ca
  · rw [ca, cb]
    constructor
    · intro h
      simp only [List.cons_append, List.nil_append, List.cons_prefix_cons] at h
      exact ⟨cp_ext (by rw [pa, pb, h.2.1]), h.2.2.2⟩
    · rintro ⟨e, h⟩
      rw [e, pb] at pa
      cases pa
      simp only [List.cons_append, List.nil_append, List.cons_prefix_cons, true_and]
      exact h
theorem code_pre : ∀ {as bs : List Str}, (∀ a ∈ as, a ∈ signs) → (∀ b ∈ bs, b ∈ signs) → (code as <+: code bs ↔ as <+: bs)
  | [], bs, _, _ => by simp [code]
  | a :: as, [], ha, _ => by
    constructor
    · intro h
      have e : code (a :: as) = [] := List.prefix_nil.mp h
      rw [code_cons] at e
      rcases wr_form a (ha a (.head _)) with ⟨_, ca⟩ | ⟨c, _, _, ca⟩ <;> rw [ca] at e <;> cases e
    · intro h
      cases List.prefix_nil.mp h
  | a :: as, b :: bs, ha, hb => by
    rw [code_cons, code_cons, wr_pre (ha a (.head _)) (hb b (.head _)), code_pre (fun x hx => ha x (.tail _ hx)) (fun x hx => hb x (.tail _ hx)), List.cons_prefix_cons]
theorem snoc_pre {α : Type} {a : α} : ∀ {hs l : List α}, (hs ++ [a] <+: l ↔ hs <+: l ∧ l[hs.length]? = some a)
  | [], [] => by simp
  | [], b :: l => by
    simp [List.cons_prefix_cons]
    exact eq_comm
  | h :: hs, [] => by simp
  | h :: hs, b :: l => by
    rw [List.cons_append, List.cons_prefix_cons, List.cons_prefix_cons, snoc_pre (hs := hs) (l := l)]
    simp [and_assoc]
/-- the nine signs of a mode -/
noncomputable def sgs (m : Int) : List Str := (List.range 9).map fun k => fmc m (k + 1)
theorem sgs_in (m : Int) : ∀ a ∈ sgs m, a ∈ signs := by
  intro a h
  obtain ⟨k, hk, rfl⟩ := List.mem_map.mp h
  exact fmc_sign m k (List.mem_range.mp hk)
theorem sgs_get (m : Int) {k : Nat} (h : k < 9) : (sgs m)[k]? = some (fmc m (k + 1)) := by simp [sgs, h]
theorem cp_tag (m : Int) : cp (tagS m) = code (sgs m) := by
  unfold tagS
  rw [cp_join0]
  unfold tagL code sgs
  rw [List.map_map, List.map_map]
  rfl
theorem pz_iff (tg : Nat → Str) (x : Str) (i : Nat) : pzOf tg x i = true ↔ cp x <+: cp (tg i) := by
  unfold pzOf
  rw [beq_iff_eq, List.prefix_iff_eq_take, cp_len, ← cp_take]
  exact ⟨fun h => by rw [h], fun h => cp_ext h.symm⟩
theorem pz_code {md : Nat → Int} {x : Str} {hs : List Str} (e : cp x = code hs) (hh : ∀ a ∈ hs, a ∈ signs) (i : Nat) : pzOf (fun i => tagS (md i)) x i = true ↔ hs <+: sgs (md i) := by
  rw [pz_iff, e, cp_tag, code_pre hh (sgs_in _)]
theorem fnd_iff {tg : Nat → Str} {n : Nat} {x : Str} : fndB tg n x = true ↔ ∃ i, i < n ∧ pzOf tg x i = true := by
  unfold fndB passing
  rw [List.drop_zero]
  cases q : (List.range n).filter (pzOf tg x) with
  | nil =>
    constructor
    · intro h; simp at h
    · rintro ⟨i, hi, hp⟩
      have : i ∈ (List.range n).filter (pzOf tg x) := List.mem_filter.mpr ⟨List.mem_range.mpr hi, hp⟩
      rw [q] at this; cases this
  | cons a r =>
    have : a ∈ (List.range n).filter (pzOf tg x) := by rw [q]; exact .head _
    rw [List.mem_filter] at this
    exact ⟨fun _ => ⟨a, List.mem_range.mp this.1, this.2⟩, fun _ => rfl⟩
/-- how far two signs are apart -/
noncomputable def dsg (k : Nat) (y z : Str) : Nat := (may k).idxOf y ^^^ (may k).idxOf z
noncomputable def bas (k : Nat) : Nat := if k % 3 < 2 then 2 else 4
noncomputable def dig (m x : Int) (k : Nat) : Nat := dsg k (fmc m (k + 1)) (fmc x (k + 1))
noncomputable def val (m x : Int) : Nat → Nat
  | 0 => 0
  | k + 1 => val m x k * bas k + dig m x k
theorem wish_down : ∀ k, k < 9 → ∀ y ∈ may k, (wish y k).Pairwise (fun a b => dsg k y b ≤ dsg k y a) := by decide +kernel
theorem wish_all : ∀ k, k < 9 → ∀ y ∈ may k, ∀ z ∈ may k, z ∈ wish y k ∧ dsg k y z < bas k := by decide +kernel
theorem wish_may : ∀ k, k < 9 → ∀ y ∈ may k, ∀ z ∈ wish y k, z ∈ may k := by decide +kernel
theorem dsg_inj : ∀ k, k < 9 → ∀ y ∈ may k, ∀ z ∈ may k, ∀ z' ∈ may k, dsg k y z = dsg k y z' → z = z' := by decide +kernel
theorem find_top {α : Type} {f : α → Nat} {q : α → Bool} : ∀ {l : List α} {a : α}, l.Pairwise (fun a b => f b ≤ f a) → l.find? q = some a → ∀ c ∈ l, q c = true → f c ≤ f a
  | [], a, _, h, _, _, _ => by simp at h
  | b :: r, a, p, h, c, hc, hq => by
    rw [List.pairwise_cons] at p
    rw [List.find?_cons] at h
    cases qb : q b with
    | true =>
      rw [qb] at h
      cases h
      rcases List.mem_cons.mp hc with rfl | hc
      · exact Nat.le_refl _
      · exact p.1 c hc
    | false =>
      rw [qb] at h
      rcases List.mem_cons.mp hc with rfl | hc
      · rw [qb] at hq; cases hq
      · exact find_top p.2 h c hc hq
structure GInv (n : Nat) (md : Nat → Int) (m : Int) (k : Nat) (x : Str) (hs : List Str) (M : Nat) : Prop where
  e : cp x = code hs
  ln : hs.length = k
  sg : ∀ a ∈ hs, a ∈ signs
  ex : ∃ i, i < n ∧ val m (md i) k = M
  le : ∀ i, i < n → val m (md i) k ≤ M
  iff : ∀ i, i < n → (val m (md i) k = M ↔ hs <+: sgs (md i))
theorem ginv_step {n : Nat} {md : Nat → Int} {m : Int} {k : Nat} {x : Str} {hs : List Str} {M : Nat} (hk : k < 9) (g : GInv n md m k x hs M) : ∃ hs' M', GInv n md m (k + 1) (walkedS (fun i => tagS (md i)) n m x k) hs' M' := by
  have hy := may_fmc m k hk
  have hP : ∀ sg ∈ signs, (fndB (fun i => tagS (md i)) n (x ++ wr sg) = true ↔ ∃ i, i < n ∧ val m (md i) k = M ∧ fmc (md i) (k + 1) = sg) := fun sg hsg => by
    have e' : cp (x ++ wr sg) = code (hs ++ [sg]) := by rw [cp_app, g.e, code_snoc]
    have hh' : ∀ a ∈ hs ++ [sg], a ∈ signs := fun a ha => (List.mem_append.mp ha).elim (g.sg a) (fun h => by rw [List.mem_singleton.mp h]; exact hsg)
    rw [fnd_iff]
    constructor
    · rintro ⟨i, hi, h⟩
      rw [pz_code e' hh', snoc_pre, g.ln, sgs_get _ hk] at h
      exact ⟨i, hi, (g.iff i hi).mpr h.1, Option.some.inj h.2⟩
    · rintro ⟨i, hi, h1, h2⟩
      refine ⟨i, hi, ?_⟩
      rw [pz_code e' hh', snoc_pre, g.ln, sgs_get _ hk, h2]
      exact ⟨(g.iff i hi).mp h1, rfl⟩
  have hmay : ∀ z ∈ may k, z ∈ signs := fun z hz => wish_signs k hk _ hy z (wish_all k hk _ hy z hz).1
  obtain ⟨i0, hi0, e0⟩ := g.ex
  have z0 := may_fmc (md i0) k hk
  unfold walkedS
  cases q : (wish (fmc m (k + 1)) k).find? (fun sg => fndB (fun i => tagS (md i)) n (x ++ wr sg)) with
  | none =>
    rw [List.find?_eq_none] at q
    exact absurd ((hP _ (hmay _ z0)).mpr ⟨i0, hi0, e0, rfl⟩) (q _ (wish_all k hk _ hy _ z0).1)
  | some sg =>
    have hsw := List.mem_of_find?_eq_some q
    have hsm := wish_may k hk _ hy sg hsw
    have hss := hmay sg hsm
    have hps : fndB (fun i => tagS (md i)) n (x ++ wr sg) = true := by simpa using List.find?_some q
    have top := find_top (wish_down k hk _ hy) q
    obtain ⟨i1, hi1, e1, e2⟩ := (hP sg hss).mp hps
    have hb : 0 < bas k := by unfold bas; split <;> decide
    have low : ∀ i, i < n → val m (md i) k ≠ M → val m (md i) (k + 1) < M * bas k := fun i hi ne => by
      have l := g.le i hi
      have l2 : val m (md i) k + 1 ≤ M := by omega
      have d : dig m (md i) k < bas k := (wish_all k hk _ hy _ (may_fmc (md i) k hk)).2
      have l3 := Nat.mul_le_mul_right (bas k) l2
      rw [Nat.succ_mul] at l3
      show val m (md i) k * bas k + dig m (md i) k < M * bas k
      omega
    have up : ∀ i, i < n → val m (md i) k = M → val m (md i) (k + 1) = M * bas k + dsg k (fmc m (k + 1)) (fmc (md i) (k + 1)) := fun i hi e => by
      show val m (md i) k * bas k + dig m (md i) k = _
      rw [e]; rfl
    refine ⟨hs ++ [sg], M * bas k + dsg k (fmc m (k + 1)) sg, ?_, ?_, ?_, ⟨i1, hi1, by rw [up i1 hi1 e1, e2]⟩, fun i hi => ?_, fun i hi => ?_⟩
    · show cp (x ++ wr sg) = _
      rw [cp_app, g.e, code_snoc]
    · rw [List.length_append, g.ln]; rfl
    · exact fun a ha => (List.mem_append.mp ha).elim (g.sg a) (fun h => by rw [List.mem_singleton.mp h]; exact hss)
    · by_cases e : val m (md i) k = M
      · rw [up i hi e]
        have zi := may_fmc (md i) k hk
        exact Nat.add_le_add_left (top _ (wish_all k hk _ hy _ zi).1 ((hP _ (hmay _ zi)).mpr ⟨i, hi, e, rfl⟩)) _
      · have := low i hi e
        omega
    · rw [snoc_pre, g.ln, sgs_get _ hk, ← g.iff i hi]
      constructor
      · intro h
        by_cases e : val m (md i) k = M
        · rw [up i hi e] at h
          exact ⟨e, by rw [dsg_inj k hk _ hy _ (may_fmc (md i) k hk) _ hsm (by omega)]⟩
        · have := low i hi e
          omega
      · rintro ⟨e, h⟩
        rw [up i hi e, Option.some.inj h]
theorem ginv_whole {n : Nat} {md : Nat → Int} {m : Int} (hn : 0 < n) : ∀ {k : Nat}, k ≤ 9 → ∃ hs M, GInv n md m k (wholeS (fun i => tagS (md i)) n m k) hs M
  | 0, _ => ⟨[], 0, (show cp (Str.ofString "") = [] by decide +kernel), rfl, fun a h => (nomatch h), ⟨0, hn, rfl⟩, fun i _ => Nat.le_refl _, fun i _ => ⟨fun _ => List.nil_prefix, fun _ => rfl⟩⟩
  | k + 1, h => by
    obtain ⟨hs, M, g⟩ := ginv_whole (n := n) (md := md) (m := m) hn (k := k) (by omega)
    exact ginv_step (by omega) g
theorem whole_ok {n : Nat} {md : Nat → Int} {m : Int} (hn : 0 < n) : HeadOk (wholeS (fun i => tagS (md i)) n m 9) := by
  obtain ⟨hs, M, g⟩ := ginv_whole (n := n) (md := md) (m := m) hn (k := 9) (Nat.le_refl _)
  have hi := headIn_whole (tg := fun i => tagS (md i)) (n₀ := n) (m := m) (k := 9) (Nat.le_refl _)
  have ne : hs ≠ [] := fun q => by have := g.ln; rw [q] at this; cases this
  refine ⟨?_, ?_, by have := hi.ln; omega⟩
  · rcases hi.st with e | e
    · rw [g.e] at e
      cases hs with
      | nil => exact absurd rfl ne
      | cons a r =>
        rw [code_cons] at e
        obtain ⟨⟨q, eq⟩, _⟩ := wr_cp a (g.sg a (.head _))
        rw [eq] at e; cases e
    · exact e
  · obtain ⟨r, a, rfl⟩ : ∃ r a, hs = r ++ [a] := ⟨hs.dropLast, hs.getLast ne, (List.dropLast_concat_getLast ne).symm⟩
    obtain ⟨_, ⟨q, eq⟩⟩ := wr_cp a (g.sg a (List.mem_append_right _ (.head _)))
    rw [g.e, code_snoc, eq]
    exact ⟨code r ++ q, by rw [List.append_assoc]⟩
/-- the files found are those whose value is the greatest -/
theorem whole_found {n : Nat} {md : Nat → Int} {m : Int} (hn : 0 < n) : ∃ M, (∃ i, i < n ∧ val m (md i) 9 = M) ∧ (∀ i, i < n → val m (md i) 9 ≤ M) ∧ passing (pzOf (fun i => tagS (md i)) (wholeS (fun i => tagS (md i)) n m 9)) n 0 = (List.range n).filter (fun i => val m (md i) 9 == M) := by
  obtain ⟨hs, M, g⟩ := ginv_whole (n := n) (md := md) (m := m) hn (k := 9) (Nat.le_refl _)
  refine ⟨M, g.ex, g.le, ?_⟩
  unfold passing
  rw [List.drop_zero]
  refine List.filter_congr fun i hi => ?_
  have h := g.iff i (List.mem_range.mp hi)
  rw [Bool.eq_iff_iff, pz_code g.e g.sg, beq_iff_eq]
  exact h.symm
end Mine
end

section
open PySem PySem.W PyProof.Rows PySem.Spec PySem.Calls PySem.W.X
set_option maxRecDepth 100000
set_option maxHeartbeats 8000000
namespace Mine
/-- the bit j of n -/
noncomputable def bt (n j : Nat) : Nat := n / 2 ^ j % 2
theorem bt_le (n j : Nat) : bt n j < 2 := Nat.mod_lt _ (by decide)
theorem bt_test (n j : Nat) : n.testBit j = decide (bt n j = 1) := Nat.testBit_eq_decide_div_mod_eq
theorem fbit (n j : Nat) : Int.fmod (Int.fdiv (n : Int) (2 ^ j)) 2 = (bt n j : Nat) := by
  have e : ((2 : Int) ^ j) = ((2 ^ j : Nat) : Int) := by simp
  rw [e, Int.fdiv_eq_ediv_of_nonneg _ (Int.natCast_nonneg _), Int.fmod_eq_emod_of_nonneg _ (by decide)]
  unfold bt
  omega
theorem and_one (n j : Nat) : (Builtin.bitAnd (n : Int) ((2 ^ j : Nat) : Int) == ((2 ^ j : Nat) : Int)) = decide (bt n j = 1) := by
  unfold Builtin.bitAnd
  have h1 : decide (0 ≤ (n : Int)) = true := by simp
  have h2 : decide (0 ≤ ((2 ^ j : Nat) : Int)) = true := decide_eq_true (Int.natCast_nonneg _)
  rw [h1, h2]
  dsimp only
  rw [Int.toNat_natCast, Int.toNat_natCast, ← bt_test, Bool.eq_iff_iff, beq_iff_eq]
  constructor
  · intro q
    have q' : n &&& 2 ^ j = 2 ^ j := by omega
    have tj := congrArg (fun z => Nat.testBit z j) q'
    simp only [Nat.testBit_and, Nat.testBit_two_pow_self, Bool.and_true] at tj
    exact tj
  · intro tj
    congr 1
    refine Nat.eq_of_testBit_eq fun k => ?_
    rw [Nat.testBit_and, Nat.testBit_two_pow]
    by_cases kj : j = k
    · subst kj; simp [tj]
    simp [kj]
theorem and_two (n i j : Nat) (h : j < i) : (Builtin.bitAnd (n : Int) ((2 ^ i + 2 ^ j : Nat) : Int) == ((2 ^ i + 2 ^ j : Nat) : Int)) = (decide (bt n i = 1) && decide (bt n j = 1)) := by
  unfold Builtin.bitAnd
  have h1 : decide (0 ≤ (n : Int)) = true := by simp
  have h2 : decide (0 ≤ ((2 ^ i + 2 ^ j : Nat) : Int)) = true := decide_eq_true (Int.natCast_nonneg _)
  rw [h1, h2]
  dsimp only
  rw [Int.toNat_natCast, Int.toNat_natCast, ← bt_test, ← bt_test]
  have e : 2 ^ i + 2 ^ j = 2 ^ i ||| 2 ^ j := by
    have z := Nat.two_pow_add_eq_or_of_lt (i := i) (b := 2 ^ j) (Nat.pow_lt_pow_right (by decide) h) 1
    rw [Nat.mul_one] at z
    exact z
  rw [e, Bool.eq_iff_iff, beq_iff_eq, Bool.and_eq_true]
  constructor
  · intro q
    have q' : n &&& (2 ^ i ||| 2 ^ j) = 2 ^ i ||| 2 ^ j := by omega
    have ti := congrArg (fun z => Nat.testBit z i) q'
    have tj := congrArg (fun z => Nat.testBit z j) q'
    simp only [Nat.testBit_and, Nat.testBit_or, Nat.testBit_two_pow_self, Bool.true_or, Bool.or_true, Bool.and_true] at ti tj
    exact ⟨ti, tj⟩
  · rintro ⟨ti, tj⟩
    congr 1
    refine Nat.eq_of_testBit_eq fun k => ?_
    rw [Nat.testBit_and, Nat.testBit_or, Nat.testBit_two_pow, Nat.testBit_two_pow]
    by_cases ki : i = k
    · subst ki; simp [ti]
    by_cases kj : j = k
    · subst kj; simp [tj]
    simp [ki, kj]
/-- the value of a mode's rights, by its bits -/
theorem wgt_bits (n : Nat) : wgt (n : Int) = ((((((((((((0 * 2 + bt n 8) * 2 + bt n 7) * 2 + bt n 6) * 2 + bt n 11) * 2 + bt n 5) * 2 + bt n 4) * 2 + bt n 3) * 2 + bt n 10) * 2 + bt n 2) * 2 + bt n 1) * 2 + bt n 0) * 2 + bt n 9 : Nat) := by
  have e : wgt (n : Int) = ((((((((((((0 * 2 + Int.fmod (Int.fdiv (n : Int) (2 ^ 8)) 2) * 2 + Int.fmod (Int.fdiv (n : Int) (2 ^ 7)) 2) * 2 + Int.fmod (Int.fdiv (n : Int) (2 ^ 6)) 2) * 2 + Int.fmod (Int.fdiv (n : Int) (2 ^ 11)) 2) * 2
    + Int.fmod (Int.fdiv (n : Int) (2 ^ 5)) 2) * 2 + Int.fmod (Int.fdiv (n : Int) (2 ^ 4)) 2) * 2 + Int.fmod (Int.fdiv (n : Int) (2 ^ 3)) 2) * 2 + Int.fmod (Int.fdiv (n : Int) (2 ^ 10)) 2) * 2
    + Int.fmod (Int.fdiv (n : Int) (2 ^ 2)) 2) * 2 + Int.fmod (Int.fdiv (n : Int) (2 ^ 1)) 2) * 2 + Int.fmod (Int.fdiv (n : Int) (2 ^ 0)) 2) * 2 + Int.fmod (Int.fdiv (n : Int) (2 ^ 9)) 2) := by rfl
  rw [e]
  simp only [fbit]
  push_cast
  rfl
theorem pick_one (n : Nat) (c : Int) (x d : Str) {b : Bool} (h : (Builtin.bitAnd (n : Int) c == c) = b) : pick (fun b => Builtin.bitAnd (n : Int) b == b) d [(c, x)] = if b = true then x else d := by
  show (if (Builtin.bitAnd (n : Int) c == c) = true then x else d) = _
  rw [h]
theorem pick_three (n : Nat) (c c' c'' : Int) (x y z d : Str) {b b' b'' : Bool} (h : (Builtin.bitAnd (n : Int) c == c) = b) (h' : (Builtin.bitAnd (n : Int) c' == c') = b') (h'' : (Builtin.bitAnd (n : Int) c'' == c'') = b'') :
    pick (fun b => Builtin.bitAnd (n : Int) b == b) d [(c, x), (c', y), (c'', z)] = if b = true then x else if b' = true then y else if b'' = true then z else d := by
  show (if (Builtin.bitAnd (n : Int) c == c) = true then x else if (Builtin.bitAnd (n : Int) c' == c') = true then y else if (Builtin.bitAnd (n : Int) c'' == c'') = true then z else d) = _
  rw [h, h', h'']
/-- the place of a sign among those that may stand at k -/
noncomputable def plc (n : Nat) (k : Nat) : Nat := (may k).idxOf (fmc (n : Int) (k + 1))
theorem two_ways {n j : Nat} : bt n j = 0 ∨ bt n j = 1 := by have := bt_le n j; omega
theorem plc0 (n : Nat) : plc n 0 = bt n 8 := by
  unfold plc fmc
  rw [if_neg (by decide)]
  show (may 0).idxOf (pick (fun b => Builtin.bitAnd (n : Int) b == b) _ [(256, Str.ofString "r")]) = _
  rw [pick_one n 256 _ _ (and_one n 8)]
  rcases two_ways (n := n) (j := 8) with e | e <;> rw [e] <;> decide +kernel
theorem plc1 (n : Nat) : plc n 1 = bt n 7 := by
  unfold plc fmc
  rw [if_neg (by decide)]
  show (may 1).idxOf (pick (fun b => Builtin.bitAnd (n : Int) b == b) _ [(128, Str.ofString "w")]) = _
  rw [pick_one n 128 _ _ (and_one n 7)]
  rcases two_ways (n := n) (j := 7) with e | e <;> rw [e] <;> decide +kernel
theorem plc2 (n : Nat) : plc n 2 = 2 * bt n 6 + bt n 11 := by
  unfold plc fmc
  rw [if_neg (by decide)]
  show (may 2).idxOf (pick (fun b => Builtin.bitAnd (n : Int) b == b) _ [(2112, Str.ofString "s"), (2048, Str.ofString "S"), (64, Str.ofString "x")]) = _
  rw [pick_three n 2112 2048 64 _ _ _ _ (and_two n 11 6 (by decide)) (and_one n 11) (and_one n 6)]
  rcases two_ways (n := n) (j := 6) with e | e <;> rcases two_ways (n := n) (j := 11) with e' | e' <;> rw [e, e'] <;> decide +kernel
theorem plc3 (n : Nat) : plc n 3 = bt n 5 := by
  unfold plc fmc
  rw [if_neg (by decide)]
  show (may 3).idxOf (pick (fun b => Builtin.bitAnd (n : Int) b == b) _ [(32, Str.ofString "r")]) = _
  rw [pick_one n 32 _ _ (and_one n 5)]
  rcases two_ways (n := n) (j := 5) with e | e <;> rw [e] <;> decide +kernel
theorem plc4 (n : Nat) : plc n 4 = bt n 4 := by
  unfold plc fmc
  rw [if_neg (by decide)]
  show (may 4).idxOf (pick (fun b => Builtin.bitAnd (n : Int) b == b) _ [(16, Str.ofString "w")]) = _
  rw [pick_one n 16 _ _ (and_one n 4)]
  rcases two_ways (n := n) (j := 4) with e | e <;> rw [e] <;> decide +kernel
theorem plc5 (n : Nat) : plc n 5 = 2 * bt n 3 + bt n 10 := by
  unfold plc fmc
  rw [if_neg (by decide)]
  show (may 5).idxOf (pick (fun b => Builtin.bitAnd (n : Int) b == b) _ [(1032, Str.ofString "s"), (1024, Str.ofString "S"), (8, Str.ofString "x")]) = _
  rw [pick_three n 1032 1024 8 _ _ _ _ (and_two n 10 3 (by decide)) (and_one n 10) (and_one n 3)]
  rcases two_ways (n := n) (j := 3) with e | e <;> rcases two_ways (n := n) (j := 10) with e' | e' <;> rw [e, e'] <;> decide +kernel
theorem plc6 (n : Nat) : plc n 6 = bt n 2 := by
  unfold plc fmc
  rw [if_neg (by decide)]
  show (may 6).idxOf (pick (fun b => Builtin.bitAnd (n : Int) b == b) _ [(4, Str.ofString "r")]) = _
  rw [pick_one n 4 _ _ (and_one n 2)]
  rcases two_ways (n := n) (j := 2) with e | e <;> rw [e] <;> decide +kernel
theorem plc7 (n : Nat) : plc n 7 = bt n 1 := by
  unfold plc fmc
  rw [if_neg (by decide)]
  show (may 7).idxOf (pick (fun b => Builtin.bitAnd (n : Int) b == b) _ [(2, Str.ofString "w")]) = _
  rw [pick_one n 2 _ _ (and_one n 1)]
  rcases two_ways (n := n) (j := 1) with e | e <;> rw [e] <;> decide +kernel
theorem plc8 (n : Nat) : plc n 8 = 2 * bt n 0 + bt n 9 := by
  unfold plc fmc
  rw [if_neg (by decide)]
  show (may 8).idxOf (pick (fun b => Builtin.bitAnd (n : Int) b == b) _ [(513, Str.ofString "t"), (512, Str.ofString "T"), (1, Str.ofString "x")]) = _
  rw [pick_three n 513 512 1 _ _ _ _ (and_two n 9 0 (by decide)) (and_one n 9) (and_one n 0)]
  rcases two_ways (n := n) (j := 0) with e | e <;> rcases two_ways (n := n) (j := 9) with e' | e' <;> rw [e, e'] <;> decide +kernel
/-- 1 where the bits part -/
noncomputable def dif (a b j : Nat) : Nat := if bt a j = bt b j then 0 else 1
theorem xor_one (a b j : Nat) : bt a j ^^^ bt b j = dif a b j := by
  unfold dif
  rcases two_ways (n := a) (j := j) with e | e <;> rcases two_ways (n := b) (j := j) with e' | e' <;> rw [e, e'] <;> decide
theorem xor_two (a b i j : Nat) : (2 * bt a i + bt a j) ^^^ (2 * bt b i + bt b j) = 2 * dif a b i + dif a b j := by
  unfold dif
  rcases two_ways (n := a) (j := i) with e | e <;> rcases two_ways (n := b) (j := i) with e' | e' <;> rcases two_ways (n := a) (j := j) with f | f <;> rcases two_ways (n := b) (j := j) with f' | f' <;> rw [e, e', f, f'] <;> decide
theorem val_bits (a b : Nat) : val (a : Int) (b : Int) 9 = ((((((((0 * 2 + dif a b 8) * 2 + dif a b 7) * 4 + (2 * dif a b 6 + dif a b 11)) * 2 + dif a b 5) * 2 + dif a b 4) * 4 + (2 * dif a b 3 + dif a b 10)) * 2 + dif a b 2) * 2 + dif a b 1) * 4 + (2 * dif a b 0 + dif a b 9) := by
  show ((((((((0 * 2 + (plc a 0 ^^^ plc b 0)) * 2 + (plc a 1 ^^^ plc b 1)) * 4 + (plc a 2 ^^^ plc b 2)) * 2 + (plc a 3 ^^^ plc b 3)) * 2 + (plc a 4 ^^^ plc b 4)) * 4 + (plc a 5 ^^^ plc b 5)) * 2 + (plc a 6 ^^^ plc b 6)) * 2 + (plc a 7 ^^^ plc b 7)) * 4 + (plc a 8 ^^^ plc b 8) = _
  rw [plc0, plc0, plc1, plc1, plc2, plc2, plc3, plc3, plc4, plc4, plc5, plc5, plc6, plc6, plc7, plc7, plc8, plc8]
  rw [xor_one, xor_one, xor_one, xor_one, xor_one, xor_one, xor_two, xor_two, xor_two]
theorem sum_fold (f : Int → Int) (q : Int → Prop) [DecidablePred q] : ∀ (ks l : List Int), (List.foldl (fun l' k' => if q k' then l' ++ [f k'] else l') l ks).sum = l.sum + (ks.map fun k => if q k then f k else 0).sum
  | [], l => by simp
  | k :: ks, l => by
    rw [List.foldl_cons, sum_fold f q ks]
    by_cases h : q k
    · simp [h, List.sum_append]; omega
    · simp [h]
noncomputable def wn (n : Nat) : Nat := ((((((((((((0 * 2 + bt n 8) * 2 + bt n 7) * 2 + bt n 6) * 2 + bt n 11) * 2 + bt n 5) * 2 + bt n 4) * 2 + bt n 3) * 2 + bt n 10) * 2 + bt n 2) * 2 + bt n 1) * 2 + bt n 0) * 2 + bt n 9)
/-- a number by its bits, the least first -/
noncomputable def hor : List Nat → Nat
  | [] => 0
  | b :: r => hor r * 2 + b
theorem hor_bit : ∀ (l : List Nat), (∀ b ∈ l, b < 2) → ∀ j, bt (hor l) j = l.getD j 0
  | [], _, j => by simp [hor, bt]
  | b :: r, h, 0 => by
    have hb := h b (.head _)
    show (hor r * 2 + b) / 2 ^ 0 % 2 = b
    omega
  | b :: r, h, j + 1 => by
    have hb := h b (.head _)
    have ih := hor_bit r (fun x hx => h x (.tail _ hx)) j
    show (hor r * 2 + b) / 2 ^ (j + 1) % 2 = r.getD j 0
    have e : (hor r * 2 + b) / 2 = hor r := by omega
    rw [← ih, Nat.pow_succ', ← Nat.div_div_eq_div_mul, e]
    rfl
noncomputable def wl (n : Nat) : List Nat := [bt n 9, bt n 0, bt n 1, bt n 2, bt n 10, bt n 3, bt n 4, bt n 5, bt n 11, bt n 6, bt n 7, bt n 8]
theorem wl_lt (n : Nat) : ∀ b ∈ wl n, b < 2 := fun b hb => by
  have e : ∃ j, b = bt n j := by
    simp only [wl, List.mem_cons, List.not_mem_nil, or_false] at hb
    rcases hb with h | h | h | h | h | h | h | h | h | h | h | h <;> exact ⟨_, h⟩
  obtain ⟨j, rfl⟩ := e
  exact bt_le n j
theorem wn_bit (n j : Nat) : bt (wn n) j = (wl n).getD j 0 := hor_bit (wl n) (wl_lt n) j
theorem wn_bits (n : Nat) : bt (wn n) 11 = bt n 8 ∧ bt (wn n) 10 = bt n 7 ∧ bt (wn n) 9 = bt n 6 ∧ bt (wn n) 8 = bt n 11 ∧ bt (wn n) 7 = bt n 5 ∧ bt (wn n) 6 = bt n 4 ∧ bt (wn n) 5 = bt n 3 ∧ bt (wn n) 4 = bt n 10 ∧ bt (wn n) 3 = bt n 2 ∧ bt (wn n) 2 = bt n 1 ∧ bt (wn n) 1 = bt n 0 ∧ bt (wn n) 0 = bt n 9 :=
  ⟨wn_bit n 11, wn_bit n 10, wn_bit n 9, wn_bit n 8, wn_bit n 7, wn_bit n 6, wn_bit n 5, wn_bit n 4, wn_bit n 3, wn_bit n 2, wn_bit n 1, wn_bit n 0⟩
theorem apart_sum (x y : Int) : apart x y = ((rangeKs 0 12).map fun k => if ¬Int.fmod (Int.fdiv x (2 ^ Int.toNat k)) 2 = Int.fmod (Int.fdiv y (2 ^ Int.toNat k)) 2 then (2 : Int) ^ Int.toNat k else 0).sum := by
  unfold apart
  rw [show rangeKs 0 (Int.toNat (12 - 0)) = rangeKs 0 12 from rfl, sum_fold (fun k => (2 : Int) ^ Int.toNat k) (fun k => ¬Int.fmod (Int.fdiv x (2 ^ Int.toNat k)) 2 = Int.fmod (Int.fdiv y (2 ^ Int.toNat k)) 2)]
  simp
theorem apart_list (x y : Int) : apart x y = List.sum [if ¬Int.fmod (Int.fdiv x (2 ^ 0)) 2 = Int.fmod (Int.fdiv y (2 ^ 0)) 2 then (2 : Int) ^ 0 else 0, if ¬Int.fmod (Int.fdiv x (2 ^ 1)) 2 = Int.fmod (Int.fdiv y (2 ^ 1)) 2 then (2 : Int) ^ 1 else 0,
    if ¬Int.fmod (Int.fdiv x (2 ^ 2)) 2 = Int.fmod (Int.fdiv y (2 ^ 2)) 2 then (2 : Int) ^ 2 else 0, if ¬Int.fmod (Int.fdiv x (2 ^ 3)) 2 = Int.fmod (Int.fdiv y (2 ^ 3)) 2 then (2 : Int) ^ 3 else 0,
    if ¬Int.fmod (Int.fdiv x (2 ^ 4)) 2 = Int.fmod (Int.fdiv y (2 ^ 4)) 2 then (2 : Int) ^ 4 else 0, if ¬Int.fmod (Int.fdiv x (2 ^ 5)) 2 = Int.fmod (Int.fdiv y (2 ^ 5)) 2 then (2 : Int) ^ 5 else 0,
    if ¬Int.fmod (Int.fdiv x (2 ^ 6)) 2 = Int.fmod (Int.fdiv y (2 ^ 6)) 2 then (2 : Int) ^ 6 else 0, if ¬Int.fmod (Int.fdiv x (2 ^ 7)) 2 = Int.fmod (Int.fdiv y (2 ^ 7)) 2 then (2 : Int) ^ 7 else 0,
    if ¬Int.fmod (Int.fdiv x (2 ^ 8)) 2 = Int.fmod (Int.fdiv y (2 ^ 8)) 2 then (2 : Int) ^ 8 else 0, if ¬Int.fmod (Int.fdiv x (2 ^ 9)) 2 = Int.fmod (Int.fdiv y (2 ^ 9)) 2 then (2 : Int) ^ 9 else 0,
    if ¬Int.fmod (Int.fdiv x (2 ^ 10)) 2 = Int.fmod (Int.fdiv y (2 ^ 10)) 2 then (2 : Int) ^ 10 else 0, if ¬Int.fmod (Int.fdiv x (2 ^ 11)) 2 = Int.fmod (Int.fdiv y (2 ^ 11)) 2 then (2 : Int) ^ 11 else 0] := by
  rw [apart_sum]
  rfl
theorem fdif (a b i j : Nat) (c : Int) (ea : bt (wn a) i = bt a j) (eb : bt (wn b) i = bt b j) : (if ¬Int.fmod (Int.fdiv ((wn a : Nat) : Int) (2 ^ i)) 2 = Int.fmod (Int.fdiv ((wn b : Nat) : Int) (2 ^ i)) 2 then c else 0) = c * (dif a b j : Nat) := by
  rw [fbit, fbit, ea, eb]
  unfold dif
  by_cases h : bt a j = bt b j
  · rw [if_pos h, if_neg (by rw [h]; simp)]; simp
  · rw [if_neg h, if_pos (by omega)]; simp
/-- the bits, each in its place -/
noncomputable def hs : Nat → List Nat → Int
  | _, [] => 0
  | i, b :: r => 2 ^ i * (b : Nat) + hs (i + 1) r
theorem hs_hor (l : List Nat) : ∀ i : Nat, hs i l = 2 ^ i * (hor l : Nat) := by
  induction l with
  | nil => intro i; exact (Int.mul_zero _).symm
  | cons b r ih =>
    intro i
    show 2 ^ i * (b : Int) + hs (i + 1) r = 2 ^ i * ((hor r * 2 + b : Nat) : Int)
    rw [ih, Int.pow_succ, Int.mul_assoc, ← Int.mul_add, Int.natCast_add, Int.natCast_mul, Int.add_comm, Int.mul_comm 2]
    rfl
noncomputable def dl (a b : Nat) : List Nat := [dif a b 9, dif a b 0, dif a b 1, dif a b 2, dif a b 10, dif a b 3, dif a b 4, dif a b 5, dif a b 11, dif a b 6, dif a b 7, dif a b 8]
theorem four4 (v x y : Nat) : v * 4 + (2 * x + y) = (v * 2 + x) * 2 + y := by omega
theorem val_hor (a b : Nat) : val (a : Int) (b : Int) 9 = hor (dl a b) := by
  rw [val_bits, four4, four4, four4]
  rfl
/-- what the law reckons is what the walk finds -/
theorem val_apart (a b : Nat) : apart (wgt (a : Int)) (wgt (b : Int)) = (val (a : Int) (b : Int) 9 : Nat) := by
  rw [val_hor, show wgt (a : Int) = ((wn a : Nat) : Int) from wgt_bits a, show wgt (b : Int) = ((wn b : Nat) : Int) from wgt_bits b, apart_list]
  have f := fun (i j : Nat) (e : ∀ n, bt (wn n) i = bt n j) => fdif a b i j (2 ^ i) (e a) (e b)
  rw [f 0 9 fun n => wn_bit n 0, f 1 0 fun n => wn_bit n 1, f 2 1 fun n => wn_bit n 2, f 3 2 fun n => wn_bit n 3, f 4 10 fun n => wn_bit n 4, f 5 3 fun n => wn_bit n 5, f 6 4 fun n => wn_bit n 6, f 7 5 fun n => wn_bit n 7, f 8 11 fun n => wn_bit n 8, f 9 6 fun n => wn_bit n 9, f 10 7 fun n => wn_bit n 10, f 11 8 fun n => wn_bit n 11]
  refine Eq.trans (show _ = hs 0 (dl a b) from rfl) ?_
  rw [hs_hor]
  exact Int.one_mul _
end Mine
end

section
open PySem PySem.W PyProof.Rows PySem.Spec PySem.Calls PySem.W.X
set_option maxRecDepth 100000
set_option maxHeartbeats 8000000
namespace Mine
section
variable {w : World} {s : Shared} {A : Around} {Q E : Value → Shared → Prop} {env : Env}
theorem ints_comp {f : Int → Int} {vs ys : List Value} {ns : List Int} (h : IntsAre vs ns) (p : Paired (fun v y => ∃ n t u, v = .int n t ∧ y = .int (f n) u) vs ys) : IntsAre ys (ns.map f) := by
  induction h generalizing ys with
  | nil => cases p; exact .nil
  | cons n t r ih =>
    cases p with
    | cons h p =>
      obtain ⟨n', t', u, e1, e2⟩ := h
      cases e1
      subst e2
      exact .cons _ u (ih p)
theorem ints_at : ∀ {vs : List Value} {ns : List Int}, IntsAre vs ns → ∀ {i : Nat} {v : Value}, vs[i]? = some v → ∃ n t, ns[i]? = some n ∧ v = .int n t
  | _, _, .nil, i, v, h => by simp at h
  | _, _, .cons n t r, 0, v, h => by simp at h; subst h; exact ⟨n, t, rfl, rfl⟩
  | _, _, .cons n t r, i + 1, v, h => by
    obtain ⟨n', t', a, b⟩ := ints_at r (i := i) (v := v) (by simpa using h)
    exact ⟨n', t', by simpa using a, b⟩
/-- a comprehension over a list of ints whose element keeps the heap -/
theorem comp_ints {elt iter : Expr} {x : Str} {px : Pos} {scope : Scope} {cl : List (Str × Addr)} {pos : Pos} (f : Int → Int) (ns : List Int)
    (hh : A.handled = none) (hclos : closureFor scope env = pure cl) (hcell : ∀ y ∈ scope.names, y.2 ≠ .cell) (hkind : scope.kind = .function)
    (hnames : ∀ y ∈ scope.names, y.2 = .local → scope.names.lookup y.1 = some .local) (hx : scope.names.lookup x = some .local)
    (h : wpAny (model P0 w) A (eval iter env) (fun xv s₁ => ∃ l vs, xv = .ref l ∧ s₁.heap.IsList l (List.toArray vs) ∧ IntsAre vs ns ∧ ns.length ≤ 1000 ∧
      (∀ C n t (s₃ : Shared) m₃ E', s₁.heap.objs.size ≤ C → n ∈ ns → s₃.heap.Ns C m₃ → m₃ x = some (.int n t) → (∀ b o, s₁.heap.get? b = some o → s₃.heap.get? b = some o) →
        wpAny (model P0 w) A (eval elt (compEnvC scope cl C env)) (fun y s₄ => (∃ u, y = .int (f n) u) ∧ Keeps s₃ s₄) E' s₃) ∧
      (∀ D h' tk ys k, s₁.heap.get? D = none → h'.get? D = some (PySem.W.listOf (List.toArray ys) k) → IntsAre ys (ns.map f) → (∀ b o, s₁.heap.get? b = some o → h'.get? b = some o) → Q (.ref D) { s₁ with heap := h', toks := tk })) E s)
    (hs : ∀ x, foldedSetIterable iter env x = pure x := by intro _; rfl) :
    wpAny (model P0 w) A (eval (.ListComp elt [⟨.Name x px, iter, [], 0⟩] scope pos) env) Q E s := by
  refine wpAny_ListComp_free (fun _ => true) (fun v y => ∃ n t u, v = .int n t ∧ y = .int (f n) u) hclos hcell hkind hnames hx (wpAny_mono h (fun xv s₁ h₁ => ?_) fun _ _ e => e) hs
  obtain ⟨l, vs, rfl, hl, hI, hn, helt, hQ⟩ := h₁
  refine wpAny_pyIter_list hl ?_
  have ln : l ≠ s₁.heap.objs.size := by
    obtain ⟨o, e, _⟩ := hl
    exact Nat.ne_of_lt (Heap.lt_size e)
  have lv : vs.length = ns.length := hI.length
  dsimp only
  have up : ∀ b o, s₁.heap.get? b = some o → (s₁.heap.push { cls := .type "list_iterator", data := .fields #[.ref l, .int 0 0] }).get? b = some o := fun b o e => Heap.get?_push_of_some _ e
  have sub : ∀ h' : Heap, (∀ b o, b ∉ [s₁.heap.objs.size] → (s₁.heap.push { cls := .type "list_iterator", data := .fields #[.ref l, .int 0 0] }).get? b = some o → h'.get? b = some o) → ∀ b o, s₁.heap.get? b = some o → h'.get? b = some o := fun h' k b o e => k b o (fun q => Nat.ne_of_lt (Heap.lt_size e) (List.mem_singleton.mp q)) (up b o e)
  refine ⟨s₁.heap.objs.size, [s₁.heap.objs.size, l], [s₁.heap.objs.size], _, _, _, rfl, Walks.list hh s₁.heap.objs.size l ln vs.toArray, ?_, ⟨⟨_, Heap.get?_push_size _ rfl, rfl, rfl⟩, hl.at fun o e => up _ o e⟩, ?_, ⟨fun C i v s₃ m₃ E' _ _ _ _ _ _ => wpAny_tests_nil ⟨rfl, s₃.heap, s₃.toks, rfl, fun _ _ e => e⟩, fun C i v s₃ m₃ E' hC hP _ hns hm hk _ => ?_⟩, ?_⟩
  · rw [List.size_toArray, lv]
    have : (1000 : Nat) ≤ sizeLine := by decide
    omega
  · intro b hb
    (try dsimp only)
    rw [Heap.size_push]
    rcases List.mem_cons.mp hb with rfl | hb
    · exact Nat.lt_succ_self _
    · rw [List.mem_singleton.mp hb]
      obtain ⟨o, e, _⟩ := hl
      exact Nat.lt_succ_of_lt (Heap.lt_size e)
  · obtain ⟨n, t, e1, rfl⟩ := ints_at hI (i := i) (v := v) (by simpa using hP)
    refine wpAny_mono (helt C n t s₃ m₃ E' (Nat.le_trans (by dsimp only; rw [Heap.size_push]; exact Nat.le_succ _) hC) (List.mem_of_getElem? e1) hns hm (sub _ hk)) (fun y s₄ ⟨⟨u, e⟩, k⟩ => ⟨⟨n, t, u, rfl, e⟩, k⟩) fun _ _ e => e
  · intro D h' tk ys vs' nD lD pD lv' hv hp k
    rw [filter_all] at hp
    have : vs' = vs := by
      refine List.ext_getElem? fun j => ?_
      cases q : vs'[j]? with
      | none =>
        have : vs'.length ≤ j := List.getElem?_eq_none_iff.mp q
        rw [List.getElem?_eq_none (by rw [List.size_toArray] at lv'; omega)]
      | some v =>
        have := hv j v q
        simpa using this.symm
    subst this
    obtain ⟨n, eD⟩ := pD
    have nD' : s₁.heap.get? D = none := by
      cases q : s₁.heap.get? D with
      | none => rfl
      | some o => rw [show _ = some o from up D o q] at nD; cases nD
    refine hQ D h' tk ys.toList n nD' (by simpa using eD) (ints_comp hI hp) (sub _ k)
/-- the same, its list stored in a name -/
theorem comp_ints_assign {QF : Flow → Shared → Prop} {elt iter : Expr} {x y : Str} {px py : Pos} {scope : Scope} {cl : List (Str × Addr)} {pos spos : Pos} (f : Int → Int) (ns : List Int)
    (hsw : swapsWith (.ListComp elt [⟨.Name x px, iter, [], 0⟩] scope pos) (some (.Name y py)) spos.line env = pure true)
    (hh : A.handled = none) (hclos : closureFor scope env = pure cl) (hcell : ∀ y ∈ scope.names, y.2 ≠ .cell) (hkind : scope.kind = .function)
    (hnames : ∀ y ∈ scope.names, y.2 = .local → scope.names.lookup y.1 = some .local) (hx : scope.names.lookup x = some .local)
    (hy : env.kindOf y = some .local) (hp : (env.scope.kind == .class || (env.scope.kind == .module && env.locals != env.globals)) = false)
    (h : wpAny (model P0 w) A (eval iter env) (fun xv s₁ => ∃ l vs m, xv = .ref l ∧ s₁.heap.IsList l (List.toArray vs) ∧ IntsAre vs ns ∧ ns.length ≤ 1000 ∧ s₁.heap.Ns env.locals m ∧
      (∀ C n t (s₃ : Shared) m₃ E', s₁.heap.objs.size ≤ C → n ∈ ns → s₃.heap.Ns C m₃ → m₃ x = some (.int n t) → (∀ b o, s₁.heap.get? b = some o → s₃.heap.get? b = some o) →
        wpAny (model P0 w) A (eval elt (compEnvC scope cl C env)) (fun y s₄ => (∃ u, y = .int (f n) u) ∧ Keeps s₃ s₄) E' s₃) ∧
      (∀ D h' tk ys k, s₁.heap.get? D = none → h'.get? D = some (PySem.W.listOf (List.toArray ys) k) → IntsAre ys (ns.map f) → h'.Ns env.locals (fun z => if z = y then some (.ref D) else m z) → (∀ b o, b ≠ env.locals → s₁.heap.get? b = some o → h'.get? b = some o) → QF .next { s₁ with heap := h', toks := tk })) E s)
    (hs : ∀ x, foldedSetIterable iter env x = pure x := by intro _; rfl) :
    wpAny (model P0 w) A (exec (.Assign [.Name y py] (.ListComp elt [⟨.Name x px, iter, [], 0⟩] scope pos) spos) env) QF E s := by
  refine wpAny_Assign_ListComp_free (fun _ => true) (fun v y => ∃ n t u, v = .int n t ∧ y = .int (f n) u) hsw hclos hcell hkind hnames hx hy hp (wpAny_mono h (fun xv s₁ h₁ => ?_) fun _ _ e => e) hs
  obtain ⟨l, vs, m, rfl, hl, hI, hn, hm, helt, hQ⟩ := h₁
  refine wpAny_pyIter_list hl ?_
  have ln : l ≠ s₁.heap.objs.size := by
    obtain ⟨o, e, _⟩ := hl
    exact Nat.ne_of_lt (Heap.lt_size e)
  have lv : vs.length = ns.length := hI.length
  dsimp only
  have up : ∀ b o, s₁.heap.get? b = some o → (s₁.heap.push { cls := .type "list_iterator", data := .fields #[.ref l, .int 0 0] }).get? b = some o := fun b o e => Heap.get?_push_of_some _ e
  have sub : ∀ h' : Heap, (∀ b o, b ∉ [s₁.heap.objs.size] → (s₁.heap.push { cls := .type "list_iterator", data := .fields #[.ref l, .int 0 0] }).get? b = some o → h'.get? b = some o) → ∀ b o, s₁.heap.get? b = some o → h'.get? b = some o := fun h' k b o e => k b o (fun q => Nat.ne_of_lt (Heap.lt_size e) (List.mem_singleton.mp q)) (up b o e)
  have lL : env.locals ∉ [s₁.heap.objs.size] := fun q => Nat.ne_of_lt hm.lt (List.mem_singleton.mp q)
  refine ⟨s₁.heap.objs.size, [s₁.heap.objs.size, l], [s₁.heap.objs.size], _, _, _, m, rfl, Walks.list hh s₁.heap.objs.size l ln vs.toArray, ?_, ⟨⟨_, Heap.get?_push_size _ rfl, rfl, rfl⟩, hl.at fun o e => up _ o e⟩, ?_, lL, hm.at' fun o e => up _ o e, ⟨fun C i v s₃ m₃ E' _ _ _ _ _ _ => wpAny_tests_nil ⟨rfl, s₃.heap, s₃.toks, rfl, fun _ _ e => e⟩, fun C i v s₃ m₃ E' hC hP _ hns hm hk _ => ?_⟩, ?_⟩
  · rw [List.size_toArray, lv]
    have : (1000 : Nat) ≤ sizeLine := by decide
    omega
  · intro b hb
    (try dsimp only)
    rw [Heap.size_push]
    rcases List.mem_cons.mp hb with rfl | hb
    · exact Nat.lt_succ_self _
    · rw [List.mem_singleton.mp hb]
      obtain ⟨o, e, _⟩ := hl
      exact Nat.lt_succ_of_lt (Heap.lt_size e)
  · obtain ⟨n, t, e1, rfl⟩ := ints_at hI (i := i) (v := v) (by simpa using hP)
    refine wpAny_mono (helt C n t s₃ m₃ E' (Nat.le_trans (by dsimp only; rw [Heap.size_push]; exact Nat.le_succ _) hC) (List.mem_of_getElem? e1) hns hm (sub _ hk)) (fun y s₄ ⟨⟨u, e⟩, k⟩ => ⟨⟨n, t, u, rfl, e⟩, k⟩) fun _ _ e => e
  · intro D h' tk ys vs' nD lD pD lv' hv hp nL k
    rw [filter_all] at hp
    have : vs' = vs := by
      refine List.ext_getElem? fun j => ?_
      cases q : vs'[j]? with
      | none =>
        have : vs'.length ≤ j := List.getElem?_eq_none_iff.mp q
        rw [List.getElem?_eq_none (by rw [List.size_toArray] at lv'; omega)]
      | some v =>
        have := hv j v q
        simpa using this.symm
    subst this
    obtain ⟨n, eD⟩ := pD
    have nD' : s₁.heap.get? D = none := by
      cases q : s₁.heap.get? D with
      | none => rfl
      | some o => rw [show _ = some o from up D o q] at nD; cases nD
    refine hQ D h' tk ys.toList n nD' (by simpa using eD) (ints_comp hI hp) nL (fun b o n e => k b o n (fun q => Nat.ne_of_lt (Heap.lt_size e) (List.mem_singleton.mp q)) (up b o e))
end
end Mine
end

section
open PySem PySem.W PyProof.Rows PySem.Spec PySem.Calls PySem.W.X
set_option maxRecDepth 100000
set_option maxHeartbeats 8000000
namespace Mine
section
variable {w : World} {s : Shared} {A : Around} {Q : Flow → Shared → Prop} {E : Value → Shared → Prop} {env : Env}
theorem DictIs.uniq {o : Obj} {m m' : Str → Option Value} {h : Heap} {a : Addr} (d : DictIs o m) (e : h.get? a = some o) (n : h.Ns a m') (name : Str) : m name = m' name := by
  obtain ⟨es, ep, d1, d2, d3, d4⟩ := d
  obtain ⟨o', es', ep', e', d1', _, d4'⟩ := n
  rw [e] at e'
  cases e'
  rw [d1] at d1'
  cases d1'
  rw [← d4 name, ← d4' name]
/-- a file stays where a name space is stored into -/
theorem FileAt.ns {h h' : Heap} {C a : Addr} {n : Int} {x : Str} {m : Str → Option Value} (f : FileAt h a n x) (hn : h.Ns C m) (hm : m (Str.ofString "number") = none) (k : ∀ b o, b ≠ C → h.get? b = some o → h'.get? b = some o) : FileAt h' a n x := by
  obtain ⟨o, dx, od, mm, t, u, e1, c, nc, d, e2, dI, r1, r2⟩ := f
  obtain ⟨fd, ef⟩ := nc
  refine ⟨o, dx, od, mm, t, u, k _ _ (fun q => ?_) e1, c, ⟨fd, ef⟩, d, k _ _ (fun q => ?_) e2, dI, r1, r2⟩
  · obtain ⟨o', es, ep, e', d', _⟩ := hn
    rw [q, e'] at e1
    cases e1
    rw [d'] at ef; cases ef
  · subst q
    have := dI.uniq e2 hn (Str.ofString "number")
    rw [hm, r1] at this; cases this
theorem FileAt.ext {h h' : Heap} {I a : Addr} {n : Int} {x : Str} {oI : Obj} (f : FileAt h a n x) (hI : h.get? I = some oI) (h1 : ∀ fd, oI.data ≠ .func fd) (h2 : ∀ es ep, oI.data ≠ .dict es ep) (k : ∀ b o, b ≠ I → h.get? b = some o → h'.get? b = some o) : FileAt h' a n x := by
  obtain ⟨o, dx, od, mm, t, u, e1, c, nc, d, e2, dI, r1, r2⟩ := f
  obtain ⟨fd, ef⟩ := nc
  refine ⟨o, dx, od, mm, t, u, k _ _ (fun q => ?_) e1, c, ⟨fd, ef⟩, d, k _ _ (fun q => ?_) e2, dI, r1, r2⟩
  · rw [q, hI] at e1; cases e1; exact h1 _ ef
  · obtain ⟨es, ep, e3, _⟩ := dI
    rw [q, hI] at e2; cases e2; exact h2 _ _ e3
/-- what lies at a file -/
noncomputable def FileNew (h₀ h : Heap) (a : Addr) (n : Int) (x : Str) : Prop := FileAt h a n x ∧ h₀.get? a = none ∧ DictNew h₀ h a
theorem dict_eq {h h' : Heap} {a : Addr} {n : Int} {x : Str} (f : FileAt h a n x) (e : ∀ o, h.get? a = some o → h'.get? a = some o) {h₀ : Heap} (d : DictNew h₀ h a) : DictNew h₀ h' a := fun o dx q r => by
  obtain ⟨o', _, _, _, _, _, e1, _⟩ := f
  have := e _ e1
  rw [q] at this
  cases this
  exact d _ _ e1 r
theorem FileNew.keep {h₀ h h' : Heap} {a : Addr} {n : Int} {x : Str} (f : FileNew h₀ h a n x) (k : FileAt h' a n x) (e : ∀ o, h.get? a = some o → h'.get? a = some o) : FileNew h₀ h' a n x := ⟨k, f.2.1, dict_eq f.1 e f.2.2⟩
theorem file_func {h : Heap} {a : Addr} {n : Int} {x : Str} (f : FileAt h a n x) : ∃ o fd, h.get? a = some o ∧ o.data = .func fd := by
  obtain ⟨o, _, _, _, _, _, e1, _, ⟨fd, ef⟩, _⟩ := f
  exact ⟨o, fd, e1, ef⟩
theorem FileNew.at' {h₀ h h' : Heap} {a I : Addr} {n : Int} {x : Str} {oI : Obj} (f : FileNew h₀ h a n x) (hI : h.get? I = some oI) (h1 : ∀ fd, oI.data ≠ .func fd) (h2 : ∀ es ep, oI.data ≠ .dict es ep) (k : ∀ b o, b ≠ I → h.get? b = some o → h'.get? b = some o) : FileNew h₀ h' a n x :=
  f.keep (f.1.ext hI h1 h2 k) fun o e => k _ _ (fun q => by
    obtain ⟨o', fd, e', d⟩ := file_func f.1
    rw [q, hI] at e'; cases e'; exact h1 _ d) e
theorem FileNew.ns {h₀ h h' : Heap} {C a : Addr} {n : Int} {x : Str} {m : Str → Option Value} (f : FileNew h₀ h a n x) (hn : h.Ns C m) (hm : m (Str.ofString "number") = none) (k : ∀ b o, b ≠ C → h.get? b = some o → h'.get? b = some o) : FileNew h₀ h' a n x :=
  f.keep (f.1.ns hn hm k) fun o e => k _ _ (fun q => by
    obtain ⟨o', fd, e', d⟩ := file_func f.1
    obtain ⟨o2, es, ep, e2, d', _⟩ := hn
    rw [q, e2] at e'; cases e'; rw [d'] at d; cases d) e
noncomputable def FilesNew (h₀ h : Heap) (md : Nat → Int) (ys : Array Value) (i : Nat) : Prop := ys.size = i ∧ ∀ j, j < i → ∃ a, ys[j]? = some (.ref a) ∧ FileNew h₀ h a j (tagS (md j))
theorem files_loop {R : Result → Shared → Prop} {elt iter : Expr} {x : Str} {px : Pos} {scope : Scope} {pos : Pos} {D I : Addr} {cenv : Env} {s : Shared} {h₀ : Heap} {m : Str → Option Value} {md : Nat → Int} {n : Nat}
    (hh : A.handled = none) (hn0 : n ≤ 1000) (hx : cenv.kindOf x = some .local) (hp : (cenv.scope.kind == .class || (cenv.scope.kind == .module && cenv.locals != cenv.globals)) = false) (hxn : x ≠ Str.ofString "number")
    (hT : TabLam s.heap) (hI : IsRangeIter s.heap I 0 n 1) (hD : s.heap.PlainList D #[]) (hC : s.heap.Ns cenv.locals m) (hm : m (Str.ofString "number") = none)
    (up : ∀ b o, h₀.get? b = some o → s.heap.get? b = some o) (fD : h₀.get? D = none) (fI : h₀.get? I = none) (fC : h₀.get? cenv.locals = none)
    (helt : ∀ i t (s' : Shared) m' Q' E', i < n → s'.heap.Ns cenv.locals m' → m' x = some (.int (i : Nat) t) → (∀ b o, b ≠ 86 → h₀.get? b = some o → s'.heap.get? b = some o) → TabLam s'.heap → RetF s' Q' i (md i) → wpAny (model P0 w) A (eval elt cenv) Q' E' s')
    (hR : ∀ h' tk m' ys, h'.Ns cenv.locals m' → m' (Str.ofString "number") = none → h'.PlainList D ys → FilesNew h₀ h' md ys n → TabLam h' → (∀ b o, b ≠ 86 → h₀.get? b = some o → h'.get? b = some o) → R (.ok .next) { s with heap := h', toks := tk }) :
    codeAny (model P0 w) A (.compLoop (.ListComp elt [⟨.Name x px, iter, [], 0⟩] scope pos) 0 (.ref I) (.ref D) cenv) R s := by
  refine codeAny_compLoop_list (fun k s' => ∃ i h' tk m' ys, s' = { s with heap := h', toks := tk } ∧ i ≤ n ∧ k = n + 1 - i ∧ IsRangeIter h' I (0 + (i : Nat) * 1) ((n : Int) - (i : Nat)) 1 ∧ h'.PlainList D ys ∧ h'.Ns cenv.locals m' ∧ m' (Str.ofString "number") = none ∧
    FilesNew h₀ h' md ys i ∧ TabLam h' ∧ (∀ b o, b ≠ 86 → h₀.get? b = some o → h'.get? b = some o)) ?turn (n + 1)
    ⟨0, s.heap, s.toks, m, #[], rfl, Nat.zero_le _, rfl, by simpa using hI, hD, hC, hm, ⟨rfl, fun j hj => absurd hj (Nat.not_lt_zero _)⟩, hT, fun b o _ e => up b o e⟩
  rintro k s' ⟨i, h', tk, m', ys, rfl, hi, rfl, it, pl, nC, nm, fs, tl, kp⟩
  obtain ⟨nl, pD⟩ := id pl
  obtain ⟨oC, esC, epC, eC, dC, _⟩ := id nC
  have e86 : ∃ ps, h'.get? 86 = some (tabObj ps) := by
    rcases tl with e | ⟨c, e, _⟩
    · exact ⟨_, e⟩
    · exact ⟨_, e⟩
  obtain ⟨ps86, e86⟩ := e86
  have it0 : h'.get? I = some _ := it
  have hDC : D ≠ cenv.locals := fun q => by rw [q, eC] at pD; cases pD; cases dC
  have hDI : D ≠ I := fun q => by rw [q, it0] at pD; exact nomatch congrArg Obj.data (Option.some.inj pD)
  have hCI : cenv.locals ≠ I := fun q => by rw [q, it0] at eC; cases eC; cases dC
  have h86I : 86 ≠ I := fun q => by rw [q, it0] at e86; cases e86
  have h86C : 86 ≠ cenv.locals := fun q => by rw [← q, e86] at eC; cases eC; cases dC
  have h86D : 86 ≠ D := fun q => by rw [← q, e86] at pD; cases pD
  have tab_ext : ∀ g g' : Heap, (∀ o, g.get? 86 = some o → g'.get? 86 = some o) → TabLam g → TabLam g' := fun g g' k t => by
    rcases t with e | ⟨c, e, n⟩
    · exact .inl (k _ e)
    · exact .inr ⟨c, k _ e, n⟩
  by_cases hlt : i < n
  · refine (Walks.range hh I 0 1 n).item i _ _ _ hlt it (fun v h1 tk1 hv st1 k1 => ?_)
    obtain ⟨tv, rfl⟩ := hv
    rw [show (0 : Int) + (i : Int) * 1 = ((i : Nat) : Int) from by omega]
    dsimp only at k1 ⊢
    have k1' : ∀ b o, b ≠ I → h'.get? b = some o → h1.get? b = some o := fun b o n e => k1 b o (fun q => n (List.mem_singleton.mp q)) e
    have fs1 : FilesNew h₀ h1 md ys i := ⟨fs.1, fun j hj => by
      obtain ⟨a, ea, fa⟩ := fs.2 j hj
      exact ⟨a, ea, fa.at' it0 (fun _ q => by cases q) (fun _ _ q => by cases q) k1'⟩⟩
    have nC1 : h1.Ns cenv.locals m' := nC.at' fun o e => k1' _ o hCI e
    refine wpAny_assign_Name (wpAny_storeName_local hx nC1 (fun h2 hn2 hs2 => ?_) hp)
    dsimp only at hn2 hs2
    have k2 : ∀ b o, b ≠ cenv.locals → h1.get? b = some o → h2.get? b = some o := fun b o n e => hs2.extBut b o n e
    have fs2 : FilesNew h₀ h2 md ys i := ⟨fs.1, fun j hj => by
      obtain ⟨a, ea, fa⟩ := fs1.2 j hj
      exact ⟨a, ea, fa.ns nC1 nm k2⟩⟩
    have e862 : h2.get? 86 = some (tabObj ps86) := k2 _ _ h86C (k1' _ _ h86I e86)
    have up2 : ∀ b o, b ≠ 86 → h₀.get? b = some o → h2.get? b = some o := fun b o n e => k2 b o (fun q => by rw [q, fC] at e; cases e) (k1' b o (fun q => by rw [q, fI] at e; cases e) (kp b o n e))
    have tl2 : TabLam h2 := tab_ext h' h2 (fun o e => k2 _ _ h86C (k1' _ _ h86I e)) tl
    refine helt i tv _ _ _ _ hlt hn2 (by simp) up2 tl2 ?_
    intro a h3 tk3 kp3 tl3 fr3 fa3 dn3
    dsimp only at kp3 fr3 dn3 ⊢
    have k3 : ∀ b o, b ≠ 86 → h2.get? b = some o → h3.get? b = some o := fun b o n e => kp3 b o e (fun q => n (List.mem_singleton.mp q))
    have pD3 : h3.PlainList D ys := pl.at fun o e => k3 _ o h86D.symm (k2 _ o hDC (k1' _ o hDI e))
    have nC3 : h3.Ns cenv.locals (fun y => if y = x then some (.int ((i : Nat) : Int) tv) else m' y) := hn2.at' fun o e => k3 _ o h86C.symm e
    have back : ∀ b, h2.get? b = none → h₀.get? b = none := fun b e => by
      cases q : h₀.get? b with
      | none => rfl
      | some o =>
        by_cases q6 : b = 86
        · rw [q6, e862] at e; cases e
        · rw [up2 b o q6 q] at e; cases e
    have fs3 : FilesNew h₀ h3 md (ys.push (.ref a)) (i + 1) := by
      refine ⟨by simp [fs.1], fun j hj => ?_⟩
      by_cases hji : j < i
      · obtain ⟨b, eb, fb⟩ := fs2.2 j hji
        refine ⟨b, ?_, fb.at' e862 (fun _ q => by cases q) (fun _ _ q => by cases q) k3⟩
        rw [Array.getElem?_push_lt (by rw [fs.1]; exact hji)]
        rw [← eb]
        exact (Array.getElem?_eq_getElem (by rw [fs.1]; exact hji)).symm
      · have : j = i := by omega
        subst this
        refine ⟨a, ?_, fa3, back a fr3, fun o dx e1 e2 => back dx (dn3 o dx e1 e2)⟩
        rw [← fs.1, Array.getElem?_push_size]
    have hsz : ys.size ≤ sizeLine := by
      have l1 : (1000 : Nat) ≤ sizeLine := by decide
      have l2 : ys.size = i := fs.1
      omega
    refine wpAny_list_append_plain (hsz := hsz) pD3 fun h4 hl4 hs4 => ?_
    dsimp only at hl4 hs4 ⊢
    have k4 : ∀ b o, b ≠ D → h3.get? b = some o → h4.get? b = some o := fun b o n e => hs4.extBut b o n e
    obtain ⟨n3, e3⟩ := pD3
    refine ⟨n + 1 - (i + 1), by omega, i + 1, h4, tk3, _, _, rfl, hlt, rfl, k4 _ _ hDI.symm (k3 _ _ h86I.symm (k2 _ _ hCI.symm st1)), hl4, nC3.at' fun o e => k4 _ o hDC.symm e, ?_, ⟨fs3.1, fun j hj => ?_⟩, tab_ext h3 h4 (fun o e => k4 _ _ h86D e) tl3, fun b o n e => k4 b o (fun q => by rw [q, fD] at e; cases e) (k3 b o n (up2 b o n e))⟩
    · show (if Str.ofString "number" = x then _ else m' (Str.ofString "number")) = none
      rw [if_neg (fun q => hxn q.symm)]
      exact nm
    · obtain ⟨b, eb, fb⟩ := fs3.2 j hj
      exact ⟨b, eb, fb.at' e3 (fun _ q => by cases q) (fun _ _ q => by cases q) k4⟩
  · have hin : i = n := by omega
    subst hin
    refine (Walks.range hh I 0 1 i).done _ _ _ it (fun h1 tk1 k1 => ?_)
    dsimp only at k1 ⊢
    have k1' : ∀ b o, b ≠ I → h'.get? b = some o → h1.get? b = some o := fun b o n e => k1 b o (fun q => n (List.mem_singleton.mp q)) e
    refine hR h1 tk1 m' ys (nC.at' fun o e => k1' _ o hCI e) nm (pl.at fun o e => k1' _ o hDI e) ⟨fs.1, fun j hj => ?_⟩ (tab_ext h' h1 (fun o e => k1' _ _ h86I e) tl) (fun b o n e => k1' b o (fun q => by rw [q, fI] at e; cases e) (kp b o n e))
    obtain ⟨a, ea, fa⟩ := fs.2 j hj
    exact ⟨a, ea, fa.at' it0 (fun _ q => by cases q) (fun _ _ q => by cases q) k1'⟩
noncomputable abbrev ritObj0 (x n : Int) : Obj := { cls := .type "range_iterator", dict := none, data := .fields #[rawInt x, rawInt n, rawInt 1], slots := #[] }
/-- a comprehension whose list goes straight into a name -/
theorem comp_into {s : Shared} {value iter : Expr} {y : Str} {py : Pos} {scope : Scope} {pos spos : Pos}
    (hsw : swapsWith value (some (.Name y py)) spos.line env = pure true)
    (hev : evalThenUse value env (assign (.Name y py) env) = (do let _ ← comprehension value scope env pos (newList []) false (eval iter env) (some (assign (.Name y py) env)); pure ()))
    (h : wpAny (model P0 w) A (comprehension value scope env pos (newList []) false (eval iter env) (some (assign (.Name y py) env))) (fun _ s' => Q .next s') E s) :
    wpAny (model P0 w) A (exec (.Assign [.Name y py] value spos) env) Q E s := by
  rw [exec_Assign_Name_used _ _ _ _ hsw, hev]
  refine wpAny_bind (wpAny_standAt (wpAny_bind (wpAny_bind ?_)))
  exact wpAny_mono h (fun _ _ q => wpAny_pure (wpAny_pure q)) fun _ _ q => q
theorem files_assign {s : Shared} {elt iter : Expr} {x y : Str} {px py : Pos} {scope : Scope} {cl : List (Str × Addr)} {pos spos : Pos} {md : Nat → Int}
    (hsw : swapsWith (.ListComp elt [⟨.Name x px, iter, [], 0⟩] scope pos) (some (.Name y py)) spos.line env = pure true)
    (hh : A.handled = none) (hxn : x ≠ Str.ofString "number") (hclos : closureFor scope env = pure cl) (hcell : ∀ z ∈ scope.names, z.2 ≠ .cell) (hkind : scope.kind = .function)
    (hnames : ∀ z ∈ scope.names, z.2 = .local → scope.names.lookup z.1 = some .local) (hx : scope.names.lookup x = some .local)
    (hy : env.kindOf y = some .local) (hp : (env.scope.kind == .class || (env.scope.kind == .module && env.locals != env.globals)) = false)
    (h : wpAny (model P0 w) A (eval iter env) (fun xv s₁ => ∃ r n t u v m, xv = .ref r ∧ IsRange s₁.heap r 0 ((n : Nat) : Int) 1 t u v ∧ n ≤ 1000 ∧ s₁.heap.Ns env.locals m ∧ m (Str.ofString "number") = none ∧ TabLam s₁.heap ∧
      (∀ C i t (s' : Shared) m' Q' E', i < n → s₁.heap.objs.size ≤ C → s'.heap.Ns C m' → m' x = some (.int (i : Nat) t) → (∀ b o, b ≠ 86 → s₁.heap.get? b = some o → s'.heap.get? b = some o) → TabLam s'.heap → RetF s' Q' i (md i) → wpAny (model P0 w) A (eval elt (compEnvC scope cl C env)) Q' E' s') ∧
      (∀ D h' tk ys k, s₁.heap.get? D = none → h'.get? D = some (PySem.W.listOf ys k) → FilesNew s₁.heap h' md ys n → TabLam h' → h'.Ns env.locals (fun z => if z = y then some (.ref D) else m z) → (∀ b o, b ≠ env.locals → b ≠ 86 → s₁.heap.get? b = some o → h'.get? b = some o) → Q .next { s₁ with heap := h', toks := tk })) E s)
    (hs : ∀ x, foldedSetIterable iter env x = pure x := by intro _; rfl) :
    wpAny (model P0 w) A (exec (.Assign [.Name y py] (.ListComp elt [⟨.Name x px, iter, [], 0⟩] scope pos) spos) env) Q E s := by
  refine comp_into (iter := iter) (scope := scope) hsw rfl ?_
  refine wpAny_comprehension_free (Q := fun _ s' => Q .next s') rfl hs hclos hkind hnames ?_
  refine wpAny_mono h (fun xv s₁ h₁ => ?_) fun _ _ z => z
  obtain ⟨r, n, t, u, v, m, rfl, hr, hn0, hm, hmn, htl, helt, hQ⟩ := h₁
  have hsm : Builtin.Range.small 0 ((n : Nat) : Int) 1 = true := small_one (by decide) (by decide) (by omega) (by omega)
  have hrs : Builtin.Range.rangeSize 0 ((n : Nat) : Int) 1 = ((n : Nat) : Int) := by
    rw [rangeSize_nat]
    omega
  refine wpAny_pyIter_range hr hsm ?_
  rw [hrs]
  refine wpAny_newObj_type (wpAny_newFunctionEnv hcell (by intro y hy; simp at hy) (fun h₁ hns₁ hsb₁ => ?_) hkind)
  dsimp only at hns₁ hsb₁ ⊢
  have eI : (s₁.heap.push (ritObj0 0 ((n : Nat) : Int))).get? s₁.heap.objs.size = some (ritObj0 0 ((n : Nat) : Int)) := Heap.get?_push_size _ rfl
  have upI : ∀ b o, s₁.heap.get? b = some o → (s₁.heap.push (ritObj0 0 ((n : Nat) : Int))).get? b = some o := fun b o e => Heap.get?_push_of_some _ e
  have sI : (s₁.heap.push (ritObj0 0 ((n : Nat) : Int))).objs.size = s₁.heap.objs.size + 1 := Heap.size_push _ _
  dsimp only [ritObj0] at eI upI sI
  generalize (s₁.heap.push { cls := .type "range_iterator", dict := none, data := .fields #[rawInt 0, rawInt ((n : Nat) : Int), rawInt 1], slots := #[] }) = H1 at hns₁ hsb₁ eI upI sI ⊢
  have eD : (H1.push { cls := .type "list", dict := none, data := .seq ([] : List Value).toArray }).get? H1.objs.size = some { cls := .type "list", dict := none, data := .seq ([] : List Value).toArray } := Heap.get?_push_size _ rfl
  have upD : ∀ b o, H1.get? b = some o → (H1.push { cls := .type "list", dict := none, data := .seq ([] : List Value).toArray }).get? b = some o := fun b o e => Heap.get?_push_of_some _ e
  have sD : (H1.push { cls := .type "list", dict := none, data := .seq ([] : List Value).toArray }).objs.size = H1.objs.size + 1 := Heap.size_push _ _
  generalize (H1.push { cls := .type "list", dict := none, data := .seq ([] : List Value).toArray }) = H2 at hns₁ hsb₁ eD upD sD ⊢
  have up1 : ∀ b o, H2.get? b = some o → h₁.get? b = some o := fun b o e => hsb₁.extBut b o (Nat.ne_of_lt (Heap.lt_size e)) (Heap.get?_push_of_some _ e)
  have old : ∀ b o, s₁.heap.get? b = some o → h₁.get? b = some o := fun b o e => up1 b o (upD b o (upI b o e))
  have fr : ∀ b, s₁.heap.objs.size ≤ b → s₁.heap.get? b = none := fun b hb => Heap.get?_none_of_le hb
  have e86 : ∃ ps, s₁.heap.get? 86 = some (tabObj ps) := by
    rcases htl with e | ⟨c, e, _⟩
    · exact ⟨_, e⟩
    · exact ⟨_, e⟩
  obtain ⟨ps86, e86⟩ := e86
  have tab_ext : ∀ g g' : Heap, (∀ o, g.get? 86 = some o → g'.get? 86 = some o) → TabLam g → TabLam g' := fun g g' k t => by
    rcases t with e | ⟨c, e, n⟩
    · exact .inl (k _ e)
    · exact .inr ⟨c, k _ e, n⟩
  have sC : s₁.heap.objs.size ≤ H2.objs.size := by omega
  have fC := fr _ sC
  have fD := fr H1.objs.size (by omega)
  have fI := fr s₁.heap.objs.size (Nat.le_refl _)
  have hLC : env.locals ≠ H2.objs.size := fun q => by obtain ⟨o, _, _, ho, _⟩ := hm; rw [q, fC] at ho; cases ho
  have hLD : env.locals ≠ H1.objs.size := fun q => by obtain ⟨o, _, _, ho, _⟩ := hm; rw [q, fD] at ho; cases ho
  have hL86 : env.locals ≠ 86 := fun q => by
    obtain ⟨o, _, _, ho, d, _⟩ := hm
    rw [q, e86] at ho; cases ho; cases d
  have hDC : H1.objs.size ≠ H2.objs.size := by omega
  have h86C : 86 ≠ H2.objs.size := fun q => by rw [← q, e86] at fC; cases fC
  have loop : ∀ s₃ : Shared, s₃ = { heap := h₁, gens := s₁.gens, drawn := s₁.drawn, toks := s₁.toks + ([] : List (Str × Value)).length, os := s₁.os } →
      codeAny (model P0 w) A (.compLoop (.ListComp elt [⟨.Name x px, iter, [], 0⟩] scope pos) 0 (.ref s₁.heap.objs.size) (.ref H1.objs.size) (compEnvC scope cl H2.objs.size env))
        (compPost (model P0 w) A E (some (assign (.Name y py) env)) (fun _ s' => Q .next s') (.ref H1.objs.size) H2.objs.size) s₃ := by
    rintro s₃ rfl
    refine files_loop (h₀ := s₁.heap) (md := md) (n := n) hh hn0 (lookup_relabel_local hx) (by simp [compEnvC, relabel, hkind]) hxn (tab_ext _ _ (fun o e => old _ o e) htl) (up1 _ _ (upD _ _ eI)) ⟨_, up1 _ _ eD⟩ hns₁ rfl old fD fI fC ?_ ?_
    · intro i t' s' m' Q' E' hi hn' hm' k' tl' R'
      exact helt _ i t' s' m' Q' E' hi sC hn' hm' k' tl' R'
    · intro h' tk m' ys nC nm pl fs tl k
      show wpAny (model P0 w) A (assign (.Name y py) env (.ref H1.objs.size)) (fun _ s'' => ∃ m, s''.heap.Ns H2.objs.size m ∧ ∀ h', Heap.SameBut H2.objs.size s''.heap h' → Q .next { s'' with heap := h' }) E _
      have nL : h'.Ns env.locals m := hm.at' fun o e => k _ o hL86 e
      refine wpAny_assign_Name (wpAny_storeName_local hy nL (fun h₂ hn₂ hs₂ => ?_) hp)
      dsimp only at hn₂ hs₂ ⊢
      refine ⟨m', nC.sameBut hs₂ (Ne.symm hLC), fun h₃ hs₃ => ?_⟩
      (try dsimp only at hs₃ ⊢)
      have k2 : ∀ b o, b ≠ env.locals → h'.get? b = some o → h₂.get? b = some o := fun b o n e => hs₂.extBut b o n e
      have k3 : ∀ b o, b ≠ H2.objs.size → h₂.get? b = some o → h₃.get? b = some o := fun b o n e => hs₃.extBut b o n e
      obtain ⟨kk, eD'⟩ := pl
      refine hQ H1.objs.size h₃ _ ys kk fD (k3 _ _ hDC (k2 _ _ (Ne.symm hLD) eD')) ⟨fs.1, fun j hj => ?_⟩ (tab_ext h' h₃ (fun o e => k3 _ o h86C (k2 _ o (Ne.symm hL86) e)) tl) (hn₂.sameBut hs₃ hLC) (fun b o n1 n2 e => k3 b o (fun q => by rw [q, fC] at e; cases e) (k2 b o n1 (k b o n2 e)))
      obtain ⟨a, ea, fa⟩ := fs.2 j hj
      exact ⟨a, ea, (fa.ns nL hmn k2).ns (nC.sameBut hs₂ (Ne.symm hLC)) nm k3⟩
  exact codeAny_compStart_list (loop _ rfl) ((Walks.range hh s₁.heap.objs.size 0 1 n).self 0 _ _ _ (by show IsRangeIter h₁ _ _ _ _; simpa using up1 _ _ (upD _ _ eI)) (loop _ rfl))
end
end Mine
end
theorem Mine.t_resetLW1 : True := by
  first | (walk1; fail "no") | trivial

section
open PySem PySem.W PyProof.Rows PySem.Spec PySem.Calls PySem.W.X
set_option maxRecDepth 100000
set_option maxHeartbeats 8000000
namespace Mine
theorem t_offLW1 : True := by
  w_top off
  trivial
noncomputable def lawParts : Arguments × List Stmt × Scope × Pos := by
  refine (fun (x : Arguments × List Stmt × Scope × Pos) (_ : partsD (nthS PySem.Challenge.pw_op0074_01.main.body 36) = (x.1, x.2.1, x.2.2.1, x.2.2.2)) => x) (?a, ?b, ?c, ?d) ?h
  case h => exact rfl
noncomputable def lawM (sc files mode weights whole : Option Value) : Str → Option Value := fun y => if y = Str.ofString "whole" then whole else if y = Str.ofString "weights" then weights else if y = Str.ofString "mode" then mode else if y = Str.ofString "files" then files else if y = Str.ofString "script" then sc else none
noncomputable abbrev lawEnv (L fa : Addr) (cd : Value) : Env := envOfC (Str.ofString "law") lawParts.2.2.1 L fa cd
noncomputable def modesL (ns : List Int) : List Int := [33261, 17407, 35309, 33188, 18415] ++ (ns.take 5).map fun v => Int.fmod (33261 + 2741 * v) 65536
section
variable {w : World} {p : Program} {loose : List Str} {mean : ExcName → Option Value} {mg mb : Str → Option Value} {H : Heap} {s : Shared} {A : Around}
/-- where the walk is to stand -/
noncomputable def Stop (P : Prop) : Prop := P
theorem Stop.go {P : Prop} (h : Stop P) : P := h
theorem c_law1 {Q : Flow → Shared → Prop} {E : Value → Shared → Prop} {L sc fa : Addr} {cd : Value} {o1 o2 o3 : Obj} {vs : List Value} {ns : List Int}
    (W : Wd w p loose mean mg mb H) (ok : Ok 12 A) (F : Fr H L s.heap (lawM (some (.ref sc)) none none none none)) (N : News H L s.heap [(L + 1 + 1 + 1, o3), (L + 1 + 1, o2), (L + 1, o1), (103, tabObj #[]), (16, tabObj #[]), (86, tabObj #[])])
    (d1 : o1.data = .cell none) (d2 : o2.data = .cell none) (d3 : o3.data = .cell none) (hl : H.IsList sc vs.toArray) (hI : IntsAre vs ns) (hlen : ns.length ≤ 63) (l16 : @LT.lt Nat _ 16 L ∧ @LT.lt Nat _ 86 L ∧ @LT.lt Nat _ 103 L)
    (k : ∀ lm us n h' tk o1', Fr H L h' (lawM (some (.ref sc)) none none none none) → News H L h' [(lm, PySem.W.listOf (List.toArray us) n), (L + 1 + 1 + 1, o3), (L + 1 + 1, o2), (L + 1, o1'), (103, tabObj #[]), (16, tabObj #[]), (86, tabObj #[])] → @LT.lt Nat _ (L + 1 + 1 + 1) lm → o1'.data = .cell (some (.ref lm)) → IntsAre us (modesL ns) →
      wpAny (model P0 w) (AL 12) (execs (lawParts.2.1.drop 1) (lawEnv L fa cd)) Q E { s with heap := h', toks := tk }) :
    wpAny (model P0 w) A (execs lawParts.2.1 (lawEnv L fa cd)) Q E s := by
  refine wp_weaken ok ?_
  clear ok
  have X := W.X
  have T := W.T
  obtain ⟨hp0, gn, dr, tk0, os0⟩ := s
  dsimp only [lawParts, lawEnv, List.drop] at k ⊢
  (repeat' (first | (k_unfold; (try dsimp only)) | ((first | with_reducible show wpAny _ _ _ _ _ _ | with_reducible show @ite _ _ _ _ _ | with_reducible show And _ _); (first | (with_reducible show wpAny _ _ (eval (Expr.ListComp _ _ _ _) _) _ _ _; (refine Stop.go ?_)) | walk1)) | (dsimp only; (first | with_reducible show wpAny _ _ _ _ _ _ | with_reducible show @ite _ _ _ _ _ | with_reducible show And _ _); (first | (with_reducible show wpAny _ _ (eval (Expr.ListComp _ _ _ _) _) _ _ _; (refine Stop.go ?_)) | walk1))))
  refine comp_ints (cl := []) (fun v => Int.fmod (33261 + 2741 * v) 65536) (ns.take 5) rfl rfl (by decide) rfl (by decide) rfl ?_
  (repeat' (first | (k_unfold; (try dsimp only)) | ((first | with_reducible show wpAny _ _ _ _ _ _ | with_reducible show @ite _ _ _ _ _ | with_reducible show And _ _); (first | (with_reducible show wpAny _ _ (eval (Expr.ListComp _ _ _ _) _) _ _ _; (refine Stop.go ?_)) | walk1)) | (dsimp only; (first | with_reducible show wpAny _ _ _ _ _ _ | with_reducible show @ite _ _ _ _ _ | with_reducible show And _ _); (first | (with_reducible show wpAny _ _ (eval (Expr.ListComp _ _ _ _) _) _ _ _; (refine Stop.go ?_)) | walk1))))
  dsimp only
  rename Fr _ _ _ _ => F1
  rename News _ _ _ _ => N1
  rename_i D1 ws1 h1 hI1 _ _ _
  have hlt5 : (ns.take 5).length ≤ 5 := by rw [List.length_take]; exact Nat.min_le_left _ _
  refine ⟨_, _, rfl, N1.isList (.head _), by assumption, by omega, fun C n t s3 m3 E' hC hn hns hm hk => ?_, fun D h2 tk2 ys kk nD eD hI2 hk2 => ?_⟩
  · have F3 : Fr H C s3.heap m3 := fr_comp (wr := []) F1 (fun _ hb => nomatch hb) hC hns (fun b o _ e => hk b o e)
    have N3 : News H C s3.heap [] := fun q hq => nomatch hq
    clear F1 N1
    obtain ⟨hp3, gn3, dr3, tk3, os3⟩ := s3
    dsimp only at F3 N3 hns hk ⊢
    (repeat' (first | (k_unfold; (try dsimp only)) | ((first | with_reducible show wpAny _ _ _ _ _ _ | with_reducible show @ite _ _ _ _ _ | with_reducible show And _ _); (first | (with_reducible show wpAny _ _ (eval (Expr.ListComp _ _ _ _) _) _ _ _; (refine Stop.go ?_)) | walk1)) | (dsimp only; (first | with_reducible show wpAny _ _ _ _ _ _ | with_reducible show @ite _ _ _ _ _ | with_reducible show And _ _); (first | (with_reducible show wpAny _ _ (eval (Expr.ListComp _ _ _ _) _) _ _ _; (refine Stop.go ?_)) | walk1))))
    · exact ⟨_, rfl⟩
    · exact ⟨_, _, rfl, fun _ _ e => e⟩
  · have F2 := fr_keep F1 (Kp.of hk2)
    have N2 := news_new F1 nD eD (news_keep N1 (Kp.of hk2))
    have lD := gnNe_of (fun (q : Addr × Obj) hq => news_lt (q := q) N1 hq nD)
    simp only [GnNe, and_true] at lD
    clear F1 N1
    iterate 2 ((first | (k_unfold; (try dsimp only)) | (first | (with_reducible show wpAny _ _ (eval (Expr.ListComp _ _ _ _) _) _ _ _; (refine Stop.go ?_)) | walk1) | (dsimp only; (first | (with_reducible show wpAny _ _ (eval (Expr.ListComp _ _ _ _) _) _ _ _; (refine Stop.go ?_)) | walk1))))
    rename Fr _ _ _ _ => F4
    rename News _ _ _ _ => N4
    rename IntsAre _ (_ ++ _) => hI4
    rename Obj.data _ = Data.cell (some (Value.ref _)) => hd4
    refine k _ _ 0 _ _ _ F4 ?N ?l hd4 hI4
    case N =>
      intro q hq
      refine N4 q ?_
      simp only [List.mem_cons, List.not_mem_nil, or_false] at hq ⊢
      rcases hq with h | h | h | h | h | h | h <;> simp [h]
    case l => omega
end
end Mine
end
theorem Mine.t_resetLW2 : True := by
  first | (walk1; fail "no") | trivial

section
open PySem PySem.W PyProof.Rows PySem.Spec PySem.Calls PySem.W.X
set_option maxRecDepth 100000
set_option maxHeartbeats 8000000
namespace Mine
theorem t_offLW2 : True := by
  w_top off
  trivial
noncomputable def mdL (ns : List Int) (i : Nat) : Int := (modesL ns).getD i 0
theorem modes_len (ns : List Int) : 5 ≤ (modesL ns).length ∧ (modesL ns).length ≤ 10 := by
  unfold modesL
  simp <;> omega
theorem tagS_len (m : Int) : (tagS m).length ≤ 1000 := by
  have e : (tagS m).length = ((tagL m).map (·.length)).sum := by
    rw [← cp_len]
    unfold tagS
    rw [cp_join0, List.length_flatten, List.map_map]
    exact congrArg List.sum (List.map_congr_left fun x _ => cp_len x)
  rw [e]
  have := tag_len m
  omega
noncomputable def fdAt (ys : Array Value) (i : Nat) : Addr := match ys[i]? with
  | some (.ref a) => a
  | _ => 0
/-- what lies at the files -/
structure RestOk (l : Addr) (ys : Array Value) (md : Nat → Int) (n : Nat) (rest : List (Addr × Obj)) : Prop where
  nf : ∀ q ∈ rest, (∃ fd, q.2.data = .func fd) ∨ (∃ es ep, q.2.data = .dict es ep)
  fl : ∀ h : Heap, h.IsList l ys → (∀ q ∈ rest, h.get? q.1 = some q.2) → Files h l ys (fdAt ys) (fun i => ((i : Nat) : Int)) (fun i => tagS (md i)) n
theorem rest_of {h₀ h : Heap} {md : Nat → Int} {ys : Array Value} {n : Nat} (f : FilesNew h₀ h md ys n) : ∀ i, i ≤ n → ∃ rest : List (Addr × Obj), (∀ q ∈ rest, h.get? q.1 = some q.2 ∧ h₀.get? q.1 = none) ∧ (∀ q ∈ rest, (∃ fd, q.2.data = .func fd) ∨ (∃ es ep, q.2.data = .dict es ep)) ∧
    ∀ h' : Heap, (∀ q ∈ rest, h'.get? q.1 = some q.2) → ∀ j, j < i → ∃ a, ys[j]? = some (.ref a) ∧ FileAt h' a j (tagS (md j)) := by
  intro i
  induction i with
  | zero => exact fun _ => ⟨[], fun q hq => (nomatch hq), fun q hq => (nomatch hq), fun h' _ j hj => absurd hj (Nat.not_lt_zero _)⟩
  | succ i ih =>
    intro hi
    obtain ⟨rest, r1, r2, r3⟩ := ih (by omega)
    obtain ⟨a, ea, ⟨⟨o, dx, od, mm, t, u, e1, c, nc, d, e2, dI, q1, q2⟩, n1, n2⟩⟩ := f.2 i (by omega)
    obtain ⟨fd, ef⟩ := nc
    refine ⟨(a, o) :: (dx, od) :: rest, ?_, ?_, fun h' k j hj => ?_⟩
    · intro q hq
      rcases List.mem_cons.mp hq with rfl | hq
      · exact ⟨e1, n1⟩
      rcases List.mem_cons.mp hq with rfl | hq
      · exact ⟨e2, n2 _ _ e1 d⟩
      · exact r1 q hq
    · intro q hq
      rcases List.mem_cons.mp hq with rfl | hq
      · exact .inl ⟨fd, ef⟩
      rcases List.mem_cons.mp hq with rfl | hq
      · obtain ⟨es, ep, e3, _⟩ := dI
        exact .inr ⟨es, ep, e3⟩
      · exact r2 q hq
    · by_cases h : j < i
      · exact r3 h' (fun q hq => k q (.tail _ (.tail _ hq))) j h
      · have : j = i := by omega
        subst this
        exact ⟨a, ea, o, dx, od, mm, t, u, k (a, o) (.head _), c, ⟨fd, ef⟩, d, k (dx, od) (.tail _ (.head _)), dI, q1, q2⟩
theorem rest_ok {h₀ h : Heap} {md : Nat → Int} {ys : Array Value} {n : Nat} {l : Addr} (hn : n ≤ 1000) (f : FilesNew h₀ h md ys n) : ∃ rest : List (Addr × Obj), (∀ q ∈ rest, h.get? q.1 = some q.2 ∧ h₀.get? q.1 = none) ∧ RestOk l ys md n rest := by
  obtain ⟨rest, r1, r2, r3⟩ := rest_of f n (Nat.le_refl _)
  refine ⟨rest, r1, r2, fun h' hl k => ⟨hl, hn, f.1, fun i hi => ?_, fun i hi => ?_, fun i _ => tagS_len _⟩⟩
  · obtain ⟨a, ea, _⟩ := r3 h' k i hi
    unfold fdAt
    rw [ea]
  · obtain ⟨a, ea, fa⟩ := r3 h' k i hi
    have e : fdAt ys i = a := by
      unfold fdAt
      rw [ea]
    rw [e]
    exact fa
section
variable {w : World} {p : Program} {loose : List Str} {mean : ExcName → Option Value} {mg mb : Str → Option Value} {H : Heap} {s : Shared} {A : Around}
theorem c_law2 {Q : Flow → Shared → Prop} {E : Value → Shared → Prop} {L sc fa lm : Addr} {cd : Value} {o1 o2 o3 : Obj} {us : List Value} {ns : List Int} {n1 : Nat}
    (W : Wd w p loose mean mg mb H) (F : Fr H L s.heap (lawM (some (.ref sc)) none none none none)) (N : News H L s.heap [(lm, PySem.W.listOf (List.toArray us) n1), (L + 1 + 1 + 1, o3), (L + 1 + 1, o2), (L + 1, o1), (103, tabObj #[]), (16, tabObj #[]), (86, tabObj #[])])
    (d1 : o1.data = .cell (some (.ref lm))) (hI : IntsAre us (modesL ns)) (hlm : @LT.lt Nat _ (L + 1 + 1 + 1) lm) (l16 : @LT.lt Nat _ 16 L ∧ @LT.lt Nat _ 86 L ∧ @LT.lt Nat _ 103 L)
    (k : ∀ lf ys nf rest pl h' tk, Fr H L h' (lawM (some (.ref sc)) (some (.ref lf)) none none none) → News H L h' ((lf, PySem.W.listOf ys nf) :: (lm, PySem.W.listOf (List.toArray us) n1) :: (L + 1 + 1 + 1, o3) :: (L + 1 + 1, o2) :: (L + 1, o1) :: (103, tabObj #[]) :: (16, tabObj #[]) :: (86, tabObj pl) :: rest) →
      RestOk lf ys (mdL ns) (modesL ns).length rest → wpAny (model P0 w) (AL 12) (execs (lawParts.2.1.drop 2) (lawEnv L fa cd)) Q E { s with heap := h', toks := tk }) :
    wpAny (model P0 w) (AL 12) (execs (lawParts.2.1.drop 1) (lawEnv L fa cd)) Q E s := by
  have X := W.X
  have T := W.T
  obtain ⟨hp0, gn, dr, tk0, os0⟩ := s
  dsimp only [lawParts, lawEnv, List.drop] at k ⊢
  (repeat' (first | (k_unfold; (try dsimp only)) | ((first | with_reducible show wpAny _ _ _ _ _ _ | with_reducible show @ite _ _ _ _ _ | with_reducible show And _ _); (first | (with_reducible show wpAny _ _ (exec (Stmt.Assign _ (Expr.ListComp _ _ _ _) _) _) _ _ _; (refine Stop.go ?_)) | walk1)) | (dsimp only; (first | with_reducible show wpAny _ _ _ _ _ _ | with_reducible show @ite _ _ _ _ _ | with_reducible show And _ _); (first | (with_reducible show wpAny _ _ (exec (Stmt.Assign _ (Expr.ListComp _ _ _ _) _) _) _ _ _; (refine Stop.go ?_)) | walk1))))
  refine files_assign (cl := [(Str.ofString "modes", L + 1)]) (md := mdL ns) rfl rfl (by decide) rfl (by decide) rfl (by decide) rfl rfl rfl ?_
  (repeat' (first | (k_unfold; (try dsimp only)) | ((first | with_reducible show wpAny _ _ _ _ _ _ | with_reducible show @ite _ _ _ _ _ | with_reducible show And _ _); (first | (with_reducible show wpAny _ _ (exec (Stmt.Assign _ (Expr.ListComp _ _ _ _) _) _) _ _ _; (refine Stop.go ?_)) | walk1)) | (dsimp only; (first | with_reducible show wpAny _ _ _ _ _ _ | with_reducible show @ite _ _ _ _ _ | with_reducible show And _ _); (first | (with_reducible show wpAny _ _ (exec (Stmt.Assign _ (Expr.ListComp _ _ _ _) _) _) _ _ _; (refine Stop.go ?_)) | walk1))))
  rename News _ _ _ _ => N1
  have hb := modes_len ns
  have hlu : us.length = (modesL ns).length := hI.length
  refine call_len_list (N1.isList (show (lm, PySem.W.listOf (List.toArray us) n1) ∈ _ by k_mem)) (by rw [List.size_toArray, hlu]; omega) ?_
  rw [List.size_toArray, hlu]
  dsimp only
  (repeat' (first | (k_unfold; (try dsimp only)) | ((first | with_reducible show wpAny _ _ _ _ _ _ | with_reducible show @ite _ _ _ _ _ | with_reducible show And _ _); (first | (with_reducible show wpAny _ _ (exec (Stmt.Assign _ (Expr.ListComp _ _ _ _) _) _) _ _ _; (refine Stop.go ?_)) | walk1)) | (dsimp only; (first | with_reducible show wpAny _ _ _ _ _ _ | with_reducible show @ite _ _ _ _ _ | with_reducible show And _ _); (first | (with_reducible show wpAny _ _ (exec (Stmt.Assign _ (Expr.ListComp _ _ _ _) _) _) _ _ _; (refine Stop.go ?_)) | walk1))))
  rename News _ _ _ _ => N2
  rename Fr _ _ _ _ => F2
  rename IsRange _ _ _ _ _ _ _ _ => R2
  rename_i h2 _ _ _ _ _
  refine ⟨_, (modesL ns).length, _, _, _, _, rfl, R2, by omega, F2.ns, rfl, .inl (N2 (86, _) (by k_mem)).1, fun C i t s' m' Q' E' hi hC hn hm hk tl hR => ?_, fun D h3 tk3 ys kk nD eD fs tl hn hk => ?_⟩
  · have F3 : Fr H C s'.heap m' := ⟨hn, fun b o e => hk b o (fun q => by rw [q, (N2 (86, _) (by k_mem)).2.2] at e; cases e) (F2.keep b o e), Nat.le_trans F2.above (Nat.le_trans (Nat.le_of_lt F2.ns.lt) hC)⟩
    have ne6 : ∀ q ∈ [(lm, PySem.W.listOf (List.toArray us) n1), (L + 1, o1)], q.1 ≠ 86 := by
      intro q hq
      simp only [List.mem_cons, List.not_mem_nil, or_false] at hq
      rcases hq with rfl | rfl
      · show lm ≠ 86
        exact fun q => by have q : @Eq Nat lm 86 := q; omega
      · show L + 1 ≠ 86
        exact fun q => by have q : @Eq Nat (L + 1) 86 := q; omega
    have N3 : News H C s'.heap [(lm, PySem.W.listOf (List.toArray us) n1), (L + 1, o1)] := by
      intro q hq
      have z := N2 q (by simp only [List.mem_cons, List.not_mem_nil, or_false] at hq ⊢; rcases hq with h | h <;> simp [h])
      exact ⟨hk _ _ (ne6 q hq) z.1, Nat.ne_of_lt (Nat.lt_of_lt_of_le (Heap.lt_size z.1) hC), z.2.2⟩
    have hRR := hR
    clear F2 N2 R2
    obtain ⟨hp3, gn3, dr3, tk3, os3⟩ := s'
    dsimp only at F3 N3 hR ⊢
    (repeat' (first | (k_unfold; (try dsimp only)) | ((first | with_reducible show wpAny _ _ _ _ _ _ | with_reducible show @ite _ _ _ _ _ | with_reducible show And _ _); (first | (with_reducible show wpAny _ _ (exec (Stmt.Assign _ (Expr.ListComp _ _ _ _) _) _) _ _ _; (refine Stop.go ?_)) | walk1)) | (dsimp only; (first | with_reducible show wpAny _ _ _ _ _ _ | with_reducible show @ite _ _ _ _ _ | with_reducible show And _ _); (first | (with_reducible show wpAny _ _ (exec (Stmt.Assign _ (Expr.ListComp _ _ _ _) _) _) _ _ _; (refine Stop.go ?_)) | walk1))))
    rw [Int.toNat_natCast]
    exact c_file W (fun b o e => F3.keep b o e) ((ok_AL (n := 12) (by decide)).less (by decide)) _ _ _ _ tl hR
  · have kb : ∀ b, h2.get? b = none → H.get? b = none ∧ b ≠ L := fun b e => ⟨(fr_ne F2 e).2, (fr_ne F2 e).1⟩
    have gL : H.get? L = none := Heap.get?_none_of_le F2.above
    have F4 : Fr H L h3 (lawM (some (.ref sc)) (some (.ref D)) none none none) := by
      refine fr_map (m := fun z => if z = Str.ofString "files" then some (Value.ref D) else lawM (some (.ref sc)) none none none none z) ⟨hn, fun b o e => hk b o (fun q => ?_) (fun q => ?_) (F2.keep b o e), F2.above⟩ (fun y => ?_)
      · have q : b = L := q
        rw [q, gL] at e; cases e
      · rw [q, (N2 (86, _) (by k_mem)).2.2] at e; cases e
      · by_cases h1 : y = Str.ofString "files"
        · subst h1; rfl
        · simp only [if_neg h1, lawM]
    obtain ⟨rest, r1, r2⟩ := rest_ok (l := D) (by omega) fs
    obtain ⟨pl, epl⟩ : ∃ pl, h3.get? 86 = some (tabObj pl) := by
      rcases tl with e | ⟨c, e, _⟩
      · exact ⟨_, e⟩
      · exact ⟨_, e⟩
    have up : ∀ q ∈ [(lm, PySem.W.listOf (List.toArray us) n1), (L + 1 + 1 + 1, o3), (L + 1 + 1, o2), (L + 1, o1), (103, tabObj #[]), (16, tabObj #[])], h3.get? q.1 = some q.2 ∧ q.1 ≠ L ∧ H.get? q.1 = none := by
      intro q hq
      have z := N2 q (by simp only [List.mem_cons, List.not_mem_nil, or_false] at hq ⊢; rcases hq with h | h | h | h | h | h <;> simp [h])
      refine ⟨hk _ _ z.2.1 (fun e => ?_) z.1, z.2⟩
      simp only [List.mem_cons, List.not_mem_nil, or_false] at hq
      rcases hq with rfl | rfl | rfl | rfl | rfl | rfl
      · have e : @Eq Nat lm 86 := e
        omega
      · have e : @Eq Nat (L + 1 + 1 + 1) 86 := e
        omega
      · have e : @Eq Nat (L + 1 + 1) 86 := e
        omega
      · have e : @Eq Nat (L + 1) 86 := e
        omega
      · exact absurd e (by decide)
      · exact absurd e (by decide)
    refine k D ys kk rest pl h3 tk3 F4 (fun q hq => ?_) r2
    rcases List.mem_cons.mp hq with rfl | hq
    · exact ⟨eD, (kb D nD).2, (kb D nD).1⟩
    have hq : q ∈ [(lm, PySem.W.listOf (List.toArray us) n1), (L + 1 + 1 + 1, o3), (L + 1 + 1, o2), (L + 1, o1), (103, tabObj #[]), (16, tabObj #[])] ++ (86, tabObj pl) :: rest := hq
    rcases List.mem_append.mp hq with hq | hq
    · exact up q hq
    rcases List.mem_cons.mp hq with rfl | hq
    · exact ⟨epl, (N2 (86, tabObj #[]) (by k_mem)).2⟩
    · exact ⟨(r1 q hq).1, (kb _ (r1 q hq).2).2, (kb _ (r1 q hq).2).1⟩
end
end Mine
end
theorem Mine.t_resetLW3 : True := by
  first | (walk1; fail "no") | trivial

section
open PySem PySem.W PyProof.Rows PySem.Spec PySem.Calls PySem.W.X
set_option maxRecDepth 100000
set_option maxHeartbeats 8000000
namespace Mine
theorem t_offLW3 : True := by
  w_top off
  trivial
section
variable {w : World} {p : Program} {loose : List Str} {mean : ExcName → Option Value} {mg mb : Str → Option Value} {H : Heap} {s : Shared} {A : Around}
theorem c_law3 {Q : Flow → Shared → Prop} {E : Value → Shared → Prop} {L sc fa lm lf : Addr} {cd : Value} {o1 : Obj} {us : List Value} {ns : List Int} {n1 : Nat} {ys : Array Value} {nf : Nat} {rest : List (Addr × Obj)}
    (W : Wd w p loose mean mg mb H) (F : Fr H L s.heap (lawM (some (.ref sc)) (some (.ref lf)) none none none)) (N : News H L s.heap ((lf, PySem.W.listOf ys nf) :: (lm, PySem.W.listOf (List.toArray us) n1) :: (L + 1, o1) :: rest))
    (d1 : o1.data = .cell (some (.ref lm))) (hI : IntsAre us (modesL ns))
    (k : ∀ lw ws nw h' tk, Fr H L h' (lawM (some (.ref sc)) (some (.ref lf)) none (some (.ref lw)) none) → News H L h' ((lw, PySem.W.listOf (List.toArray ws) nw) :: (lf, PySem.W.listOf ys nf) :: (lm, PySem.W.listOf (List.toArray us) n1) :: (L + 1, o1) :: rest) →
      s.heap.get? lw = none → IntsAre ws ((modesL ns).map wgt) → wpAny (model P0 w) (AL 12) (execs (lawParts.2.1.drop 3) (lawEnv L fa cd)) Q E { s with heap := h', toks := tk }) :
    wpAny (model P0 w) (AL 12) (execs (lawParts.2.1.drop 2) (lawEnv L fa cd)) Q E s := by
  have X := W.X
  have T := W.T
  obtain ⟨hp0, gn, dr, tk0, os0⟩ := s
  dsimp only [lawParts, lawEnv, List.drop] at k ⊢
  (repeat' (first | (k_unfold; (try dsimp only)) | ((first | with_reducible show wpAny _ _ _ _ _ _ | with_reducible show @ite _ _ _ _ _ | with_reducible show And _ _); (first | (with_reducible show wpAny _ _ (exec (Stmt.Assign _ (Expr.ListComp _ _ _ _) _) _) _ _ _; (refine Stop.go ?_)) | walk1)) | (dsimp only; (first | with_reducible show wpAny _ _ _ _ _ _ | with_reducible show @ite _ _ _ _ _ | with_reducible show And _ _); (first | (with_reducible show wpAny _ _ (exec (Stmt.Assign _ (Expr.ListComp _ _ _ _) _) _) _ _ _; (refine Stop.go ?_)) | walk1))))
  refine comp_ints_assign (cl := []) wgt (modesL ns) rfl rfl rfl (by decide) rfl (by decide) rfl rfl rfl ?_
  (repeat' (first | (k_unfold; (try dsimp only)) | ((first | with_reducible show wpAny _ _ _ _ _ _ | with_reducible show @ite _ _ _ _ _ | with_reducible show And _ _); (first | (with_reducible show wpAny _ _ (exec (Stmt.Assign _ (Expr.ListComp _ _ _ _) _) _) _ _ _; (refine Stop.go ?_)) | walk1)) | (dsimp only; (first | with_reducible show wpAny _ _ _ _ _ _ | with_reducible show @ite _ _ _ _ _ | with_reducible show And _ _); (first | (with_reducible show wpAny _ _ (exec (Stmt.Assign _ (Expr.ListComp _ _ _ _) _) _) _ _ _; (refine Stop.go ?_)) | walk1))))
  have hb := modes_len ns
  refine ⟨lm, us, _, rfl, N.isList (show (lm, PySem.W.listOf (List.toArray us) n1) ∈ _ by k_mem), hI, by omega, F.ns, fun C n t s3 m3 E' hC hn hns hm hk => ?_, fun D h2 tk2 ys kk nD eD hI2 hn2 hk2 => ?_⟩
  · have F3 : Fr H C s3.heap m3 := fr_comp (wr := []) F (fun _ hb => nomatch hb) hC hns (fun b o _ e => hk b o e)
    have N3 : News H C s3.heap [] := fun q hq => nomatch hq
    clear F N
    obtain ⟨hp3, gn3, dr3, tk3, os3⟩ := s3
    dsimp only at F3 N3 hns hk ⊢
    (repeat' (first | (k_unfold; (try dsimp only)) | ((first | with_reducible show wpAny _ _ _ _ _ _ | with_reducible show @ite _ _ _ _ _ | with_reducible show And _ _); (first | (with_reducible show wpAny _ _ (exec (Stmt.Assign _ (Expr.ListComp _ _ _ _) _) _) _ _ _; (refine Stop.go ?_)) | walk1)) | (dsimp only; (first | with_reducible show wpAny _ _ _ _ _ _ | with_reducible show @ite _ _ _ _ _ | with_reducible show And _ _); (first | (with_reducible show wpAny _ _ (exec (Stmt.Assign _ (Expr.ListComp _ _ _ _) _) _) _ _ _; (refine Stop.go ?_)) | walk1))))
    refine c_weight W (fun b o e => F3.keep b o e) ((ok_AL (n := 12) (by decide)).less (by decide)) _ _ ?_
    intro u h' tk kp
    exact ⟨⟨_, rfl⟩, h', tk, rfl, fun b o e => kp b o e (fun q => nomatch q)⟩
  · have gL : H.get? L = none := Heap.get?_none_of_le F.above
    have kL : ∀ b, H.get? b = none → b ≠ L → True := fun _ _ _ => trivial
    have F4 : Fr H L h2 (lawM (some (.ref sc)) (some (.ref lf)) none (some (.ref D)) none) := by
      refine fr_map (m := fun z => if z = Str.ofString "weights" then some (Value.ref D) else lawM (some (.ref sc)) (some (.ref lf)) none none none z) ⟨hn2, fun b o e => hk2 b o (fun q => ?_) (F.keep b o e), F.above⟩ (fun y => ?_)
      · have q : b = L := q
        rw [q, gL] at e; cases e
      · by_cases h1 : y = Str.ofString "weights"
        · subst h1; rfl
        · simp only [if_neg h1, lawM]
    refine k D ys kk h2 tk2 F4 (fun q hq => ?_) nD hI2
    rcases List.mem_cons.mp hq with rfl | hq
    · exact ⟨eD, (fr_ne F nD).1, (fr_ne F nD).2⟩
    · have z := N q hq
      exact ⟨hk2 _ _ z.2.1 z.1, z.2⟩
end
end Mine
end

section
open PySem PySem.W PyProof.Rows PySem.Spec PySem.Calls PySem.W.X
set_option maxRecDepth 100000
set_option maxHeartbeats 8000000
namespace Mine
section
variable {w : World} {p : Program} {loose : List Str} {mean : ExcName → Option Value} {mg mb : Str → Option Value} {H : Heap} {s : Shared} {A : Around} {Q E : Value → Shared → Prop}
noncomputable def TabWok (g : Heap) (c1 : Addr) (pw : Array Value) (cw : Addr) (ocw : Obj) : Prop := (∀ h' : Heap, h'.get? 103 = some (tabObj pw) → h'.get? cw = some ocw → g.StaysIn h' → TabWalk h') ∧ (cw = c1 ∨ ∃ vs t, ocw.data = .fields vs ∧ vs[1]? = some (.str walkQual t))
theorem TabWalk.now {g h : Heap} {L c1 : Addr} {o1 : Obj} {m : Str → Option Value} (x : TabWalk h) (F : Fr g L h m) (e1 : h.get? c1 = some o1) (n1 : c1 ≠ L ∧ g.get? c1 = none) : ∃ ps cc occ, h.get? 103 = some (tabObj ps) ∧ h.get? cc = some occ ∧ (cc ≠ L ∧ g.get? cc = none) ∧ TabWok g c1 ps cc occ := by
  rcases x with e | ⟨c, e, cr, n⟩
  · exact ⟨#[], c1, o1, e, e1, n1, fun h' k _ _ => .inl k, .inl rfl⟩
  · obtain ⟨c', oc, vs, t, q1, e2, d, r⟩ := id cr
    cases q1
    cases q : g.get? c with
    | none =>
      refine ⟨_, c, oc, e, e2, ⟨fun z => ?_, q⟩, fun h' k k2 _ => .inr ⟨c, k, ⟨c, oc, vs, t, rfl, k2, d, r⟩, n⟩, .inr ⟨vs, t, d, r⟩⟩
      obtain ⟨oL, es, ep, eL, dL, _⟩ := F.ns
      rw [z, eL] at e2
      cases e2
      rw [d] at dL
      cases dL
    | some o =>
      refine ⟨_, c1, o1, e, e1, n1, fun h' k _ k3 => .inr ⟨c, k, cr.at fun o' z => ?_, n⟩, .inl rfl⟩
      rw [F.keep c o q] at z
      cases z
      exact k3 c o q
/-- a code's record by one entry of the ledger -/
theorem code_now {g h : Heap} {L c1 c : Addr} {o1 : Obj} {q : Str} {m : Str → Option Value} (cr : h.CodeRec (.ref c) q) (F : Fr g L h m) (e1 : h.get? c1 = some o1) (n1 : c1 ≠ L ∧ g.get? c1 = none) : ∃ cx ox, h.get? cx = some ox ∧ (cx ≠ L ∧ g.get? cx = none) ∧ (∀ h' : Heap, h'.get? cx = some ox → g.StaysIn h' → h'.CodeRec (.ref c) q) ∧ (cx = c1 ∨ ∃ vs t, ox.data = .fields vs ∧ vs[1]? = some (.str q t)) := by
  obtain ⟨c', oc, vs, t, q1, e2, d, r⟩ := id cr
  cases q1
  cases z : g.get? c with
  | none =>
    refine ⟨c, oc, e2, ⟨fun y => ?_, z⟩, fun h' k _ => ⟨c, oc, vs, t, rfl, k, d, r⟩, .inr ⟨vs, t, d, r⟩⟩
    obtain ⟨oL, es, ep, eL, dL, _⟩ := F.ns
    rw [y, eL] at e2
    cases e2
    rw [d] at dL
    cases dL
  | some o =>
    refine ⟨c1, o1, e1, n1, fun h' _ k3 => cr.at fun o' y => ?_, .inl rfl⟩
    rw [F.keep c o z] at y
    cases y
    exact k3 c o z
theorem sel_tab {h : Heap} {c : Addr} {oc : Obj} {vs : Array Value} {t : Tok} {q : Str} (x : TabSel h) (e : h.get? c = some oc) (d : oc.data = .fields vs) (r : vs[1]? = some (.str q t)) : c ≠ 16 := fun y => by
  rcases x with e' | ⟨c9, e', _⟩
  · rw [y, e'] at e; cases e; cases d; cases r.symm
  · rw [y, e'] at e; cases e; cases d; cases r.symm
theorem walk_tab {h : Heap} {c : Addr} {oc : Obj} {vs : Array Value} {t : Tok} {q : Str} (x : TabWalk h) (e : h.get? c = some oc) (d : oc.data = .fields vs) (r : vs[1]? = some (.str q t)) : c ≠ 103 := fun y => by
  rcases x with e' | ⟨c9, e', _⟩
  · rw [y, e'] at e; cases e; cases d; cases r.symm
  · rw [y, e'] at e; cases e; cases d; cases r.symm
theorem n16 : ¬ ((16 : Nat) = 103) := by decide
theorem n103 : ¬ ((103 : Nat) = 16) := by decide
theorem k_walker {g : Heap} {L l c1 : Addr} {m : Str → Option Value} {ps pw : Array Value} {cc cw : Addr} {occ ocw o1 : Obj} {tail : List (Addr × Obj)} (F : Fr g L s.heap m) (N : News g L s.heap ((16, tabObj ps) :: (cc, occ) :: (103, tabObj pw) :: (cw, ocw) :: (c1, o1) :: tail)) (tb : TabOk g c1 ps cc occ) (tw : TabWok g c1 pw cw ocw)
    (ne : ∀ q ∈ (c1, o1) :: tail, q.1 ≠ 16 ∧ q.1 ≠ 103) (W : Wd w p loose mean mg mb H) (st : H.StaysIn g) (ok : Ok 2 A) (x : Str) (t : Tok)
    (k : ∀ f h' tk e1 e2 oe1 oe2 doc pm ct c cx ox pw' cw' ocw', Fr g L h' m → News g L h' ((f, walkFn e1 e2 doc pm c ct) :: (e1, oe1) :: (e2, oe2) :: (cx, ox) :: (16, tabObj ps) :: (cc, occ) :: (103, tabObj pw') :: (cw', ocw') :: (c1, o1) :: tail) → TabWok g c1 pw' cw' ocw' → (∀ h'' : Heap, h''.get? cx = some ox → g.StaysIn h'' → h''.CodeRec (.ref c) walkQual) →
      oe1.data = .cell (some (.str x t)) → oe2.data = .cell (some (.ref l)) → (H.get? e1 = none ∧ H.get? e2 = none) → Q (.ref f) { s with heap := h', toks := tk }) : wpAny (model P0 w) A (call (.ref 108) [.ref l, .str x t]) Q E s := by
  have stT : TabWalk s.heap := tw.1 _ (N (103, _) (by k_mem)).1 (N (cw, ocw) (by k_mem)).1 F.keep
  refine c_walker W (fun b o e => F.keep b o (st b o e)) ok l x t stT ?_
  intro f h' tk e1 e2 oe1 oe2 doc pm ct c kp tw' wa
  have F' := fr_kp F kp (fun z hz => by rw [List.mem_singleton.mp hz]; exact ⟨(N (103, _) (by k_mem)).2.2, (N (103, _) (by k_mem)).2.1⟩)
  have z1 := N (c1, o1) (by k_mem)
  have g1 : h'.get? c1 = some o1 := kp _ _ z1.1 (fun q => (ne _ (.head _)).2 (List.mem_singleton.mp q))
  obtain ⟨pw', cw', ocw', q1, q2, q3, q4⟩ := tw'.now F' g1 z1.2
  obtain ⟨cx, ox, r1, r2, r3, r4⟩ := code_now wa.code F' g1 z1.2
  have new : ∀ b, s.heap.get? b = none → b ≠ L ∧ g.get? b = none := fun b e => fr_ne F e
  have hcc : cc ≠ 103 := by
    rcases tb.2 with e | ⟨vs, t', dv, r⟩
    · rw [e]; exact (ne _ (.head _)).2
    · exact walk_tab stT (N (cc, occ) (by k_mem)).1 dv r
  have hH : ∀ b, s.heap.get? b = none → H.get? b = none := fun b e => by
    cases q : H.get? b with
    | none => rfl
    | some o => rw [F.keep b o (st b o q)] at e; cases e
  refine k f h' tk e1 e2 oe1 oe2 doc pm ct c cx ox pw' cw' ocw' F' (fun q hq => ?_) q4 r3 wa.d1 wa.d2 ⟨hH _ wa.n1, hH _ wa.n2⟩
  rcases List.mem_cons.mp hq with rfl | hq
  · exact ⟨wa.fn, new _ wa.n0⟩
  rcases List.mem_cons.mp hq with rfl | hq
  · exact ⟨wa.g1, new _ wa.n1⟩
  rcases List.mem_cons.mp hq with rfl | hq
  · exact ⟨wa.g2, new _ wa.n2⟩
  rcases List.mem_cons.mp hq with rfl | hq
  · exact ⟨r1, r2⟩
  rcases List.mem_cons.mp hq with rfl | hq
  · have z := N (16, tabObj ps) (by k_mem)
    exact ⟨kp _ _ z.1 (fun q => n16 (List.mem_singleton.mp q)), z.2⟩
  rcases List.mem_cons.mp hq with rfl | hq
  · have z := N (cc, occ) (by k_mem)
    exact ⟨kp _ _ z.1 (fun q => hcc (List.mem_singleton.mp q)), z.2⟩
  rcases List.mem_cons.mp hq with rfl | hq
  · exact ⟨q1, (N (103, tabObj pw) (by k_mem)).2⟩
  rcases List.mem_cons.mp hq with rfl | hq
  · exact ⟨q2, q3⟩
  · have z := N q (.tail _ (.tail _ (.tail _ (.tail _ hq))))
    exact ⟨kp _ _ z.1 (fun r => (ne q hq).2 (List.mem_singleton.mp r)), z.2⟩
theorem k_reduce {g : Heap} {L l c1 f e1 e2 c cx r : Addr} {m : Str → Option Value} {ps pw : Array Value} {cc cw : Addr} {occ ocw o1 oe1 oe2 ox : Obj} {tail rest : List (Addr × Obj)} {doc pm ct : Value} {mo : Int} {t1 tr1 tr2 tr3 : Tok} {ys : Array Value} {nf n : Nat} {md : Nat → Int} (F : Fr g L s.heap m) (N : News g L s.heap ((f, walkFn e1 e2 doc pm c ct) :: (e1, oe1) :: (e2, oe2) :: (cx, ox) :: (16, tabObj ps) :: (cc, occ) :: (103, tabObj pw) :: (cw, ocw) :: (c1, o1) :: tail)) (tb : TabOk g c1 ps cc occ) (tw : TabWok g c1 pw cw ocw)
    (ne : ∀ q ∈ (c1, o1) :: tail, q.1 ≠ 16 ∧ q.1 ≠ 103) (RO : RestOk l ys md n rest) (sub : ∀ q ∈ (l, PySem.W.listOf ys nf) :: rest, q ∈ tail) (W : Wd w p loose mean mg mb H) (st : H.StaysIn g) (ok : Ok 8 A) (hr : IsRange s.heap r 0 9 1 tr1 tr2 tr3)
    (code : ∀ h'' : Heap, h''.get? cx = some ox → g.StaysIn h'' → h''.CodeRec (.ref c) walkQual) (d1 : oe1.data = .cell (some (.str (rowS mo) t1))) (d2 : oe2.data = .cell (some (.ref l))) (hn : H.get? e1 = none ∧ H.get? e2 = none) (t : Tok)
    (k : ∀ u h' tk gens' ps' cc' occ', Fr g L h' m → News g L h' ((16, tabObj ps') :: (cc', occ') :: (103, tabObj pw) :: (cw, ocw) :: (c1, o1) :: tail) → TabOk g c1 ps' cc' occ' → (AllBare s.gens → AllBare gens') → Q (.str (wholeS (fun i => tagS (md i)) n mo 9) u) { s with heap := h', toks := tk, gens := gens' }) :
    wpAny (model P0 w) A (call (.ref 30) [.ref f, .ref r, .str (Str.ofString "") t]) Q E s := by
  have stS : TabSel s.heap := tb.1 _ (N (16, _) (by k_mem)).1 (N (cc, occ) (by k_mem)).1 F.keep
  have zl := N (l, PySem.W.listOf ys nf) (.tail _ (.tail _ (.tail _ (.tail _ (.tail _ (.tail _ (.tail _ (.tail _ (.tail _ (sub _ (.head _)))))))))))
  have FL := RO.fl s.heap ⟨_, zl.1, rfl, _, rfl⟩ (fun q hq => (N q (.tail _ (.tail _ (.tail _ (.tail _ (.tail _ (.tail _ (.tail _ (.tail _ (.tail _ (sub _ (.tail _ hq))))))))))) ).1)
  refine c_reduce W (fun b o e => F.keep b o (st b o e)) ok f l e1 e2 c r oe1 oe2 doc pm ct mo t t1 tr1 tr2 tr3 ps (N (f, _) (by k_mem)).1 (code _ (N (cx, ox) (by k_mem)).1 F.keep) (N (e1, oe1) (by k_mem)).1 (N (e2, oe2) (by k_mem)).1 d1 d2 hn.1 hn.2 hr (N (16, _) (by k_mem)).1 stS FL ?_
  intro u h' tk gens' kp tb' bare
  have F' := fr_kp F kp (fun z hz => by rw [List.mem_singleton.mp hz]; exact ⟨(N (16, _) (by k_mem)).2.2, (N (16, _) (by k_mem)).2.1⟩)
  have z1 := N (c1, o1) (by k_mem)
  have g1 : h'.get? c1 = some o1 := kp _ _ z1.1 (fun q => (ne _ (.head _)).1 (List.mem_singleton.mp q))
  obtain ⟨ps', cc', occ', q1, q2, q3, q4⟩ := tb'.now F' g1 z1.2
  have hcw : cw ≠ 16 := by
    rcases tw.2 with e | ⟨vs, t', dv, r⟩
    · rw [e]; exact (ne _ (.head _)).1
    · exact sel_tab stS (N (cw, ocw) (by k_mem)).1 dv r
  refine k u h' tk gens' ps' cc' occ' F' (fun q hq => ?_) q4 bare
  rcases List.mem_cons.mp hq with rfl | hq
  · exact ⟨q1, (N (16, tabObj ps) (by k_mem)).2⟩
  rcases List.mem_cons.mp hq with rfl | hq
  · exact ⟨q2, q3⟩
  rcases List.mem_cons.mp hq with rfl | hq
  · have z := N (103, tabObj pw) (by k_mem)
    exact ⟨kp _ _ z.1 (fun q => n103 (List.mem_singleton.mp q)), z.2⟩
  rcases List.mem_cons.mp hq with rfl | hq
  · have z := N (cw, ocw) (by k_mem)
    exact ⟨kp _ _ z.1 (fun q => hcw (List.mem_singleton.mp q)), z.2⟩
  · have z := N q (.tail _ (.tail _ (.tail _ (.tail _ (.tail _ (.tail _ (.tail _ (.tail _ hq))))))))
    exact ⟨kp _ _ z.1 (fun r => (ne q hq).1 (List.mem_singleton.mp r)), z.2⟩
theorem k_found2 {g : Heap} {L l c1 : Addr} {m : Str → Option Value} {ps pw : Array Value} {cc cw : Addr} {occ ocw o1 : Obj} {tail rest : List (Addr × Obj)} {ys : Array Value} {nf n : Nat} {md : Nat → Int} (F : Fr g L s.heap m) (N : News g L s.heap ((16, tabObj ps) :: (cc, occ) :: (103, tabObj pw) :: (cw, ocw) :: (c1, o1) :: tail)) (tb : TabOk g c1 ps cc occ) (tw : TabWok g c1 pw cw ocw)
    (ne : ∀ q ∈ (c1, o1) :: tail, q.1 ≠ 16 ∧ q.1 ≠ 103) (RO : RestOk l ys md n rest) (sub : ∀ q ∈ (l, PySem.W.listOf ys nf) :: rest, q ∈ tail) (W : Wd w p loose mean mg mb H) (st : H.StaysIn g) (ok : Ok 4 A) (x : Str) (hx : HeadOk x) (t : Tok)
    (k : ∀ D n' vs h' tk gens' ps' cc' occ', Fr g L h' m → News g L h' ((D, PySem.W.listOf (List.toArray vs) n') :: (16, tabObj ps') :: (cc', occ') :: (103, tabObj pw) :: (cw, ocw) :: (c1, o1) :: tail) → TabOk g c1 ps' cc' occ' → (AllBare s.gens → AllBare gens') → s.heap.get? D = none → IntsAre vs ((passing (pzOf (fun i => tagS (md i)) x) n 0).map fun i => ((i : Nat) : Int)) → Q (.ref D) { s with heap := h', toks := tk, gens := gens' }) :
    wpAny (model P0 w) A (call (.ref 94) [.ref l, .str x t]) Q E s := by
  have stS : TabSel s.heap := tb.1 _ (N (16, _) (by k_mem)).1 (N (cc, occ) (by k_mem)).1 F.keep
  have zl := N (l, PySem.W.listOf ys nf) (.tail _ (.tail _ (.tail _ (.tail _ (.tail _ (sub _ (.head _)))))))
  have FL := RO.fl s.heap ⟨_, zl.1, rfl, _, rfl⟩ (fun q hq => (N q (.tail _ (.tail _ (.tail _ (.tail _ (.tail _ (sub _ (.tail _ hq)))))))).1)
  refine c_found W (fun b o e => F.keep b o (st b o e)) ok l ys x t hx stS FL.hl FL.hn0 FL.hsz FL.hat FL.hfl FL.htl ?_
  intro D h' tk gens' zs kp tb' bare pl nD hP
  obtain ⟨n', eD⟩ := pl
  have F' := fr_kp F kp (fun z hz => by rw [List.mem_singleton.mp hz]; exact ⟨(N (16, _) (by k_mem)).2.2, (N (16, _) (by k_mem)).2.1⟩)
  have z1 := N (c1, o1) (by k_mem)
  have g1 : h'.get? c1 = some o1 := kp _ _ z1.1 (fun q => (ne _ (.head _)).1 (List.mem_singleton.mp q))
  obtain ⟨ps', cc', occ', q1, q2, q3, q4⟩ := tb'.now F' g1 z1.2
  have hcw : cw ≠ 16 := by
    rcases tw.2 with e | ⟨vs, t', dv, r⟩
    · rw [e]; exact (ne _ (.head _)).1
    · exact sel_tab stS (N (cw, ocw) (by k_mem)).1 dv r
  refine k D n' zs.toList h' tk gens' ps' cc' occ' F' (fun q hq => ?_) q4 bare nD (ints_of hP)
  rcases List.mem_cons.mp hq with rfl | hq
  · exact ⟨eD, fr_ne F nD⟩
  rcases List.mem_cons.mp hq with rfl | hq
  · exact ⟨q1, (N (16, tabObj ps) (by k_mem)).2⟩
  rcases List.mem_cons.mp hq with rfl | hq
  · exact ⟨q2, q3⟩
  rcases List.mem_cons.mp hq with rfl | hq
  · have z := N (103, tabObj pw) (by k_mem)
    exact ⟨kp _ _ z.1 (fun q => n103 (List.mem_singleton.mp q)), z.2⟩
  rcases List.mem_cons.mp hq with rfl | hq
  · have z := N (cw, ocw) (by k_mem)
    exact ⟨kp _ _ z.1 (fun q => hcw (List.mem_singleton.mp q)), z.2⟩
  · have z := N q (.tail _ (.tail _ (.tail _ (.tail _ hq))))
    exact ⟨kp _ _ z.1 (fun r => (ne q hq).1 (List.mem_singleton.mp r)), z.2⟩
theorem k_wgt {g : Heap} {L : Addr} {m : Str → Option Value} {news : List (Addr × Obj)} (F : Fr g L s.heap m) (N : News g L s.heap news) (W : Wd w p loose mean mg mb H) (st : H.StaysIn g) (ok : Ok 1 A) (x : Int) (t : Tok)
    (k : ∀ u h' tk, Fr g L h' m → News g L h' news → Q (.int (wgt x) u) { s with heap := h', toks := tk }) : wpAny (model P0 w) A (call (.ref 115) [.int x t]) Q E s :=
  c_weight W (fun b o e => F.keep b o (st b o e)) ok x t fun u h' tk kp => k u h' tk (fr_keep F kp) (news_keep N kp)
end
end Mine
end
theorem Mine.t_resetLU1 : True := by
  first | (walk1; fail "no") | trivial

section
open PySem PySem.W PyProof.Rows PySem.Spec PySem.Calls PySem.W.X
set_option maxRecDepth 100000
set_option maxHeartbeats 8000000
namespace Mine
theorem t_offLU1 : True := by
  w_top off
  trivial
noncomputable def forBody : List Stmt := stmtsIn (nthS lawParts.2.1 3)
section
variable {w : World} {p : Program} {loose : List Str} {mean : ExcName → Option Value} {mg mb : Str → Option Value} {H : Heap} {s : Shared} {A : Around}
theorem fr_whole {g h : Heap} {L : Addr} {a b c d e : Option Value} {v : Value} (F : Fr g L h (fun y => if y = Str.ofString "whole" then some v else lawM a b c d e y)) : Fr g L h (lawM a b c d (some v)) := fr_map F fun y => by
  by_cases h : y = Str.ofString "whole"
  · subst h; rfl
  · simp only [if_neg h, lawM]
theorem c_turn1 {Q : Flow → Shared → Prop} {E : Value → Shared → Prop} {L fa lf : Addr} {cd : Value} {o1 : Obj} {ps pw : Array Value} {cc cw : Addr} {occ ocw : Obj} {tail rest : List (Addr × Obj)} {ys : Array Value} {nf n : Nat} {md : Nat → Int} {vsc vw vwh : Option Value} {mo : Int} {tm : Tok}
    (W : Wd w p loose mean mg mb H) (F : Fr H L s.heap (lawM vsc (some (.ref lf)) (some (.int mo tm)) vw vwh)) (N : News H L s.heap ((16, tabObj ps) :: (cc, occ) :: (103, tabObj pw) :: (cw, ocw) :: (L + 1, o1) :: tail)) (tb : TabOk H (L + 1) ps cc occ) (tw : TabWok H (L + 1) pw cw ocw)
    (ne : ∀ q ∈ (L + 1, o1) :: tail, q.1 ≠ 16 ∧ q.1 ≠ 103) (RO : RestOk lf ys md n rest) (sub : ∀ q ∈ (lf, PySem.W.listOf ys nf) :: rest, q ∈ tail)
    (k : ∀ u h' tk gens' ps' cc' occ' pw' cw' ocw', Fr H L h' (lawM vsc (some (.ref lf)) (some (.int mo tm)) vw (some (.str (wholeS (fun i => tagS (md i)) n mo 9) u))) → News H L h' ((16, tabObj ps') :: (cc', occ') :: (103, tabObj pw') :: (cw', ocw') :: (L + 1, o1) :: tail) → TabOk H (L + 1) ps' cc' occ' → TabWok H (L + 1) pw' cw' ocw' → (AllBare s.gens → AllBare gens') →
      wpAny (model P0 w) (AL 12) (execs (forBody.drop 1) (lawEnv L fa cd)) Q E { s with heap := h', toks := tk, gens := gens' }) :
    wpAny (model P0 w) (AL 12) (execs forBody (lawEnv L fa cd)) Q E s := by
  have X := W.X
  have T := W.T
  have st : H.StaysIn H := fun _ _ e => e
  obtain ⟨hp0, gn, dr, tk0, os0⟩ := s
  dsimp only [forBody, stmtsIn, nthS, lawParts, lawEnv, List.drop, List.getD, List.getElem?_cons_succ, List.getElem?_cons_zero, Option.getD_some] at k ⊢
  have lmo : (fmode mo).length ≤ 1000 := by rw [fmode_len]; decide
  iterate 44 ((first | (k_unfold; (try dsimp only)) | (first | (k_here; (with_reducible show wpAny _ _ (call (Value.ref 30) _) _ _ _); k_dflt (refine' k_reduce ?F ?N (by assumption) (by assumption) (by assumption) (by assumption) (by assumption) (by assumption) (by assumption) ((ok_AL (n := 12) (by decide)).less (by decide)) (by assumption) (by assumption) (by assumption) (by assumption) (by assumption) _ ?_; (case F => k_asm); (case N => k_asm)); k_whole; intro _ _ _ _ _ _ _ _ _ _ _) | (k_here; (with_reducible show wpAny _ _ (call (Value.ref 108) _) _ _ _); k_dflt (refine' k_walker ?F ?N (by assumption) (by assumption) (by assumption) (by assumption) (by assumption) ((ok_AL (n := 12) (by decide)).less (by decide)) _ _ ?_; (case F => k_asm); (case N => k_asm)); k_whole; intro _ _ _ _ _ _ _ _ _ _ _ _ _ _ _ _ _ _ _ _ _ _ _) | (k_here; (with_reducible show wpAny _ _ (call (Value.ref 77) _) _ _ _); k_dflt (refine' k_fmode ?F ?N (by assumption) (by assumption) ((ok_AL (n := 12) (by decide)).less (by decide)) _ _ ?_; (case F => k_asm); (case N => k_asm)); k_whole; intro _ _ _ _ _) | (with_reducible show wpAny _ _ (exec (Stmt.Assign _ (Expr.ListComp _ _ _ _) _) _) _ _ _; (refine Stop.go ?_)) | walk1) | (dsimp only; (first | (k_here; (with_reducible show wpAny _ _ (call (Value.ref 30) _) _ _ _); k_dflt (refine' k_reduce ?F ?N (by assumption) (by assumption) (by assumption) (by assumption) (by assumption) (by assumption) (by assumption) ((ok_AL (n := 12) (by decide)).less (by decide)) (by assumption) (by assumption) (by assumption) (by assumption) (by assumption) _ ?_; (case F => k_asm); (case N => k_asm)); k_whole; intro _ _ _ _ _ _ _ _ _ _ _) | (k_here; (with_reducible show wpAny _ _ (call (Value.ref 108) _) _ _ _); k_dflt (refine' k_walker ?F ?N (by assumption) (by assumption) (by assumption) (by assumption) (by assumption) ((ok_AL (n := 12) (by decide)).less (by decide)) _ _ ?_; (case F => k_asm); (case N => k_asm)); k_whole; intro _ _ _ _ _ _ _ _ _ _ _ _ _ _ _ _ _ _ _ _ _ _ _) | (k_here; (with_reducible show wpAny _ _ (call (Value.ref 77) _) _ _ _); k_dflt (refine' k_fmode ?F ?N (by assumption) (by assumption) ((ok_AL (n := 12) (by decide)).less (by decide)) _ _ ?_; (case F => k_asm); (case N => k_asm)); k_whole; intro _ _ _ _ _) | (with_reducible show wpAny _ _ (exec (Stmt.Assign _ (Expr.ListComp _ _ _ _) _) _) _ _ _; (refine Stop.go ?_)) | walk1))))
  rename Fr _ _ _ _ => Fq
  rename News _ _ _ _ => Nq
  rename (AllBare _ → AllBare _) => bq
  rename TabOk _ _ _ _ _ => tbq
  rename TabWok _ _ _ _ _ => twq
  refine k _ _ _ _ _ _ _ _ _ _ (fr_whole Fq) Nq tbq twq bq
end
end Mine
end
theorem Mine.t_resetLU2 : True := by
  first | (walk1; fail "no") | trivial

section
open PySem PySem.W PyProof.Rows PySem.Spec PySem.Calls PySem.W.X
set_option maxRecDepth 100000
set_option maxHeartbeats 8000000
namespace Mine
theorem t_offLU2 : True := by
  w_top off
  trivial
section
variable {w : World} {p : Program} {loose : List Str} {mean : ExcName → Option Value} {mg mb : Str → Option Value} {H : Heap} {s : Shared} {A : Around}
local macro_rules | `(tactic| walk_at "storeName") => `(tactic| (k_here; k_dflt (refine' storeX_C ?F ?N ?c ?U ?d ?_ ?a ?b; (case a => rfl); (case b => rfl); (case F => k_asm); (case N => k_asm); (case c => rfl); (case U => exact UpdF.head (by assumption)); (case d => k_asm); k_whole; intro h' o' F' N' d'; (try dsimp only at N'))))
theorem c_turn2 {Q : Flow → Shared → Prop} {E : Value → Shared → Prop} {L fa lw : Addr} {cd : Value} {o2 o3 : Obj} {tail : List (Addr × Obj)} {vsc vf vwh : Option Value} {mo : Int} {tm : Tok} {ws : List Value} {nw : Nat} {wns : List Int} {v2 v3 : Option Value}
    (W : Wd w p loose mean mg mb H) (F : Fr H L s.heap (lawM vsc vf (some (.int mo tm)) (some (.ref lw)) vwh)) (N : News H L s.heap ((L + 1 + 1, o2) :: (L + 1 + 1 + 1, o3) :: (lw, PySem.W.listOf (List.toArray ws) nw) :: tail)) (d2 : o2.data = .cell v2) (d3 : o3.data = .cell v3)
    (hI : IntsAre ws wns) (hlen : wns.length ≤ 1000) (hA : ∀ q ∈ (L + 1 + 1 + 1, o3) :: (lw, PySem.W.listOf (List.toArray ws) nw) :: tail, q.1 ≠ L + 1 + 1) (hB : ∀ q ∈ (lw, PySem.W.listOf (List.toArray ws) nw) :: tail, q.1 ≠ L + 1 + 1 + 1)
    (k : ∀ u h' tk o2' o3' D ks kn, Fr H L h' (lawM vsc vf (some (.int mo tm)) (some (.ref lw)) vwh) → News H L h' ((L + 1 + 1, o2') :: (L + 1 + 1 + 1, o3') :: (D, PySem.W.listOf (List.toArray ks) kn) :: (lw, PySem.W.listOf (List.toArray ws) nw) :: tail) → o2'.data = .cell (some (.int (wgt mo) u)) → o3'.data = .cell (some (.ref D)) → IntsAre ks (wns.map fun x => apart (wgt mo) x) → (∀ q ∈ (L + 1 + 1, o2') :: (L + 1 + 1 + 1, o3') :: (lw, PySem.W.listOf (List.toArray ws) nw) :: tail, q.1 ≠ D) →
      wpAny (model P0 w) (AL 12) (execs (forBody.drop 3) (lawEnv L fa cd)) Q E { s with heap := h', toks := tk }) :
    wpAny (model P0 w) (AL 12) (execs (forBody.drop 1) (lawEnv L fa cd)) Q E s := by
  have X := W.X
  have T := W.T
  have st : H.StaysIn H := fun _ _ e => e
  obtain ⟨hp0, gn, dr, tk0, os0⟩ := s
  dsimp only [forBody, stmtsIn, nthS, lawParts, lawEnv, List.drop, List.getD, List.getElem?_cons_succ, List.getElem?_cons_zero, Option.getD_some] at k ⊢
  (repeat' (first | (k_unfold; (try dsimp only)) | ((first | with_reducible show wpAny _ _ _ _ _ _ | with_reducible show @ite _ _ _ _ _ | with_reducible show And _ _); (first | (k_here; (with_reducible show wpAny _ _ (call (Value.ref 115) _) _ _ _); k_dflt (refine' k_wgt ?F ?N (by assumption) (by assumption) ((ok_AL (n := 12) (by decide)).less (by decide)) _ _ ?_; (case F => k_asm); (case N => k_asm)); k_whole; intro _ _ _ _ _) | (with_reducible show wpAny _ _ (eval (Expr.ListComp _ _ _ _) _) _ _ _; (refine Stop.go ?_)) | walk1)) | (dsimp only; (first | with_reducible show wpAny _ _ _ _ _ _ | with_reducible show @ite _ _ _ _ _ | with_reducible show And _ _); (first | (k_here; (with_reducible show wpAny _ _ (call (Value.ref 115) _) _ _ _); k_dflt (refine' k_wgt ?F ?N (by assumption) (by assumption) ((ok_AL (n := 12) (by decide)).less (by decide)) _ _ ?_; (case F => k_asm); (case N => k_asm)); k_whole; intro _ _ _ _ _) | (with_reducible show wpAny _ _ (eval (Expr.ListComp _ _ _ _) _) _ _ _; (refine Stop.go ?_)) | walk1))))
  clear F N
  rename_i h2 o2' _ _ d2'
  rename Fr _ _ _ _ => F2
  rename News _ _ _ _ => N2
  refine comp_ints (cl := [(Str.ofString "own", L + 1 + 1)]) (fun x => apart (wgt mo) x) wns rfl rfl (by decide) rfl (by decide) rfl ?_
  (repeat' (first | (k_unfold; (try dsimp only)) | ((first | with_reducible show wpAny _ _ _ _ _ _ | with_reducible show @ite _ _ _ _ _ | with_reducible show And _ _); (first | (k_here; (with_reducible show wpAny _ _ (call (Value.ref 115) _) _ _ _); k_dflt (refine' k_wgt ?F ?N (by assumption) (by assumption) ((ok_AL (n := 12) (by decide)).less (by decide)) _ _ ?_; (case F => k_asm); (case N => k_asm)); k_whole; intro _ _ _ _ _) | (with_reducible show wpAny _ _ (eval (Expr.ListComp _ _ _ _) _) _ _ _; (refine Stop.go ?_)) | walk1)) | (dsimp only; (first | with_reducible show wpAny _ _ _ _ _ _ | with_reducible show @ite _ _ _ _ _ | with_reducible show And _ _); (first | (k_here; (with_reducible show wpAny _ _ (call (Value.ref 115) _) _ _ _); k_dflt (refine' k_wgt ?F ?N (by assumption) (by assumption) ((ok_AL (n := 12) (by decide)).less (by decide)) _ _ ?_; (case F => k_asm); (case N => k_asm)); k_whole; intro _ _ _ _ _) | (with_reducible show wpAny _ _ (eval (Expr.ListComp _ _ _ _) _) _ _ _; (refine Stop.go ?_)) | walk1))))
  refine ⟨lw, ws, rfl, N2.isList (show (lw, PySem.W.listOf (List.toArray ws) nw) ∈ _ by k_mem), hI, by omega, fun C n t s3 m3 E' hC hn hns hm hk => ?_, fun D h3 tk3 ks kn nD eD hI3 hk3 => ?_⟩
  · have F3 : Fr H C s3.heap m3 := fr_comp (wr := []) F2 (fun _ hb => nomatch hb) hC hns (fun b o _ e => hk b o e)
    have N3 : News H C s3.heap [(L + 1 + 1, o2')] := fun q hq => by
      rw [List.mem_singleton.mp hq]
      have z := N2 (L + 1 + 1, o2') (by k_mem)
      exact ⟨hk _ _ z.1, Nat.ne_of_lt (Nat.lt_of_lt_of_le (Heap.lt_size z.1) hC), z.2.2⟩
    clear F2 N2
    obtain ⟨hp3, gn3, dr3, tk3, os3⟩ := s3
    dsimp only at F3 N3 hns hk ⊢
    (repeat' (first | (k_unfold; (try dsimp only)) | ((first | with_reducible show wpAny _ _ _ _ _ _ | with_reducible show @ite _ _ _ _ _ | with_reducible show And _ _); (first | (k_here; (with_reducible show wpAny _ _ (call (Value.ref 115) _) _ _ _); k_dflt (refine' k_wgt ?F ?N (by assumption) (by assumption) ((ok_AL (n := 12) (by decide)).less (by decide)) _ _ ?_; (case F => k_asm); (case N => k_asm)); k_whole; intro _ _ _ _ _) | (with_reducible show wpAny _ _ (eval (Expr.ListComp _ _ _ _) _) _ _ _; (refine Stop.go ?_)) | walk1)) | (dsimp only; (first | with_reducible show wpAny _ _ _ _ _ _ | with_reducible show @ite _ _ _ _ _ | with_reducible show And _ _); (first | (k_here; (with_reducible show wpAny _ _ (call (Value.ref 115) _) _ _ _); k_dflt (refine' k_wgt ?F ?N (by assumption) (by assumption) ((ok_AL (n := 12) (by decide)).less (by decide)) _ _ ?_; (case F => k_asm); (case N => k_asm)); k_whole; intro _ _ _ _ _) | (with_reducible show wpAny _ _ (eval (Expr.ListComp _ _ _ _) _) _ _ _; (refine Stop.go ?_)) | walk1))))
    refine c_apart W (fun b o e => F3.keep b o e) ((ok_AL (n := 12) (by decide)).less (by decide)) _ _ _ _ ?_
    intro u h' tk kp
    exact ⟨⟨_, rfl⟩, h', tk, rfl, fun b o e => kp b o e (fun q => nomatch q)⟩
  · have F4 := fr_keep F2 (Kp.of hk3)
    have N4 : News H L h3 ((L + 1 + 1 + 1, o3) :: (L + 1 + 1, o2') :: (D, PySem.W.listOf (List.toArray ks) kn) :: (lw, PySem.W.listOf (List.toArray ws) nw) :: tail) := fun q hq => by
      have z := news_new F2 nD eD (news_keep N2 (Kp.of hk3)) q
      simp only [List.mem_cons] at hq z
      exact z (by rcases hq with h | h | h | h | h <;> simp [h])
    have lD : ∀ q ∈ (L + 1 + 1, o2') :: (L + 1 + 1 + 1, o3) :: (lw, PySem.W.listOf (List.toArray ws) nw) :: tail, q.1 ≠ D := fun q hq => news_lt (q := q) N2 hq nD
    have hB' : ∀ q ∈ (L + 1 + 1, o2') :: (D, PySem.W.listOf (List.toArray ks) kn) :: (lw, PySem.W.listOf (List.toArray ws) nw) :: tail, q.1 ≠ L + 1 + 1 + 1 := fun q hq => by
      rcases List.mem_cons.mp hq with rfl | hq
      · exact Nat.ne_of_lt (Nat.lt_succ_self _)
      rcases List.mem_cons.mp hq with rfl | hq
      · exact fun e => lD (L + 1 + 1 + 1, o3) (by k_mem) e.symm
      · exact hB q hq
    clear F2 N2
    ((first | (k_unfold; (try dsimp only)) | (first | (k_here; (with_reducible show wpAny _ _ (call (Value.ref 115) _) _ _ _); k_dflt (refine' k_wgt ?F ?N (by assumption) (by assumption) ((ok_AL (n := 12) (by decide)).less (by decide)) _ _ ?_; (case F => k_asm); (case N => k_asm)); k_whole; intro _ _ _ _ _) | (with_reducible show wpAny _ _ (eval (Expr.ListComp _ _ _ _) _) _ _ _; (refine Stop.go ?_)) | walk1) | (dsimp only; (first | (k_here; (with_reducible show wpAny _ _ (call (Value.ref 115) _) _ _ _); k_dflt (refine' k_wgt ?F ?N (by assumption) (by assumption) ((ok_AL (n := 12) (by decide)).less (by decide)) _ _ ?_; (case F => k_asm); (case N => k_asm)); k_whole; intro _ _ _ _ _) | (with_reducible show wpAny _ _ (eval (Expr.ListComp _ _ _ _) _) _ _ _; (refine Stop.go ?_)) | walk1))))
    rename_i h4 o3' F5 N5 d3'
    refine k _ h4 _ o2' o3' D ks kn F5 (fun q hq => N5 q ?_) d2' d3' hI3 (fun q hq => ?_)
    · simp only [List.mem_cons] at hq ⊢
      rcases hq with h | h | h | h | h <;> simp [h]
    · rcases List.mem_cons.mp hq with rfl | hq
      · exact lD (L + 1 + 1, o2') (.head _)
      rcases List.mem_cons.mp hq with rfl | hq
      · exact lD (L + 1 + 1 + 1, o3) (.tail _ (.head _))
      · exact lD q (.tail _ (.tail _ hq))
end
end Mine
end

section
open PySem PySem.W PyProof.Rows PySem.Spec PySem.Calls PySem.W.X
set_option maxRecDepth 100000
set_option maxHeartbeats 8000000
namespace Mine
section
variable {w : World} {s : Shared} {A : Around} {Q E : Value → Shared → Prop} {env : Env}
noncomputable def pickV (sel : Nat → Bool) : Value → Bool
  | .int k _ => sel k.toNat
  | _ => false
theorem pick_ints {sel : Nat → Bool} : ∀ {vs ys : List Value} {a : Nat}, (∀ (j : Nat) (v : Value), vs[j]? = some v → ∃ t, v = Value.int ((a + j : Nat) : Int) t) → Paired (fun (v y : Value) => ∃ n t u, v = .int n t ∧ y = .int n u) (vs.filter (pickV sel)) ys → IntsAre ys (((List.range' a vs.length).filter sel).map fun i => ((i : Nat) : Int))
  | [], ys, a, _, p => by cases p; exact .nil
  | v :: vs, ys, a, h, p => by
    obtain ⟨t, e⟩ := h 0 v rfl
    rw [Nat.add_zero] at e
    subst e
    have h' : ∀ (j : Nat) (v : Value), vs[j]? = some v → ∃ t, v = Value.int ((a + 1 + j : Nat) : Int) t := fun j v q => by
      have z := h (j + 1) v (by simpa using q)
      rw [show a + 1 + j = a + (j + 1) from by omega]
      exact z
    have hp : pickV sel (.int ((a : Nat) : Int) t) = sel a := by simp [pickV]
    rw [List.filter_cons, hp] at p
    rw [List.length_cons, List.range'_succ, List.filter_cons]
    cases q : sel a with
    | false =>
      rw [q] at p
      exact pick_ints h' p
    | true =>
      rw [q] at p
      simp only [if_true] at p ⊢
      cases p with
      | cons hd tl =>
        obtain ⟨n', t', u, e1, e2⟩ := hd
        cases e1
        subst e2
        exact .cons _ u (pick_ints h' tl)
/-- a comprehension over a range with a test -/
theorem comp_pick {elt iter c : Expr} {x : Str} {px : Pos} {scope : Scope} {cl : List (Str × Addr)} {pos : Pos} (sel : Nat → Bool) (n : Nat)
    (hh : A.handled = none) (hclos : closureFor scope env = pure cl) (hcell : ∀ y ∈ scope.names, y.2 ≠ .cell) (hkind : scope.kind = .function)
    (hnames : ∀ y ∈ scope.names, y.2 = .local → scope.names.lookup y.1 = some .local) (hx : scope.names.lookup x = some .local)
    (h : wpAny (model P0 w) A (eval iter env) (fun xv s₁ => ∃ r t u v, xv = .ref r ∧ IsRange s₁.heap r 0 ((n : Nat) : Int) 1 t u v ∧ n ≤ 1000 ∧
      (∀ C i t (s₃ : Shared) m₃ E', s₁.heap.objs.size ≤ C → i < n → s₃.heap.Ns C m₃ → m₃ x = some (.int ((i : Nat) : Int) t) → (∀ b o, s₁.heap.get? b = some o → s₃.heap.get? b = some o) →
        wpAny (model P0 w) A (isTrue c (compEnvC scope cl C env) (eval c (compEnvC scope cl C env))) (fun ok s₄ => ok = sel i ∧ Keeps s₃ s₄) E' s₃) ∧
      (∀ C i t (s₃ : Shared) m₃ E', s₁.heap.objs.size ≤ C → i < n → s₃.heap.Ns C m₃ → m₃ x = some (.int ((i : Nat) : Int) t) → (∀ b o, s₁.heap.get? b = some o → s₃.heap.get? b = some o) →
        wpAny (model P0 w) A (eval elt (compEnvC scope cl C env)) (fun y s₄ => (∃ u, y = .int ((i : Nat) : Int) u) ∧ Keeps s₃ s₄) E' s₃) ∧
      (∀ D h' tk ys k, s₁.heap.get? D = none → h'.get? D = some (PySem.W.listOf (List.toArray ys) k) → IntsAre ys (((List.range n).filter sel).map fun i => ((i : Nat) : Int)) → (∀ b o, s₁.heap.get? b = some o → h'.get? b = some o) → Q (.ref D) { s₁ with heap := h', toks := tk })) E s)
    (hs : ∀ x, foldedSetIterable iter env x = pure x := by intro _; rfl) :
    wpAny (model P0 w) A (eval (.ListComp elt [⟨.Name x px, iter, [c], 0⟩] scope pos) env) Q E s := by
  refine wpAny_ListComp_free (pickV sel) (fun v y => ∃ n t u, v = .int n t ∧ y = .int n u) hclos hcell hkind hnames hx (wpAny_mono h (fun xv s₁ h₁ => ?_) fun _ _ e => e) hs
  obtain ⟨r, t, u, v, rfl, hr, hn, htest, helt, hQ⟩ := h₁
  have hsm : Builtin.Range.small 0 ((n : Nat) : Int) 1 = true := small_one (by decide) (by decide) (by omega) (by omega)
  have hrs : Builtin.Range.rangeSize 0 ((n : Nat) : Int) 1 = ((n : Nat) : Int) := by
    rw [rangeSize_nat]
    omega
  refine wpAny_pyIter_range hr hsm ?_
  rw [hrs]
  dsimp only
  have up : ∀ b o, s₁.heap.get? b = some o → (s₁.heap.push { cls := .type "range_iterator", dict := none, data := .fields #[rawInt 0, rawInt ((n : Nat) : Int), rawInt 1], slots := #[] }).get? b = some o := fun b o e => Heap.get?_push_of_some _ e
  have sub : ∀ h' : Heap, (∀ b o, b ∉ [s₁.heap.objs.size] → (s₁.heap.push { cls := .type "range_iterator", dict := none, data := .fields #[rawInt 0, rawInt ((n : Nat) : Int), rawInt 1], slots := #[] }).get? b = some o → h'.get? b = some o) → ∀ b o, s₁.heap.get? b = some o → h'.get? b = some o := fun h' k b o e => k b o (fun q => Nat.ne_of_lt (Heap.lt_size e) (List.mem_singleton.mp q)) (up b o e)
  refine ⟨s₁.heap.objs.size, [s₁.heap.objs.size], [s₁.heap.objs.size], n, _, _, rfl, (Walks.range hh s₁.heap.objs.size 0 1 n).bound, ?_, ?_, ?_, ⟨fun C i v s₃ m₃ E' hC hP hns hm hk _ => ?_, fun C i v s₃ m₃ E' hC hP _ hns hm hk _ => ?_⟩, ?_⟩
  · have : (1000 : Nat) ≤ sizeLine := by decide
    omega
  · show IsRangeIter _ _ _ _ _
    simpa using Heap.get?_push_size _ rfl
  · intro b hb
    rw [List.mem_singleton.mp hb]
    (try dsimp only)
    rw [Heap.size_push]
    exact Nat.lt_succ_self _
  · obtain ⟨hi, t', e⟩ := hP
    rw [show (0 : Int) + (i : Int) * 1 = ((i : Nat) : Int) from by omega] at e
    subst e
    refine wpAny_tests_one (wpAny_mono (htest C i t' s₃ m₃ E' (Nat.le_trans (by dsimp only; rw [Heap.size_push]; exact Nat.le_succ _) hC) hi hns hm (sub _ hk)) (fun ok s₄ ⟨e, k⟩ => ⟨?_, k⟩) fun _ _ e => e)
    rw [e]; simp [pickV]
  · obtain ⟨hi, t', e⟩ := hP
    rw [show (0 : Int) + (i : Int) * 1 = ((i : Nat) : Int) from by omega] at e
    subst e
    refine wpAny_mono (helt C i t' s₃ m₃ E' (Nat.le_trans (by dsimp only; rw [Heap.size_push]; exact Nat.le_succ _) hC) hi hns hm (sub _ hk)) (fun y s₄ ⟨⟨u, e⟩, k⟩ => ⟨⟨_, t', u, rfl, e⟩, k⟩) fun _ _ e => e
  · intro D h' tk ys vs' nD lD pD lv' hv hp k
    obtain ⟨n', eD⟩ := pD
    have nD' : s₁.heap.get? D = none := by
      cases q : s₁.heap.get? D with
      | none => rfl
      | some o => rw [show _ = some o from up D o q] at nD; cases nD
    have hi := pick_ints (sel := sel) (a := 0) (fun j v q => by
      obtain ⟨_, t', e⟩ := hv j v q
      exact ⟨t', by rw [e, show (0 : Int) + (j : Int) * 1 = ((0 + j : Nat) : Int) from by omega]⟩) hp
    rw [lv', ← List.range_eq_range'] at hi
    exact hQ D h' tk ys.toList n' nD' (by simpa using eD) hi (sub _ k)
theorem ints_get : ∀ {vs : List Value} {ns : List Int}, IntsAre vs ns → ∀ {i : Nat} {n : Int}, ns[i]? = some n → ∃ t, vs[i]? = some (.int n t)
  | _, _, .nil, i, n, h => by simp at h
  | _, _, .cons a t r, 0, n, h => by simp at h; subst h; exact ⟨t, rfl⟩
  | _, _, .cons a t r, i + 1, n, h => by
    obtain ⟨t', e⟩ := ints_get r (i := i) (n := n) (by simpa using h)
    exact ⟨t', by simpa using e⟩
/-- the greatest of a list of ints; all objects stay -/
theorem max_keep {l : Addr} {vs : List Value} {ns : List Int} (hh : A.handled = none) (hl : s.heap.IsList l vs.toArray) (hi : IntsAre vs ns) (hne : 0 < ns.length)
    (h : ∀ h' M t tk, (∀ b o, s.heap.get? b = some o → h'.get? b = some o) → M ∈ ns → (∀ a, a ∈ ns → a ≤ M) → Q (.int M t) { s with heap := h', toks := tk }) :
    wpAny (model P0 w) A (call (.builtin "max") [.ref l]) Q E s := by
  obtain ⟨xs, ex⟩ := hi.allInts.items
  have at' : ∀ i : Nat, (intItems xs)[i]? = vs[i]? := fun i => by
    rw [← ex]
    exact List.getElem?_toArray
  have sz : xs.size = ns.length := by
    have z : (intItems xs).size = xs.size := by simp [intItems]
    rw [← z, ← ex, List.size_toArray, hi.length]
  have num : ∀ i n, ns[i]? = some n → numAt xs i = n := fun i n q => by
    obtain ⟨t, e⟩ := ints_get hi q
    obtain ⟨t', e'⟩ := intItems_at ((at' i).trans e)
    cases e'
    rfl
  rw [ex] at hl
  refine max_intList hh hl (by omega) fun v h' tk hv hk => ?_
  rw [at'] at hv
  obtain ⟨M, t, eM, rfl⟩ := ints_at hi hv
  refine h h' M t tk hk (List.mem_of_getElem? eM) fun a ha => ?_
  obtain ⟨j, hj⟩ := List.mem_iff_getElem?.mp ha
  have lj : j < ns.length := (List.getElem?_eq_some_iff.mp hj).1
  rw [← num j a hj, ← num _ M eM]
  exact (argBest_gt (numAt xs) (xs.size - 1)).2 j (by omega)
end
end Mine
end
theorem Mine.t_resetLU3 : True := by
  first | (walk1; fail "no") | trivial

section
open PySem PySem.W PyProof.Rows PySem.Spec PySem.Calls PySem.W.X
set_option maxRecDepth 100000
set_option maxHeartbeats 8000000
namespace Mine
theorem t_offLU3 : True := by
  w_top off
  trivial
theorem exists_top : ∀ l : List Int, l ≠ [] → ∃ M, M ∈ l ∧ ∀ a ∈ l, a ≤ M
  | [], h => absurd rfl h
  | [x], _ => ⟨x, .head _, fun a ha => by rw [List.mem_singleton.mp ha]; exact Int.le_refl _⟩
  | x :: y :: r, _ => by
    obtain ⟨M, hM, hle⟩ := exists_top (y :: r) (by simp)
    by_cases h : M ≤ x
    · exact ⟨x, .head _, fun a ha => by
        rcases List.mem_cons.mp ha with rfl | ha
        · exact Int.le_refl _
        · exact Int.le_trans (hle a ha) h⟩
    · exact ⟨M, .tail _ hM, fun a ha => by
        rcases List.mem_cons.mp ha with rfl | ha
        · omega
        · exact hle a ha⟩
noncomputable def waysL (ns : List Int) (mo : Int) : List Int := ((modesL ns).map wgt).map fun x => apart (wgt mo) x
theorem ways_len (ns : List Int) (mo : Int) : (waysL ns mo).length = (modesL ns).length := by simp [waysL]
theorem modes_pos (ns : List Int) : ∀ x ∈ modesL ns, 0 ≤ x := by
  intro x hx
  unfold modesL at hx
  rcases List.mem_append.mp hx with h | h
  · simp at h
    rcases h with rfl | rfl | rfl | rfl | rfl <;> decide
  · obtain ⟨v, _, rfl⟩ := List.mem_map.mp h
    rw [Int.fmod_eq_emod_of_nonneg _ (by decide)]
    exact Int.emod_nonneg _ (by decide)
theorem md_pos (ns : List Int) (i : Nat) : 0 ≤ mdL ns i := by
  unfold mdL
  rw [List.getD_eq_getElem?_getD]
  cases h : (modesL ns)[i]? with
  | none => exact Int.le_refl _
  | some x => exact modes_pos ns x (List.mem_of_getElem? h)
theorem ways_get (ns : List Int) {mo : Int} (hm : 0 ≤ mo) {i : Nat} (hi : i < (modesL ns).length) : (waysL ns mo).getD i 0 = ((val mo (mdL ns i) 9 : Nat) : Int) := by
  obtain ⟨a, ea⟩ := Int.eq_ofNat_of_zero_le hm
  obtain ⟨b, eb⟩ := Int.eq_ofNat_of_zero_le (md_pos ns i)
  have e : (waysL ns mo).getD i 0 = apart (wgt mo) (wgt (mdL ns i)) := by
    unfold waysL mdL
    rw [List.getD_eq_getElem?_getD, List.getD_eq_getElem?_getD, List.getElem?_map, List.getElem?_map, List.getElem?_eq_getElem hi]
    rfl
  rw [e, ea, eb]
  exact val_apart a b
/-- the plain law -/
theorem found_eq (ns : List Int) {mo M : Int} (hm : 0 ≤ mo) (hM : M ∈ waysL ns mo) (hle : ∀ a ∈ waysL ns mo, a ≤ M) :
    passing (pzOf (fun i => tagS (mdL ns i)) (wholeS (fun i => tagS (mdL ns i)) (modesL ns).length mo 9)) (modesL ns).length 0 = (List.range (modesL ns).length).filter (fun i => decide ((waysL ns mo).getD i 0 = M)) := by
  have hn := modes_len ns
  obtain ⟨V, ⟨i0, hi0, e0⟩, le, eq⟩ := whole_found (n := (modesL ns).length) (md := mdL ns) (m := mo) (by omega)
  have hin : ∀ i, i < (modesL ns).length → (waysL ns mo).getD i 0 ∈ waysL ns mo := fun i hi => by
    rw [List.getD_eq_getElem?_getD, List.getElem?_eq_getElem (by rw [ways_len]; exact hi)]
    exact List.getElem_mem _
  have e1 : ((V : Nat) : Int) ≤ M := by
    have := hle _ (hin i0 hi0)
    rw [ways_get ns hm hi0, e0] at this
    exact this
  have e2 : M ≤ ((V : Nat) : Int) := by
    obtain ⟨j, hj, e⟩ := List.mem_iff_getElem.mp hM
    have hj' : j < (modesL ns).length := by rw [ways_len] at hj; exact hj
    have g := ways_get ns hm hj'
    rw [List.getD_eq_getElem?_getD, List.getElem?_eq_getElem hj] at g
    have g' : M = ((val mo (mdL ns j) 9 : Nat) : Int) := by rw [← e]; exact g
    rw [g']
    exact Int.ofNat_le.mpr (le j hj')
  rw [eq]
  refine List.filter_congr fun i hi => ?_
  have hi' := List.mem_range.mp hi
  rw [Bool.eq_iff_iff, beq_iff_eq, decide_eq_true_eq, ways_get ns hm hi']
  omega
section
variable {w : World} {p : Program} {loose : List Str} {mean : ExcName → Option Value} {mg mb : Str → Option Value} {H : Heap} {s : Shared} {A : Around}
noncomputable def KeepFrom (h₀ h : Heap) : Prop := ∀ b o, h₀.get? b = some o → h.get? b = some o
theorem k_max {g : Heap} {L l : Addr} {m : Str → Option Value} {news : List (Addr × Obj)} {vs : List Value} {nl : Nat} {zs : List Int} {h0 : Heap} {Q E : Value → Shared → Prop} (F : Fr g L s.heap m) (N : News g L s.heap news) (hh : A.handled = none) (hm : (l, PySem.W.listOf (List.toArray vs) nl) ∈ news) (hi : IntsAre vs zs) (hne : 0 < zs.length) (k0 : KeepFrom h0 s.heap)
    (k : ∀ h' M t tk, Fr g L h' m → News g L h' news → KeepFrom h0 h' → M ∈ zs → (∀ a, a ∈ zs → a ≤ M) → Q (.int M t) { s with heap := h', toks := tk }) : wpAny (model P0 w) A (call (.builtin "max") [.ref l]) Q E s :=
  max_keep hh (N.isList hm) hi hne fun h' M t tk kp h1 h2 => k h' M t tk (fr_keep F (Kp.of kp)) (news_keep N (Kp.of kp)) (fun b o e => kp b o (k0 b o e)) h1 h2
theorem c_turn4 {Q : Flow → Shared → Prop} {E : Value → Shared → Prop} {L fa lf lm D : Addr} {cd : Value} {o1 o3 : Obj} {ps pw : Array Value} {cc cw : Addr} {occ ocw : Obj} {tail rest : List (Addr × Obj)} {ys : Array Value} {nf n1 kn : Nat} {vsc vw vmo : Option Value} {mo : Int} {ns : List Int} {us ks : List Value} {tu : Tok}
    (W : Wd w p loose mean mg mb H) (F : Fr H L s.heap (lawM vsc (some (.ref lf)) vmo vw (some (.str (wholeS (fun i => tagS (mdL ns i)) (modesL ns).length mo 9) tu)))) (N : News H L s.heap ((16, tabObj ps) :: (cc, occ) :: (103, tabObj pw) :: (cw, ocw) :: (L + 1, o1) :: (L + 1 + 1 + 1, o3) :: (D, PySem.W.listOf (List.toArray ks) kn) :: (lm, PySem.W.listOf (List.toArray us) n1) :: tail)) (tb : TabOk H (L + 1) ps cc occ) (tw : TabWok H (L + 1) pw cw ocw)
    (ne : ∀ q ∈ (L + 1, o1) :: (L + 1 + 1 + 1, o3) :: (D, PySem.W.listOf (List.toArray ks) kn) :: (lm, PySem.W.listOf (List.toArray us) n1) :: tail, q.1 ≠ 16 ∧ q.1 ≠ 103) (RO : RestOk lf ys (mdL ns) (modesL ns).length rest) (sub : ∀ q ∈ (lf, PySem.W.listOf ys nf) :: rest, q ∈ (L + 1 + 1 + 1, o3) :: (D, PySem.W.listOf (List.toArray ks) kn) :: (lm, PySem.W.listOf (List.toArray us) n1) :: tail)
    (d1 : o1.data = .cell (some (.ref lm))) (d3 : o3.data = .cell (some (.ref D))) (hI : IntsAre us (modesL ns)) (hK : IntsAre ks (waysL ns mo)) (hm : 0 ≤ mo)
    (k : ∀ h' tk gens' ps' cc' occ', Fr H L h' (lawM vsc (some (.ref lf)) vmo vw (some (.str (wholeS (fun i => tagS (mdL ns i)) (modesL ns).length mo 9) tu))) → News H L h' ((16, tabObj ps') :: (cc', occ') :: (103, tabObj pw) :: (cw, ocw) :: (L + 1, o1) :: (L + 1 + 1 + 1, o3) :: (D, PySem.W.listOf (List.toArray ks) kn) :: (lm, PySem.W.listOf (List.toArray us) n1) :: tail) → TabOk H (L + 1) ps' cc' occ' → (AllBare s.gens → AllBare gens') →
      Q .next { s with heap := h', toks := tk, gens := gens' }) :
    wpAny (model P0 w) (AL 12) (execs (forBody.drop 3) (lawEnv L fa cd)) Q E s := by
  have X := W.X
  have T := W.T
  have st : H.StaysIn H := fun _ _ e => e
  have hb := modes_len ns
  have hok : HeadOk (wholeS (fun i => tagS (mdL ns i)) (modesL ns).length mo 9) := whole_ok (by omega)
  obtain ⟨hp0, gn, dr, tk0, os0⟩ := s
  dsimp only [forBody, stmtsIn, nthS, lawParts, lawEnv, List.drop, List.getD, List.getElem?_cons_succ, List.getElem?_cons_zero, Option.getD_some]
  dsimp only at k
  (repeat' (first | (k_unfold; (try dsimp only)) | ((first | with_reducible show wpAny _ _ _ _ _ _ | with_reducible show @ite _ _ _ _ _ | with_reducible show And _ _); (first | (with_reducible show wpAny _ _ (call (Value.builtin _) _) _ _ _; (k_here; k_dflt (refine' k_max ?F ?N rfl ?hm ?hi ?hne ?k0 ?_; (case F => k_asm); (case N => k_asm); (case hm => k_mem); (case hi => assumption); (case hne => omega); (case k0 => assumption)); k_whole; intro _ _ _ _ _ _ _ _ _)) | (k_here; (with_reducible show wpAny _ _ (call (Value.ref 94) _) _ _ _); k_dflt (refine' k_found2 ?F ?N (by assumption) (by assumption) (by assumption) (by assumption) (by assumption) (by assumption) (by assumption) ((ok_AL (n := 12) (by decide)).less (by decide)) _ (by assumption) _ ?_; (case F => k_asm); (case N => k_asm)); k_whole; intro _ _ _ _ _ _ _ _ _ _ _ _ _ _ _) | (with_reducible show wpAny _ _ (eval (Expr.ListComp _ _ _ _) _) _ _ _; (refine Stop.go ?_)) | walk1)) | (dsimp only; (first | with_reducible show wpAny _ _ _ _ _ _ | with_reducible show @ite _ _ _ _ _ | with_reducible show And _ _); (first | (with_reducible show wpAny _ _ (call (Value.builtin _) _) _ _ _; (k_here; k_dflt (refine' k_max ?F ?N rfl ?hm ?hi ?hne ?k0 ?_; (case F => k_asm); (case N => k_asm); (case hm => k_mem); (case hi => assumption); (case hne => omega); (case k0 => assumption)); k_whole; intro _ _ _ _ _ _ _ _ _)) | (k_here; (with_reducible show wpAny _ _ (call (Value.ref 94) _) _ _ _); k_dflt (refine' k_found2 ?F ?N (by assumption) (by assumption) (by assumption) (by assumption) (by assumption) (by assumption) (by assumption) ((ok_AL (n := 12) (by decide)).less (by decide)) _ (by assumption) _ ?_; (case F => k_asm); (case N => k_asm)); k_whole; intro _ _ _ _ _ _ _ _ _ _ _ _ _ _ _) | (with_reducible show wpAny _ _ (eval (Expr.ListComp _ _ _ _) _) _ _ _; (refine Stop.go ?_)) | walk1))))
  clear F N
  rename_i D1 n1' vs1 h2 tk2 gens2 ps2 cc2 occ2 F2 N2 tb2 bare2 nD2 hI2
  obtain ⟨M, hM, hle⟩ := exists_top (waysL ns mo) (by intro q; have := ways_len ns mo; rw [q] at this; simp at this; omega)
  refine comp_pick (cl := [(Str.ofString "ways", L + 1 + 1 + 1)]) (fun i => decide ((waysL ns mo).getD i 0 = M)) (modesL ns).length rfl rfl (by decide) rfl (by decide) rfl ?_
  (repeat' (first | (k_unfold; (try dsimp only)) | ((first | with_reducible show wpAny _ _ _ _ _ _ | with_reducible show @ite _ _ _ _ _ | with_reducible show And _ _); (first | (with_reducible show wpAny _ _ (call (Value.builtin _) _) _ _ _; (k_here; k_dflt (refine' k_max ?F ?N rfl ?hm ?hi ?hne ?k0 ?_; (case F => k_asm); (case N => k_asm); (case hm => k_mem); (case hi => assumption); (case hne => omega); (case k0 => assumption)); k_whole; intro _ _ _ _ _ _ _ _ _)) | (k_here; (with_reducible show wpAny _ _ (call (Value.ref 94) _) _ _ _); k_dflt (refine' k_found2 ?F ?N (by assumption) (by assumption) (by assumption) (by assumption) (by assumption) (by assumption) (by assumption) ((ok_AL (n := 12) (by decide)).less (by decide)) _ (by assumption) _ ?_; (case F => k_asm); (case N => k_asm)); k_whole; intro _ _ _ _ _ _ _ _ _ _ _ _ _ _ _) | (with_reducible show wpAny _ _ (eval (Expr.ListComp _ _ _ _) _) _ _ _; (refine Stop.go ?_)) | walk1)) | (dsimp only; (first | with_reducible show wpAny _ _ _ _ _ _ | with_reducible show @ite _ _ _ _ _ | with_reducible show And _ _); (first | (with_reducible show wpAny _ _ (call (Value.builtin _) _) _ _ _; (k_here; k_dflt (refine' k_max ?F ?N rfl ?hm ?hi ?hne ?k0 ?_; (case F => k_asm); (case N => k_asm); (case hm => k_mem); (case hi => assumption); (case hne => omega); (case k0 => assumption)); k_whole; intro _ _ _ _ _ _ _ _ _)) | (k_here; (with_reducible show wpAny _ _ (call (Value.ref 94) _) _ _ _); k_dflt (refine' k_found2 ?F ?N (by assumption) (by assumption) (by assumption) (by assumption) (by assumption) (by assumption) (by assumption) ((ok_AL (n := 12) (by decide)).less (by decide)) _ (by assumption) _ ?_; (case F => k_asm); (case N => k_asm)); k_whole; intro _ _ _ _ _ _ _ _ _ _ _ _ _ _ _) | (with_reducible show wpAny _ _ (eval (Expr.ListComp _ _ _ _) _) _ _ _; (refine Stop.go ?_)) | walk1))))
  rename News _ _ _ _ => N3
  rename Fr _ _ _ _ => F3
  rename IsRange _ _ _ _ _ _ _ _ => R3
  rename_i h3 _ _ _ _ _
  refine ⟨_, _, _, _, rfl, R3, by omega, fun C i t s' m' E' hC hi hn hm' hk => ?_, fun C i t s' m' E' hC hi hn hm' hk => ?_, fun D2 h4 tk4 zs kz nD eD hI4 hk4 => ?_⟩
  · have F4 : Fr H C s'.heap m' := fr_comp (wr := []) F3 (fun _ hb => nomatch hb) hC hn (fun b o _ e => hk b o e)
    have N4 : News H C s'.heap [(L + 1 + 1 + 1, o3), (D, PySem.W.listOf (List.toArray ks) kn)] := fun q hq => by
      have z := N3 q (by simp only [List.mem_cons, List.not_mem_nil, or_false] at hq; rcases hq with h | h <;> simp [h])
      exact ⟨hk _ _ z.1, Nat.ne_of_lt (Nat.lt_of_lt_of_le (Heap.lt_size z.1) hC), z.2.2⟩
    clear F3 N3 R3
    obtain ⟨hp5, gn5, dr5, tk5, os5⟩ := s'
    dsimp only at F4 N4 hn hk ⊢
    have lw := ways_len ns mo
    have k0 : KeepFrom hp5 hp5 := fun _ _ e => e
    (repeat' (first | (k_unfold; (try dsimp only)) | ((first | with_reducible show wpAny _ _ _ _ _ _ | with_reducible show @ite _ _ _ _ _ | with_reducible show And _ _); (first | (with_reducible show wpAny _ _ (call (Value.builtin _) _) _ _ _; (k_here; k_dflt (refine' k_max ?F ?N rfl ?hm ?hi ?hne ?k0 ?_; (case F => k_asm); (case N => k_asm); (case hm => k_mem); (case hi => assumption); (case hne => omega); (case k0 => assumption)); k_whole; intro _ _ _ _ _ _ _ _ _)) | (k_here; (with_reducible show wpAny _ _ (call (Value.ref 94) _) _ _ _); k_dflt (refine' k_found2 ?F ?N (by assumption) (by assumption) (by assumption) (by assumption) (by assumption) (by assumption) (by assumption) ((ok_AL (n := 12) (by decide)).less (by decide)) _ (by assumption) _ ?_; (case F => k_asm); (case N => k_asm)); k_whole; intro _ _ _ _ _ _ _ _ _ _ _ _ _ _ _) | (with_reducible show wpAny _ _ (eval (Expr.ListComp _ _ _ _) _) _ _ _; (refine Stop.go ?_)) | walk1)) | (dsimp only; (first | with_reducible show wpAny _ _ _ _ _ _ | with_reducible show @ite _ _ _ _ _ | with_reducible show And _ _); (first | (with_reducible show wpAny _ _ (call (Value.builtin _) _) _ _ _; (k_here; k_dflt (refine' k_max ?F ?N rfl ?hm ?hi ?hne ?k0 ?_; (case F => k_asm); (case N => k_asm); (case hm => k_mem); (case hi => assumption); (case hne => omega); (case k0 => assumption)); k_whole; intro _ _ _ _ _ _ _ _ _)) | (k_here; (with_reducible show wpAny _ _ (call (Value.ref 94) _) _ _ _); k_dflt (refine' k_found2 ?F ?N (by assumption) (by assumption) (by assumption) (by assumption) (by assumption) (by assumption) (by assumption) ((ok_AL (n := 12) (by decide)).less (by decide)) _ (by assumption) _ ?_; (case F => k_asm); (case N => k_asm)); k_whole; intro _ _ _ _ _ _ _ _ _ _ _ _ _ _ _) | (with_reducible show wpAny _ _ (eval (Expr.ListComp _ _ _ _) _) _ _ _; (refine Stop.go ?_)) | walk1))))
    all_goals rename_i _ M6 _ _ _ _ kp6 a6 b6
    · have eM : M6 = M := Int.le_antisymm (hle _ a6) (b6 _ hM)
      rw [eM, Int.toNat_natCast]
      rw [Bool.eq_iff_iff, beq_iff_eq, decide_eq_true_eq]
    · exact ⟨_, _, rfl, kp6⟩
  · have F4 : Fr H C s'.heap m' := fr_comp (wr := []) F3 (fun _ hb => nomatch hb) hC hn (fun b o _ e => hk b o e)
    have N4 : News H C s'.heap [] := fun q hq => nomatch hq
    clear F3 N3 R3
    obtain ⟨hp5, gn5, dr5, tk5, os5⟩ := s'
    dsimp only at F4 N4 hn hk ⊢
    (repeat' (first | (k_unfold; (try dsimp only)) | ((first | with_reducible show wpAny _ _ _ _ _ _ | with_reducible show @ite _ _ _ _ _ | with_reducible show And _ _); (first | (with_reducible show wpAny _ _ (call (Value.builtin _) _) _ _ _; (k_here; k_dflt (refine' k_max ?F ?N rfl ?hm ?hi ?hne ?k0 ?_; (case F => k_asm); (case N => k_asm); (case hm => k_mem); (case hi => assumption); (case hne => omega); (case k0 => assumption)); k_whole; intro _ _ _ _ _ _ _ _ _)) | (k_here; (with_reducible show wpAny _ _ (call (Value.ref 94) _) _ _ _); k_dflt (refine' k_found2 ?F ?N (by assumption) (by assumption) (by assumption) (by assumption) (by assumption) (by assumption) (by assumption) ((ok_AL (n := 12) (by decide)).less (by decide)) _ (by assumption) _ ?_; (case F => k_asm); (case N => k_asm)); k_whole; intro _ _ _ _ _ _ _ _ _ _ _ _ _ _ _) | (with_reducible show wpAny _ _ (eval (Expr.ListComp _ _ _ _) _) _ _ _; (refine Stop.go ?_)) | walk1)) | (dsimp only; (first | with_reducible show wpAny _ _ _ _ _ _ | with_reducible show @ite _ _ _ _ _ | with_reducible show And _ _); (first | (with_reducible show wpAny _ _ (call (Value.builtin _) _) _ _ _; (k_here; k_dflt (refine' k_max ?F ?N rfl ?hm ?hi ?hne ?k0 ?_; (case F => k_asm); (case N => k_asm); (case hm => k_mem); (case hi => assumption); (case hne => omega); (case k0 => assumption)); k_whole; intro _ _ _ _ _ _ _ _ _)) | (k_here; (with_reducible show wpAny _ _ (call (Value.ref 94) _) _ _ _); k_dflt (refine' k_found2 ?F ?N (by assumption) (by assumption) (by assumption) (by assumption) (by assumption) (by assumption) (by assumption) ((ok_AL (n := 12) (by decide)).less (by decide)) _ (by assumption) _ ?_; (case F => k_asm); (case N => k_asm)); k_whole; intro _ _ _ _ _ _ _ _ _ _ _ _ _ _ _) | (with_reducible show wpAny _ _ (eval (Expr.ListComp _ _ _ _) _) _ _ _; (refine Stop.go ?_)) | walk1))))
    · exact ⟨_, rfl⟩
    · exact ⟨_, _, rfl, fun _ _ e => e⟩
  · have F5 := fr_keep F3 (Kp.of hk4)
    have N5 := news_new F3 nD eD (news_keep N3 (Kp.of hk4))
    rw [found_eq ns hm hM hle] at hI2
    generalize hzz : (List.filter (fun i => decide ((waysL ns mo).getD i 0 = M)) (List.range (modesL ns).length)).map (fun i => ((i : Nat) : Int)) = zz at hI2 hI4
    have hlz : zz.length ≤ 1000 := by
      rw [← hzz, List.length_map]
      refine Nat.le_trans (List.length_filter_le _ _) ?_
      rw [List.length_range]; omega
    clear F3 N3 R3
    (repeat' (first | (k_unfold; (try dsimp only)) | ((first | with_reducible show wpAny _ _ _ _ _ _ | with_reducible show @ite _ _ _ _ _ | with_reducible show And _ _); (first | (with_reducible show wpAny _ _ (call (Value.builtin _) _) _ _ _; (k_here; k_dflt (refine' k_max ?F ?N rfl ?hm ?hi ?hne ?k0 ?_; (case F => k_asm); (case N => k_asm); (case hm => k_mem); (case hi => assumption); (case hne => omega); (case k0 => assumption)); k_whole; intro _ _ _ _ _ _ _ _ _)) | (k_here; (with_reducible show wpAny _ _ (call (Value.ref 94) _) _ _ _); k_dflt (refine' k_found2 ?F ?N (by assumption) (by assumption) (by assumption) (by assumption) (by assumption) (by assumption) (by assumption) ((ok_AL (n := 12) (by decide)).less (by decide)) _ (by assumption) _ ?_; (case F => k_asm); (case N => k_asm)); k_whole; intro _ _ _ _ _ _ _ _ _ _ _ _ _ _ _) | (with_reducible show wpAny _ _ (eval (Expr.ListComp _ _ _ _) _) _ _ _; (refine Stop.go ?_)) | walk1)) | (dsimp only; (first | with_reducible show wpAny _ _ _ _ _ _ | with_reducible show @ite _ _ _ _ _ | with_reducible show And _ _); (first | (with_reducible show wpAny _ _ (call (Value.builtin _) _) _ _ _; (k_here; k_dflt (refine' k_max ?F ?N rfl ?hm ?hi ?hne ?k0 ?_; (case F => k_asm); (case N => k_asm); (case hm => k_mem); (case hi => assumption); (case hne => omega); (case k0 => assumption)); k_whole; intro _ _ _ _ _ _ _ _ _)) | (k_here; (with_reducible show wpAny _ _ (call (Value.ref 94) _) _ _ _); k_dflt (refine' k_found2 ?F ?N (by assumption) (by assumption) (by assumption) (by assumption) (by assumption) (by assumption) (by assumption) ((ok_AL (n := 12) (by decide)).less (by decide)) _ (by assumption) _ ?_; (case F => k_asm); (case N => k_asm)); k_whole; intro _ _ _ _ _ _ _ _ _ _ _ _ _ _ _) | (with_reducible show wpAny _ _ (eval (Expr.ListComp _ _ _ _) _) _ _ _; (refine Stop.go ?_)) | walk1))))
    exact k h4 _ _ _ _ _ F5 (fun q hq => N5 q (.tail _ (.tail _ hq))) tb2 bare2
end
end Mine
end
theorem Mine.t_resetLV : True := by
  first | (walk1; fail "no") | trivial

section
open PySem PySem.W PyProof.Rows PySem.Spec PySem.Calls PySem.W.X
set_option maxRecDepth 100000
set_option maxHeartbeats 8000000
namespace Mine
theorem t_offLV : True := by
  w_top off
  trivial
/-- a list, a def or a dict -/
noncomputable def SFD (o : Obj) : Prop := (∃ xs n, o.data = .seq xs n) ∨ (∃ fd, o.data = .func fd) ∨ (∃ es ep, o.data = .dict es ep)
theorem sfd_not {o : Obj} (x : SFD o) (y : NotF o) : False := by
  rcases x with ⟨xs, n, e⟩ | ⟨fd, e⟩ | ⟨es, ep, e⟩
  · exact y.2.2 _ _ e
  · exact y.1 _ e
  · exact y.2.1 _ _ e
theorem lit_data {h : Heap} {it l : Addr} {o : Obj} {i : Nat} (x : LitIs o l i) (e : h.get? it = some o) : o.cls = .type "list_iterator" ∧ ∃ vs, o.data = .fields vs ∧ ∀ q t, vs[1]? ≠ some (.str q t) := by
  obtain ⟨o', e', c, d⟩ := x h it e
  rw [e] at e'
  cases e'
  exact ⟨c, _, d, fun q t z => by cases z⟩
noncomputable abbrev Lies (g : Heap) (L : Addr) (h : Heap) (q : Addr × Obj) : Prop := h.get? q.1 = some q.2 ∧ q.1 ≠ L ∧ g.get? q.1 = none
theorem nun {g h : Heap} {L : Addr} {q : Addr × Obj} {r : List (Addr × Obj)} (N : News g L h (q :: r)) : Lies g L h q ∧ News g L h r := List.forall_mem_cons.mp N
theorem nco {g h : Heap} {L : Addr} {q : Addr × Obj} {r : List (Addr × Obj)} (a : Lies g L h q) (N : News g L h r) : News g L h (q :: r) := List.forall_mem_cons.mpr ⟨a, N⟩
theorem aun {P : Addr × Obj → Prop} {q : Addr × Obj} {r : List (Addr × Obj)} (N : ∀ z ∈ q :: r, P z) : P q ∧ ∀ z ∈ r, P z := List.forall_mem_cons.mp N
theorem aco {P : Addr × Obj → Prop} {q : Addr × Obj} {r : List (Addr × Obj)} (a : P q) (N : ∀ z ∈ r, P z) : ∀ z ∈ q :: r, P z := List.forall_mem_cons.mpr ⟨a, N⟩
theorem lies_diff {g h : Heap} {L : Addr} {q q' : Addr × Obj} (a : Lies g L h q) (b : Lies g L h q') (hn : q.2 ≠ q'.2) : q.1 ≠ q'.1 := fun e => by
  have a := a.1
  rw [e, b.1] at a
  exact hn (Option.some.inj a).symm
theorem lies_sfd {g h : Heap} {L : Addr} {q q' : Addr × Obj} (a : Lies g L h q) (b : Lies g L h q') (x : SFD q.2) (y : NotF q'.2) : q.1 ≠ q'.1 := lies_diff a b fun e => sfd_not x (e ▸ y)
theorem lies_c {g h : Heap} {L c a a1 : Addr} {oc oa : Obj} {va : Option Value} {Z : Str} (hc : Lies g L h (c, oc)) (ha : Lies g L h (a, oa)) (ea : oa.data = .cell va) (t : c = a1 ∨ ∃ vs t, oc.data = .fields vs ∧ vs[1]? = some (.str Z t)) (n : a1 ≠ a) : c ≠ a := by
  rcases t with e | ⟨vs, t, d, _⟩
  · rw [e]; exact n
  · refine lies_diff (q := (c, oc)) (q' := (a, oa)) hc ha fun e => ?_
    have e : oc = oa := e
    rw [e, ea] at d
    cases d
theorem lies_it {g h : Heap} {L c it a1 l : Addr} {oc oi : Obj} {Z : Str} {i : Nat} (hc : Lies g L h (c, oc)) (hi : Lies g L h (it, oi)) (lit : LitIs oi l i) (t : c = a1 ∨ ∃ vs t, oc.data = .fields vs ∧ vs[1]? = some (.str Z t)) (n : a1 ≠ it) : c ≠ it := by
  rcases t with e | ⟨vs, t, d, r⟩
  · rw [e]; exact n
  · obtain ⟨_, vsi, id1, id2⟩ := lit_data lit hi.1
    refine lies_diff (q := (c, oc)) (q' := (it, oi)) hc hi fun e => ?_
    have e : oc = oi := e
    rw [e, id1] at d
    cases d
    exact id2 _ _ r
theorem fit_rest {g h : Heap} {L a : Addr} {o : Obj} {rest : List (Addr × Obj)} (R : News g L h rest) (b : Lies g L h (a, o)) (y : NotF o) (S : ∀ q ∈ rest, SFD q.2) : ∀ q ∈ rest, q.1 ≠ a := fun q hq => lies_sfd (q' := (a, o)) (R q hq) b (S q hq) y
theorem n86 : ¬ ((86 : Nat) = 16) ∧ ¬ ((86 : Nat) = 103) := ⟨by decide, by decide⟩
theorem far (L : Nat) (l : 16 < L ∧ 86 < L ∧ 103 < L) : L + 1 ≠ 16 ∧ L + 1 ≠ 103 ∧ L + 1 + 1 ≠ 16 ∧ L + 1 + 1 ≠ 103 ∧ L + 1 + 1 + 1 ≠ 16 ∧ L + 1 + 1 + 1 ≠ 103 ∧ L + 1 + 1 ≠ 86 ∧ L + 1 + 1 + 1 ≠ 86 := by omega
theorem near (L : Nat) : L + 1 ≠ L + 1 + 1 ∧ L + 1 ≠ L + 1 + 1 + 1 ∧ L + 1 + 1 + 1 ≠ L + 1 + 1 := by omega
section
variable {w : World} {p : Program} {loose : List Str} {mean : ExcName → Option Value} {mg mb : Str → Option Value} {H : Heap} {s : Shared} {A : Around}
theorem lawM_mode {a b c d e v : Option Value} : ∀ y, (if y = Str.ofString "mode" then v else lawM a b c d e y) = lawM a b v d e y := fun y => by
  by_cases h : y = Str.ofString "mode"
  · subst h; rfl
  · simp only [lawM, if_neg h]
theorem c_law4 {Q : Flow → Shared → Prop} {E : Value → Shared → Prop} {L sc fa lm lf lw : Addr} {cd : Value} {o1 o2 o3 : Obj} {us vs ws : List Value} {ns : List Int} {n1 nf nw : Nat} {ys pl : Array Value} {rest : List (Addr × Obj)}
    (W : Wd w p loose mean mg mb H) (F : Fr H L s.heap (lawM (some (.ref sc)) (some (.ref lf)) none (some (.ref lw)) none)) (N : News H L s.heap ((lw, PySem.W.listOf (List.toArray ws) nw) :: (lf, PySem.W.listOf ys nf) :: (lm, PySem.W.listOf (List.toArray us) n1) :: (L + 1, o1) :: (L + 1 + 1, o2) :: (L + 1 + 1 + 1, o3) :: (103, tabObj #[]) :: (16, tabObj #[]) :: (86, tabObj pl) :: rest))
    (d1 : o1.data = .cell (some (.ref lm))) (d2 : o2.data = .cell none) (d3 : o3.data = .cell none) (hl : H.IsList sc vs.toArray) (hv : IntsAre vs ns) (hlen : ns.length ≤ 63) (hI : IntsAre us (modesL ns)) (hW : IntsAre ws ((modesL ns).map wgt)) (RO : RestOk lf ys (mdL ns) (modesL ns).length rest) (l16 : @LT.lt Nat _ 16 L ∧ @LT.lt Nat _ 86 L ∧ @LT.lt Nat _ 103 L)
    (hret : ∀ h' tk gens', H.StaysIn h' → (AllBare s.gens → AllBare gens') → GrownAt 103 h' → GrownAt 16 h' → GrownAt 86 h' → Q (.ret (.bool true)) { s with heap := h', toks := tk, gens := gens' }) :
    wpAny (model P0 w) (AL 12) (execs (lawParts.2.1.drop 3) (lawEnv L fa cd)) Q E s := by
  have X := W.X
  have T := W.T
  have st : H.StaysIn H := fun _ _ e => e
  have hb := modes_len ns
  obtain ⟨hp0, gn, dr, tk0, os0⟩ := s
  dsimp only [lawParts, lawEnv, List.drop] at hret ⊢
  ((first | (k_unfold; (try dsimp only)) | walk1 | (dsimp only; walk1)))
  refine wpAny_For ?_ ?hs1
  case hs1 => intro _; rfl
  (repeat' (first | (k_unfold; (try dsimp only)) | ((first | with_reducible show wpAny _ _ _ _ _ _ | with_reducible show @ite _ _ _ _ _ | with_reducible show And _ _); walk1) | (dsimp only; (first | with_reducible show wpAny _ _ _ _ _ _ | with_reducible show @ite _ _ _ _ _ | with_reducible show And _ _); walk1)))
  rename Fr _ _ _ _ => F0
  rename News _ _ _ _ => N0
  rename_i l2 h2 _
  obtain ⟨two, N1, hsz, hat⟩ : ∃ two : Array Value, News H L h2 ((l2, PySem.W.listOf two 0) :: (lw, PySem.W.listOf (List.toArray ws) nw) :: (lf, PySem.W.listOf ys nf) :: (lm, PySem.W.listOf (List.toArray us) n1) :: (L + 1, o1) :: (L + 1 + 1, o2) :: (L + 1 + 1 + 1, o3) :: (103, tabObj #[]) :: (16, tabObj #[]) :: (86, tabObj pl) :: rest) ∧ two.size = 2 ∧ ∀ i, i < 2 → ∃ mo tm, two[i]? = some (.int mo tm) ∧ 0 ≤ mo := by
    refine ⟨_, N0, rfl, fun i hi => ?_⟩
    rcases (show i = 0 ∨ i = 1 by omega) with rfl | rfl
    · exact ⟨_, _, rfl, md_pos ns _⟩
    · refine ⟨_, _, rfl, ?_⟩
      rw [Int.fmod_eq_emod_of_nonneg _ (by decide)]
      exact Int.emod_nonneg _ (by decide)
  clear N0
  refine wpAny_pyIter_list (N1.isList (.head _)) ?_
  dsimp only
  have SR : ∀ q ∈ rest, SFD q.2 := fun q hq => .inr (RO.nf q hq)
  refine hideG fun G hG => ?_
  obtain ⟨itn, hitn⟩ : ∃ itn : Addr, itn = h2.objs.size := ⟨_, rfl⟩
  have fit : h2.get? itn = none := by rw [hitn]; exact Heap.get?_none_of_le (Nat.le_refl _)
  have nit : itn ≠ L ∧ H.get? itn = none := fr_ne F0 fit
  obtain ⟨jl2, t1⟩ := aun (P := fun q => q.1 ≠ itn) (fun q hq => news_lt N1 hq fit)
  obtain ⟨jlw, t1⟩ := aun t1
  obtain ⟨jlf, t1⟩ := aun t1
  obtain ⟨jlm, t1⟩ := aun t1
  obtain ⟨j1, t1⟩ := aun t1
  obtain ⟨j2, t1⟩ := aun t1
  obtain ⟨j3, t1⟩ := aun t1
  obtain ⟨j103, t1⟩ := aun t1
  obtain ⟨j16, t1⟩ := aun t1
  obtain ⟨j86, jR⟩ := aun t1
  dsimp only at jl2 jlw jlf jlm j1 j2 j3 j103 j16 j86
  have a1 : L + 1 ≠ 16 ∧ L + 1 ≠ 103 ∧ L + 1 + 1 ≠ 16 ∧ L + 1 + 1 ≠ 103 ∧ L + 1 + 1 + 1 ≠ 16 ∧ L + 1 + 1 + 1 ≠ 103 ∧ L + 1 + 1 ≠ 86 ∧ L + 1 + 1 + 1 ≠ 86 := far L l16
  have a2 : L + 1 ≠ L + 1 + 1 ∧ L + 1 ≠ L + 1 + 1 + 1 ∧ L + 1 + 1 + 1 ≠ L + 1 + 1 := near L
  obtain ⟨b1, b2, b3, b4, b5, b6, b7, b8⟩ := a1
  obtain ⟨b9, b10, b11⟩ := a2
  refine hG ?_
  clear hG
  rw [← hitn]
  refine hideR fun R1 hR1 => ?_
  refine hideI (fun n s' => ∃ i h' tk gens' ps cc occ pw cw ocw o2' o3' v2 v3 vmo vwh oi, s' = { heap := h', gens := gens', drawn := dr, toks := tk, os := os0 } ∧ i ≤ 2 ∧ n = 2 + 1 - i ∧ Fr H L h' (lawM (some (.ref sc)) (some (.ref lf)) vmo (some (.ref lw)) vwh) ∧
    News H L h' ((16, tabObj ps) :: (cc, occ) :: (103, tabObj pw) :: (cw, ocw) :: (L + 1, o1) :: (L + 1 + 1, o2') :: (L + 1 + 1 + 1, o3') :: (86, tabObj pl) :: (itn, oi) :: (l2, PySem.W.listOf two 0) :: (lw, PySem.W.listOf (List.toArray ws) nw) :: (lf, PySem.W.listOf ys nf) :: (lm, PySem.W.listOf (List.toArray us) n1) :: rest) ∧
    LitIs oi l2 i ∧ o2'.data = .cell v2 ∧ o3'.data = .cell v3 ∧ TabOk H (L + 1) ps cc occ ∧ TabWok H (L + 1) pw cw ocw ∧ (AllBare gn → AllBare gens')) fun I1 hI1 => ?_
  refine codeAny_forLoop I1 ?turn (2 + 1) ?init (by intro _; rfl)
  case init =>
    refine (hI1 _ _).2 ?_
    refine hideG fun G hG => ?_
    have N2 := news_keep N1 (Kp.of fun b o e => Heap.get?_push_of_some { cls := .type "list_iterator", data := .fields #[.ref l2, .int 0 0] } e)
    obtain ⟨kl2, t1⟩ := nun N2
    obtain ⟨klw, t1⟩ := nun t1
    obtain ⟨klf, t1⟩ := nun t1
    obtain ⟨klm, t1⟩ := nun t1
    obtain ⟨k1, t1⟩ := nun t1
    obtain ⟨k2, t1⟩ := nun t1
    obtain ⟨k3, t1⟩ := nun t1
    obtain ⟨k103, t1⟩ := nun t1
    obtain ⟨k16, t1⟩ := nun t1
    obtain ⟨k86, kR⟩ := nun t1
    refine hG ?_
    exact ⟨0, _, _, _, #[], L + 1, o1, #[], L + 1, o1, o2, o3, none, none, none, none, { cls := .type "list_iterator", data := .fields #[.ref l2, .int 0 0] }, rfl, Nat.zero_le _, rfl, fr_push F0 _,
      nco k16 (nco k1 (nco k103 (nco k1 (nco k1 (nco k2 (nco k3 (nco k86 (nco ⟨by rw [hitn]; exact Heap.get?_push_size _ rfl, nit⟩ (nco kl2 (nco klw (nco klf (nco klm kR)))))))))))), fun h' it' e' => ⟨_, e', rfl, rfl⟩, d2, d3, ⟨fun h' k _ _ => .inl k, .inl rfl⟩, ⟨fun h' k _ _ => .inl k, .inl rfl⟩, fun z => z⟩
  intro n s' hI
  replace hI := (hI1 n s').1 hI
  obtain ⟨i, h3, tk3, gens3, ps3, cc, occ, pw3, cw, ocw, o2a, o3a, v2, v3, vmo, vwh, oi, rfl, hi, rfl, F3, N3, lit, e2, e3, tb, tw, bare⟩ := hI
  refine hideG fun G hG => ?_
  obtain ⟨k16, t1⟩ := nun N3
  obtain ⟨kcc, t1⟩ := nun t1
  obtain ⟨k103, t1⟩ := nun t1
  obtain ⟨kcw, t1⟩ := nun t1
  obtain ⟨k1, t1⟩ := nun t1
  obtain ⟨k2, t1⟩ := nun t1
  obtain ⟨k3, t1⟩ := nun t1
  obtain ⟨k86, t1⟩ := nun t1
  obtain ⟨kit, t1⟩ := nun t1
  obtain ⟨kl2, t1⟩ := nun t1
  obtain ⟨klw, t1⟩ := nun t1
  obtain ⟨klf, t1⟩ := nun t1
  obtain ⟨klm, kR⟩ := nun t1
  have hit := lit _ _ kit.1
  have hl2 : h3.IsList l2 two := ⟨_, kl2.1, rfl, _, rfl⟩
  have jcc := lies_it kcc kit lit tb.2 j1
  have jcw := lies_it kcw kit lit tw.2 j1
  by_cases hlt : i < 2
  · refine hG ?_
    clear hG
    obtain ⟨mo, tm, em, hm0⟩ := hat i hlt
    refine wpAny_pyNext_list_item hit hl2 (x := .int mo tm) em fun h4 hit4 hs4 => ?_
    dsimp only at hit4 hs4 ⊢
    obtain ⟨oi4, e4, lit4⟩ := lit_of hit4
    have F4 := fr_turn F3 kit.2 (fun b x n e => hs4.extBut b x n e)
    have mv : ∀ {q : Addr × Obj}, q.1 ≠ itn → Lies H L h3 q → Lies H L h4 q := fun n z => ⟨hs4.extBut _ _ n z.1, z.2⟩
    have N4 := nco (mv j16 k16) (nco (mv jcc kcc) (nco (mv j103 k103) (nco (mv jcw kcw) (nco (mv j1 k1) (nco (mv j2 k2) (nco (mv j3 k3) (nco (mv j86 k86) (nco (q := (itn, oi4)) ⟨e4, kit.2⟩ (nco (mv jl2 kl2) (nco (mv jlw klw) (nco (mv jlf klf) (nco (mv jlm klm) (fun q hq => mv (jR q hq) (kR q hq))))))))))))))
    refine wpAny_assign_Name (wpAny_storeName_local rfl F4.ns (fun h5 hn5 hs5 => ?_) rfl)
    have F5 : Fr H L h5 (lawM (some (.ref sc)) (some (.ref lf)) (some (.int mo tm)) (some (.ref lw)) vwh) := fr_map (fr_store F4 hn5 hs5) lawM_mode
    have N5 := news_store N4 hs5
    have t16 := fit_rest kR k16 (notF_tab _) SR
    have t103 := fit_rest kR k103 (notF_tab _) SR
    have tc2 := fit_rest kR k2 (notF_cell e2) SR
    have tc3 := fit_rest kR k3 (notF_cell e3) SR
    have sl : ∀ {xs : Array Value} {n : Nat}, SFD (PySem.W.listOf xs n) := .inl ⟨_, _, rfl⟩
    have q16 : ∀ {a : Addr} {xs : Array Value} {n : Nat}, Lies H L h3 (a, PySem.W.listOf xs n) → a ≠ 16 ∧ a ≠ 103 ∧ a ≠ L + 1 + 1 ∧ a ≠ L + 1 + 1 + 1 := fun z => ⟨lies_sfd z k16 sl (notF_tab _), lies_sfd z k103 sl (notF_tab _), lies_sfd z k2 sl (notF_cell e2), lies_sfd z k3 sl (notF_cell e3)⟩
    have ql2 := q16 kl2
    have qlw := q16 klw
    have qlf := q16 klf
    have qlm := q16 klm
    refine c_turn1 (tail := (L + 1 + 1, o2a) :: (L + 1 + 1 + 1, o3a) :: (86, tabObj pl) :: (itn, oi4) :: (l2, PySem.W.listOf two 0) :: (lw, PySem.W.listOf (List.toArray ws) nw) :: (lf, PySem.W.listOf ys nf) :: (lm, PySem.W.listOf (List.toArray us) n1) :: rest) (rest := rest) (nf := nf) W F5 N5 tb tw
      (aco (P := fun q => q.1 ≠ 16 ∧ q.1 ≠ 103) ⟨b1, b2⟩ (aco ⟨b3, b4⟩ (aco ⟨b5, b6⟩ (aco ⟨n86.1, n86.2⟩ (aco ⟨j16.symm, j103.symm⟩ (aco ⟨ql2.1, ql2.2.1⟩ (aco ⟨qlw.1, qlw.2.1⟩ (aco ⟨qlf.1, qlf.2.1⟩ (aco ⟨qlm.1, qlm.2.1⟩ (fun q hq => ⟨t16 q hq, t103 q hq⟩))))))))))
      RO (aco (P := fun q => q ∈ _) (.tail _ (.tail _ (.tail _ (.tail _ (.tail _ (.tail _ (.head _))))))) (fun q hq => .tail _ (.tail _ (.tail _ (.tail _ (.tail _ (.tail _ (.tail _ (.tail _ hq))))))))) ?_
    intro u6 h6 tk6 gens6 ps6 cc6 occ6 pw6 cw6 ocw6 F6 N6 tb6 tw6 bare6
    dsimp only at bare6 ⊢
    refine hideG fun G hG => ?_
    clear t1 N3 N4 N5 kcc kcw k16 k103 k86 k2 k3
    obtain ⟨m16, t1⟩ := nun N6
    obtain ⟨mcc, t1⟩ := nun t1
    obtain ⟨m103, t1⟩ := nun t1
    obtain ⟨mcw, t1⟩ := nun t1
    obtain ⟨m1, t1⟩ := nun t1
    obtain ⟨m2, t1⟩ := nun t1
    obtain ⟨m3, t1⟩ := nun t1
    obtain ⟨m86, t1⟩ := nun t1
    obtain ⟨mit, t1⟩ := nun t1
    obtain ⟨ml2, t1⟩ := nun t1
    obtain ⟨mlw, t1⟩ := nun t1
    obtain ⟨mlf, t1⟩ := nun t1
    obtain ⟨mlm, mR⟩ := nun t1
    have c62 := lies_c mcc m2 e2 tb6.2 b9
    have c63 := lies_c mcc m3 e3 tb6.2 b10
    have w62 := lies_c mcw m2 e2 tw6.2 b9
    have w63 := lies_c mcw m3 e3 tw6.2 b10
    refine hG ?_
    clear hG
    refine c_turn2 (nw := nw) (tail := (16, tabObj ps6) :: (cc6, occ6) :: (103, tabObj pw6) :: (cw6, ocw6) :: (L + 1, o1) :: (86, tabObj pl) :: (itn, oi4) :: (l2, PySem.W.listOf two 0) :: (lf, PySem.W.listOf ys nf) :: (lm, PySem.W.listOf (List.toArray us) n1) :: rest) W F6
      (nco m2 (nco m3 (nco mlw (nco m16 (nco mcc (nco m103 (nco mcw (nco m1 (nco m86 (nco mit (nco ml2 (nco mlf (nco mlm mR))))))))))))) e2 e3 hW (by rw [List.length_map]; omega)
      (aco (P := fun q => q.1 ≠ L + 1 + 1) b11 (aco qlw.2.2.1 (aco b3.symm (aco c62 (aco b4.symm (aco w62 (aco b9 (aco b7.symm (aco j2.symm (aco ql2.2.2.1 (aco qlf.2.2.1 (aco qlm.2.2.1 tc2))))))))))))
      (aco (P := fun q => q.1 ≠ L + 1 + 1 + 1) qlw.2.2.2 (aco b5.symm (aco c63 (aco b6.symm (aco w63 (aco b10 (aco b8.symm (aco j3.symm (aco ql2.2.2.2 (aco qlf.2.2.2 (aco qlm.2.2.2 tc3))))))))))) ?_
    intro u7 h7 tk7 o2b o3b D ks kn F7 N7 e2b e3b hK lD
    dsimp only
    refine hideG fun G hG => ?_
    clear t1 N6 m16 mcc m103 mcw m1 m2 m3 m86 mit ml2 mlw mlf mlm mR
    obtain ⟨n2, t1⟩ := nun N7
    obtain ⟨n3, t1⟩ := nun t1
    obtain ⟨nD, t1⟩ := nun t1
    obtain ⟨nlw, t1⟩ := nun t1
    obtain ⟨n16', t1⟩ := nun t1
    obtain ⟨ncc, t1⟩ := nun t1
    obtain ⟨n103', t1⟩ := nun t1
    obtain ⟨ncw, t1⟩ := nun t1
    obtain ⟨nn1, t1⟩ := nun t1
    obtain ⟨n86', t1⟩ := nun t1
    obtain ⟨nnit, t1⟩ := nun t1
    obtain ⟨nl2, t1⟩ := nun t1
    obtain ⟨nlf, t1⟩ := nun t1
    obtain ⟨nlm, nR⟩ := nun t1
    have qD := lies_sfd nD n16' sl (notF_tab _)
    have qD' := lies_sfd nD n103' sl (notF_tab _)
    refine hG ?_
    clear hG
    refine c_turn4 (n1 := n1) (kn := kn) (tail := (L + 1 + 1, o2b) :: (86, tabObj pl) :: (itn, oi4) :: (l2, PySem.W.listOf two 0) :: (lw, PySem.W.listOf (List.toArray ws) nw) :: (lf, PySem.W.listOf ys nf) :: rest) (rest := rest) (nf := nf) W F7
      (nco n16' (nco ncc (nco n103' (nco ncw (nco nn1 (nco n3 (nco nD (nco nlm (nco n2 (nco n86' (nco nnit (nco nl2 (nco nlw (nco nlf nR)))))))))))))) tb6 tw6
      (aco (P := fun q => q.1 ≠ 16 ∧ q.1 ≠ 103) ⟨b1, b2⟩ (aco ⟨b5, b6⟩ (aco ⟨qD, qD'⟩ (aco ⟨qlm.1, qlm.2.1⟩ (aco ⟨b3, b4⟩ (aco ⟨n86.1, n86.2⟩ (aco ⟨j16.symm, j103.symm⟩ (aco ⟨ql2.1, ql2.2.1⟩ (aco ⟨qlw.1, qlw.2.1⟩ (aco ⟨qlf.1, qlf.2.1⟩ (fun q hq => ⟨t16 q hq, t103 q hq⟩)))))))))))
      RO (aco (P := fun q => q ∈ _) (.tail _ (.tail _ (.tail _ (.tail _ (.tail _ (.tail _ (.tail _ (.tail _ (.head _))))))))) (fun q hq => .tail _ (.tail _ (.tail _ (.tail _ (.tail _ (.tail _ (.tail _ (.tail _ (.tail _ hq)))))))))) d1 e3b hI hK hm0 ?_
    intro h8 tk8 gens8 ps8 cc8 occ8 F8 N8 tb8 bare8
    dsimp only at bare8 ⊢
    refine hideG fun G hG => ?_
    clear t1 N7 n2 n3 nD nlw n16' ncc n103' ncw nn1 n86' nnit nl2 nlf nlm nR
    obtain ⟨n16', t1⟩ := nun N8
    obtain ⟨ncc, t1⟩ := nun t1
    obtain ⟨n103', t1⟩ := nun t1
    obtain ⟨ncw, t1⟩ := nun t1
    obtain ⟨nn1, t1⟩ := nun t1
    obtain ⟨n3, t1⟩ := nun t1
    obtain ⟨nD, t1⟩ := nun t1
    obtain ⟨nlm, t1⟩ := nun t1
    obtain ⟨n2, t1⟩ := nun t1
    obtain ⟨n86', t1⟩ := nun t1
    obtain ⟨nnit, t1⟩ := nun t1
    obtain ⟨nl2, t1⟩ := nun t1
    obtain ⟨nlw, t1⟩ := nun t1
    obtain ⟨nlf, nR⟩ := nun t1
    refine hG ⟨2 + 1 - (i + 1), by omega, (hI1 _ _).2 ⟨i + 1, h8, tk8, gens8, ps8, cc8, occ8, pw6, cw6, ocw6, o2b, o3b, _, _, _, _, oi4, rfl, hlt, rfl, F8,
      nco n16' (nco ncc (nco n103' (nco ncw (nco nn1 (nco n2 (nco n3 (nco n86' (nco nnit (nco nl2 (nco nlw (nco nlf (nco nlm nR)))))))))))), lit4, e2b, e3b, tb8, tw6, fun z => bare8 (bare6 (bare z))⟩⟩
  · have : i = 2 := by omega
    subst this
    refine hG ?_
    clear hG
    refine wpAny_pyNext_list_end rfl hit hl2 (by simp [hsz]) fun h4 ext4 => ?_
    dsimp only at ext4 ⊢
    have F4 := fr_turn F3 kit.2 (fun b x n e => ext4 b x n e)
    have mv : ∀ {q : Addr × Obj}, q.1 ≠ itn → Lies H L h3 q → Lies H L h4 q := fun n z => ⟨ext4 _ _ n z.1, z.2⟩
    have N4 : News H L h4 [(16, tabObj ps3), (103, tabObj pw3), (86, tabObj pl)] := nco (mv j16 k16) (nco (mv j103 k103) (nco (mv j86 k86) (fun q hq => nomatch hq)))
    clear F3 N3 N1 F0 t1
    (repeat' (first | (k_unfold; (try dsimp only)) | ((first | with_reducible show wpAny _ _ _ _ _ _ | with_reducible show @ite _ _ _ _ _ | with_reducible show And _ _); walk1) | (dsimp only; (first | with_reducible show wpAny _ _ _ _ _ _ | with_reducible show @ite _ _ _ _ _ | with_reducible show And _ _); walk1)))
    refine hR1 _ _ ?_
    dsimp only
    (repeat' (first | (k_unfold; (try dsimp only)) | ((first | with_reducible show wpAny _ _ _ _ _ _ | with_reducible show @ite _ _ _ _ _ | with_reducible show And _ _); walk1) | (dsimp only; (first | with_reducible show wpAny _ _ _ _ _ _ | with_reducible show @ite _ _ _ _ _ | with_reducible show And _ _); walk1)))
    rename Fr _ _ _ _ => Fq
    rename News _ _ _ _ => Nq
    exact hret _ _ _ Fq.keep bare ⟨pw3, (Nq (103, _) (by k_mem)).1⟩ ⟨ps3, (Nq (16, _) (by k_mem)).1⟩ ⟨pl, (Nq (86, _) (by k_mem)).1⟩
end
end Mine
end
theorem Mine.t_resetLG : True := by
  first | (walk1; fail "no") | trivial

section
open PySem PySem.W PyProof.Rows PySem.Spec PySem.Calls PySem.W.X
set_option maxRecDepth 100000
set_option maxHeartbeats 8000000
namespace Mine
theorem t_offLG : True := by
  w_top off
  trivial
/-- a law that ends True, its generators done, its tables of codes perhaps grown -/
theorem kn_postG {M : Model} {A : Around} {cd : Code} {s s₁ : Shared} {cw : ClaimW} {cl : Str → Option Addr} {mean : ExcName → Option Value} {args : List WData} {tabs : List (Addr × Addr)} (hT : TabsAt tabs s₁.heap) (hr : ∀ a x, cw.raises a x = false) (hp : cw.post args (.bool true) args = true)
    (h : codeAny M A cd (fun r s' => r = .ok (.ret (.bool true)) ∧ (∀ b o, (ghostOf s₁.heap tabs).get? b = some o → s'.heap.get? b = some o) ∧ s'.os = s₁.os ∧ AllBare s'.gens ∧ GrownAll tabs s'.heap) s) : codeAny M A cd (GoodWG cw cl mean args s₁) s := by
  refine codeAny_mono h ?_
  rintro r s' ⟨res, stays, os, done, tables⟩
  have fate : ∀ b o, s₁.heap.get? b = some o → s'.heap.get? b = some o ∨ ∃ q ∈ tabs, q.2 = b := by
    intro b o e
    rcases Classical.em (∃ q ∈ tabs, q.2 = b) with t | t
    · exact .inr t
    · refine .inl (stays b o (ghost_ne e fun z => t ?_))
      obtain ⟨q, q1, q2⟩ := List.mem_map.mp z
      exact ⟨q, q1, q2⟩
  refine ⟨.inl ⟨.bool true, .bool true, [], res, hr args, .bool true, hp, fun _ => ⟨.nil, fun a z => by cases z⟩⟩, ?_, os, done⟩
  constructor
  · intro b o e
    rcases fate b o e with k | ⟨q, q1, rfl⟩
    · exact .inl k
    · have z := hT q q1
      have e' := z.2
      rw [e] at e'
      cases e'
      obtain ⟨ps, grown⟩ := tables.get q q1
      exact .inr (.inl ⟨(z.1.tab z.2).isCodeTable, rfl, #[], ps, rfl, by simpa using grown⟩)
  · intro b o e
    rcases fate b o e with k | ⟨q, q1, rfl⟩
    · exact ⟨o, k⟩
    · obtain ⟨ps, grown⟩ := tables.get q q1
      exact ⟨_, grown⟩
theorem lawM_start {sc : Addr} (y : Str) : (if y = Str.ofString "script" then some (Value.ref sc) else none) = lawM (some (.ref sc)) none none none none y := by
  by_cases h : y = Str.ofString "script"
  · subst h; rfl
  · simp only [lawM, if_neg h, ite_self]
theorem ok_caller : Ok 13 callerA := ⟨rfl, by decide, by decide⟩
theorem c_law {w : World} {p : Program} {loose : List Str} {mean : ExcName → Option Value} {mg mb : Str → Option Value} {H : Heap} {s : Shared} {A : Around} {Q : Flow → Shared → Prop} {E : Value → Shared → Prop} {L sc fa : Addr} {cd : Value} {o1 o2 o3 : Obj} {vs : List Value} {ns : List Int}
    (W : Wd w p loose mean mg mb H) (ok : Ok 12 A) (F : Fr H L s.heap (lawM (some (.ref sc)) none none none none)) (N : News H L s.heap [(L + 1 + 1 + 1, o3), (L + 1 + 1, o2), (L + 1, o1), (103, tabObj #[]), (16, tabObj #[]), (86, tabObj #[])])
    (d1 : o1.data = .cell none) (d2 : o2.data = .cell none) (d3 : o3.data = .cell none) (hl : H.IsList sc vs.toArray) (hI : IntsAre vs ns) (hlen : ns.length ≤ 63) (l16 : @LT.lt Nat _ 16 L ∧ @LT.lt Nat _ 86 L ∧ @LT.lt Nat _ 103 L)
    (hret : ∀ h' tk gens', H.StaysIn h' → (AllBare s.gens → AllBare gens') → GrownAt 103 h' → GrownAt 16 h' → GrownAt 86 h' → Q (.ret (.bool true)) { s with heap := h', toks := tk, gens := gens' }) :
    wpAny (model P0 w) A (execs lawParts.2.1 (lawEnv L fa cd)) Q E s := by
  refine c_law1 W ok F N d1 d2 d3 hl hI hlen l16 ?_
  intro lm us n1 h1 tk1 o1' F1 N1 hlm d1' hI1
  refine c_law2 W F1 N1 d1' hI1 hlm l16 ?_
  intro lf ys nf rest pl h2 tk2 F2 N2 RO
  refine c_law3 (rest := (L + 1 + 1, o2) :: (L + 1 + 1 + 1, o3) :: (103, tabObj #[]) :: (16, tabObj #[]) :: (86, tabObj pl) :: rest) (ys := ys) (nf := nf) (n1 := n1) W F2 (fun q hq => N2 q ?_) d1' hI1 ?_
  · simp only [List.mem_cons] at hq ⊢
    rcases hq with h | h | h | h | h | h | h | h | h <;> simp [h]
  intro lw ws nw h3 tk3 F3 N3 _ hW
  refine c_law4 (pl := pl) (rest := rest) (ys := ys) (nf := nf) (n1 := n1) (nw := nw) W F3 N3 d1' d2 d3 hl hI hlen hI1 hW RO l16 ?_
  intro h' tk gens' k b g1 g2 g3
  exact hret h' tk gens' k b g1 g2 g3
local macro_rules | `(tactic| kn_posts) => `(tactic| (refine' kn_postG ?hT (fun _ _ => rfl) ?hp ?_; (case hT => assumption); (case hp => first | rfl | wrow_post)))
theorem holdsX : PySem.Challenge.rw_op0074_01.Holds := hd (by
  k_go0
  rename Fr _ _ _ _ => F1
  rename News _ _ _ _ => N1
  rename Frag.In _ (ghostOf _ _) => X1
  rename Top _ _ _ _ _ (ghostOf _ _) => T1
  rename Heap.IsList (ghostOf _ _) _ _ => hl1
  rename IntsAre _ _ => hI1
  rename ¬ (63 : Int) < _ => hlen1
  rename Shared.gens _ = #[] => hg1
  rename (103 < _ ∧ 16 < _ ∧ 86 < _) => l0
  have W : Wd _ _ _ _ _ _ (ghostOf _ _) := ⟨X1, T1, by assumption, by assumption, by assumption, (N1 (103, _) (by k_mem)).2.2, (N1 (16, _) (by k_mem)).2.2, (N1 (86, _) (by k_mem)).2.2⟩
  refine c_law (sc := _) W (Ok.deeper ok_caller) (fr_map F1 ?hm) N1 ?e1 ?e2 ?e3 hl1 hI1 (by omega) ⟨l0.2.1, l0.2.2, l0.1⟩ ?hr
  case e1 => assumption
  case e2 => assumption
  case e3 => assumption
  case hm =>
    intro y
    refine Eq.trans (b := if y = Str.ofString "script" then some (Value.ref _) else none) rfl (lawM_start y)
  case hr =>
    intro h' tk gens' k b g1 g2 g3
    exact ⟨rfl, k, rfl, b (hg1 ▸ AllBare.empty), g1, g2, g3, trivial⟩)
end Mine
end

theorem PySem.Challenge.cw_op0074_01_holds : PySem.Challenge.rw_op0074_01.Holds := by
  exact Mine.holdsX
