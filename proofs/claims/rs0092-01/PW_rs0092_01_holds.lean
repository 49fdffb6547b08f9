import PyProof.Rows.All
import Wide.All
import OpenK.AllK
import Wide.FinOn
import PySem.Challenge.RW_rs0092_01
set_option Elab.async false
set_option maxRecDepth 100000
section
open PySem PySem.W PyProof.Rows
namespace Mine
set_option maxRecDepth 100000 in
set_option maxHeartbeats 8000000 in
open_top hd for PySem.Challenge.rw_rs0092_01
end Mine
end
section
open PySem PySem.W PySem.Calls PyProof.Rows
namespace Mine
section
section
variable {prog : Program} {w : World} {A : Around} {E : Value → Shared → Prop} {s : Shared} {env : Env} {h₀ : Heap} {x : Str} {body : List Stmt} {Q : Flow → Shared → Prop}
theorem loopG {I : Addr} {n : Nat} {P : Nat → Value → Prop} {St : Nat → Heap → Prop} {m₀ : Str → Option Value} {news : List (Addr × Obj)} (J : Nat → (Str → Option Value) → List (Addr × Obj) → Prop)
    (W : Walks prog w A I [I] [I] n P St) (hal : ∀ i h, St i h → ∃ o, h.get? I = some o) (hL : env.locals ≠ I) (hI0 : h₀.get? I = none) (hnI : ∀ p ∈ news, p.1 ≠ I) (hst : St 0 s.heap)
    (F : Fr h₀ env.locals s.heap m₀) (N : News h₀ env.locals s.heap news) (hj : J 0 m₀ news)
    (turn : ∀ i v m₁ news₁ h tk own, i < n → P i v → (∃ o, (I, o) ∈ own) → OwnOff own (news₁.map (·.1)) → J i m₁ news₁ → Fr h₀ env.locals h (fun y => if y = x then some v else m₁ y) → News h₀ env.locals h (news₁ ++ own) →
      wpAny (model prog w) A (execs body env) (InvPostG h₀ env.locals (J (i + 1)) own { s with heap := h, toks := tk } Q) E { s with heap := h, toks := tk })
    (done : ∀ m₁ news₁ h tk, J n m₁ news₁ → Fr h₀ env.locals h m₁ → News h₀ env.locals h news₁ → Q .next { s with heap := h, toks := tk }) :
    LoopAtV prog w A h₀ env x body Q E (.ref I) s := by
  refine ⟨I, [I], [I], n, P, St, m₀, news, J, rfl, W, fun h => hL (List.mem_singleton.mp h), fun b hb => by rw [List.mem_singleton.mp hb]; exact hI0, fun p hp h => hnI p hp (List.mem_singleton.mp h), hst, F, N, hj, ?_, ?_⟩
  · rintro i v m₁ news₁ s₁ own ⟨hh', tk', rfl⟩ hin hP hJ hoff hown _ hfp hst' F₁ N₁
    obtain ⟨oI, hoI⟩ := hal _ _ hst'
    have hIown : (I, oI) ∈ own := hfp _ (List.mem_singleton.mpr rfl) hI0 _ hoI
    have hsep : OwnOff own (news₁.map (·.1)) := by
      intro p hp b hb e
      obtain ⟨q, hq, rfl⟩ := List.mem_map.mp hb
      exact hoff q hq (e ▸ hown p hp)
    have N₂ : News h₀ env.locals hh' (news₁ ++ own) := fun p hp => N₁ p ((List.mem_append.mp hp).elim (fun h => List.mem_append.mpr (.inr h)) fun h => List.mem_append.mpr (.inl h))
    refine wpAny_mono (turn i v m₁ news₁ hh' tk' own hin hP ⟨oI, hIown⟩ hsep hJ F₁ N₂) (fun f s₂ p => ?_) fun _ _ e => e
    have fin : InvEndG h₀ env.locals (J (i + 1)) own { s with heap := hh', toks := tk' } s₂ → LoopStepU h₀ env.locals [I] own (J (i + 1)) { s with heap := hh', toks := tk' } .next s₂ := by
      rintro ⟨h', tk, m', news', nx, e, F', N', hn, ho, ha, hm⟩
      refine ⟨rfl, h', tk, m', nx, e, F', fun p hp => N' p ((List.mem_append.mp hp).elim (ho p) (hn p)), fun p hp hq => ?_, hm⟩
      exact ha _ hIown p.1 (List.mem_map.mpr ⟨p, hp, rfl⟩) (List.mem_singleton.mp hq).symm
    cases f with
    | ret v => exact .ret p
    | brk => exact .brk p
    | next => exact .next (fin p)
    | cont => exact .cont (fin p)
  · rintro h' tk m' news' F' N' _ hJ
    exact done m' news' h' tk hJ F' N'
theorem strLoop {xt : Str} {tx : Tok} {m₀ : Str → Option Value} {news : List (Addr × Obj)} (J : Nat → (Str → Option Value) → List (Addr × Obj) → Prop)
    (hh : A.handled = none) (F : Fr h₀ env.locals s.heap m₀) (N : News h₀ env.locals s.heap news) (hj : J 0 m₀ news)
    (turn : ∀ i c t m₁ news₁ h tk own, xt.cps[i]? = some c → (∃ o, (s.heap.objs.size, o) ∈ own) → OwnOff own (news₁.map (·.1)) → J i m₁ news₁ →
      Fr h₀ env.locals h (fun y => if y = x then some (.str ⟨#[c]⟩ t) else m₁ y) → News h₀ env.locals h (news₁ ++ own) →
      wpAny (model prog w) A (execs body env) (InvPostG h₀ env.locals (J (i + 1)) own { s with heap := h, toks := tk } Q) E { s with heap := h, toks := tk })
    (done : ∀ m₁ news₁ h tk, J xt.cps.size m₁ news₁ → Fr h₀ env.locals h m₁ → News h₀ env.locals h news₁ → Q .next { s with heap := h, toks := tk }) :
    wpAny (model prog w) A (pyIter (.str xt tx)) (fun it s₂ => LoopAtV prog w A h₀ env x body Q E it s₂) E s := by
  have hL : env.locals ≠ s.heap.objs.size := Nat.ne_of_lt F.ns.lt
  have hnI : ∀ p ∈ news, p.1 ≠ s.heap.objs.size := fun p hp => Nat.ne_of_lt (Heap.lt_size (N p hp).1)
  have go : ∀ (cls : String) (o : Obj), (Walks prog w A s.heap.objs.size [s.heap.objs.size] [s.heap.objs.size] xt.cps.size (SignAt xt) (fun i h => h.IsStrIter s.heap.objs.size cls xt tx i)) →
      (s.heap.push o).IsStrIter s.heap.objs.size cls xt tx 0 → LoopAtV prog w A h₀ env x body Q E (.ref s.heap.objs.size) { s with heap := s.heap.push o } := by
    intro cls o W hst
    refine loopG J W (fun i h ⟨o, ho, _⟩ => ⟨o, ho⟩) hL (next_is_new F) hnI hst (F.push _) (fun p hp => ⟨Heap.get?_push_of_some _ (N p hp).1, (N p hp).2⟩) hj ?_ ?_
    · rintro i v m₁ news₁ h tk own hi ⟨c, u, hc, rfl⟩ hex hoff hJ F₁ N₁
      exact turn i c u m₁ news₁ h tk own hc hex hoff hJ F₁ N₁
    · exact done
  cases ha : xt.cps.all (· < 128)
  · exact wpAny_pyIter_wide ha (go _ _ (Walks.strWide hh _ xt tx) ⟨_, Heap.get?_push_size _ rfl, rfl, rfl⟩)
  · exact wpAny_pyIter_ascii ha (go _ _ (Walks.strAscii hh _ xt tx) ⟨_, Heap.get?_push_size _ rfl, rfl, rfl⟩)
theorem rangeLoop {r : Addr} {a b c : Int} {t₀ u₀ v₀ : Tok} {n : Nat} {m₀ : Str → Option Value} {news : List (Addr × Obj)} (J : Nat → (Str → Option Value) → List (Addr × Obj) → Prop)
    (hh : A.handled = none) (hr : IsRange s.heap r a b c t₀ u₀ v₀) (hsmall : Builtin.Range.small a b c = true) (hn : Builtin.Range.rangeSize a b c = (n : Int))
    (F : Fr h₀ env.locals s.heap m₀) (N : News h₀ env.locals s.heap news) (hj : J 0 m₀ news)
    (turn : ∀ (i : Nat) (k : Int) t m₁ news₁ h tk own, i < n → k = a + (i : Int) * c → (∃ o, (s.heap.objs.size, o) ∈ own) → OwnOff own (news₁.map (·.1)) → J i m₁ news₁ →
      Fr h₀ env.locals h (fun y => if y = x then some (.int k t) else m₁ y) → News h₀ env.locals h (news₁ ++ own) →
      wpAny (model prog w) A (execs body env) (InvPostG h₀ env.locals (J (i + 1)) own { s with heap := h, toks := tk } Q) E { s with heap := h, toks := tk })
    (done : ∀ m₁ news₁ h tk, J n m₁ news₁ → Fr h₀ env.locals h m₁ → News h₀ env.locals h news₁ → Q .next { s with heap := h, toks := tk }) :
    wpAny (model prog w) A (pyIter (.ref r)) (fun it s₂ => LoopAtV prog w A h₀ env x body Q E it s₂) E s := by
  have hL : env.locals ≠ s.heap.objs.size := Nat.ne_of_lt F.ns.lt
  have hnI : ∀ p ∈ news, p.1 ≠ s.heap.objs.size := fun p hp => Nat.ne_of_lt (Heap.lt_size (N p hp).1)
  refine wpAny_pyIter_range hr hsmall ?_
  have W := (Walks.range (prog := prog) (w := w) hh s.heap.objs.size a c n)
  refine loopG J W (fun i h st => ⟨_, st⟩) hL (next_is_new F) hnI (by show IsRangeIter _ _ _ _ _; rw [hn]; simpa using Heap.get?_push_size _ rfl) (F.push _) (fun p hp => ⟨Heap.get?_push_of_some _ (N p hp).1, (N p hp).2⟩) hj ?_ ?_
  · rintro i v m₁ news₁ h tk own hi ⟨t, rfl⟩ hex hoff hJ F₁ N₁
    exact turn i _ t m₁ news₁ h tk own hi rfl hex hoff hJ F₁ N₁
  · exact done
/-- the end of a turn -/
theorem endG {L : Addr} {J : (Str → Option Value) → List (Addr × Obj) → Prop} {m' : Str → Option Value} {own news' : List (Addr × Obj)} {s₁ : Shared} {h' : Heap} {tk : Nat} (nx : List (Addr × Obj)) (F : Fr h₀ L h' m') (N : News h₀ L h' news')
    (hj : J m' nx) (ha : OwnOff own (nx.map (·.1))) (hn : ∀ p ∈ nx, p ∈ news') (ho : ∀ p ∈ own, p ∈ news') : InvEndG h₀ L J own s₁ { s₁ with heap := h', toks := tk } := InvEndG.intro F N hj ha hn ho
end
def Has (m : Str → Option Value) : List (Str × Value) → Prop
  | [] => True
  | p :: r => m p.1 = some p.2 ∧ Has m r
theorem Has.all {m : Str → Option Value} {ps : List (Str × Value)} (h : Has m ps) (p : Str × Value) (hp : p ∈ ps) : m p.1 = some p.2 := by
  induction hp with
  | head => exact h.1
  | tail _ _ ih => exact ih h.2
theorem Has.eq {m : Str → Option Value} {ps : List (Str × Value)} (h : Has m ps) : kstB m ps = m := funext fun _ => kstB_eq h.all fun _ => rfl
theorem Fr.has {h₀ h : Heap} {L : Addr} {m : Str → Option Value} {ps : List (Str × Value)} (hs : Has m ps) (F : Fr h₀ L h m) : Fr h₀ L h (kstB m ps) := by rw [hs.eq]; exact F
theorem Fr.hasX {h₀ h : Heap} {L : Addr} {m : Str → Option Value} {ps : List (Str × Value)} {x : Str} {v : Value} (hs : Has m ps) (F : Fr h₀ L h (fun y => if y = x then some v else m y)) : Fr h₀ L h (kstB m ((x, v) :: ps)) := by
  have e : kstB m ((x, v) :: ps) = fun y => if y = x then some v else m y := by
    funext y
    show (if y = x then some v else kstB m ps y) = _
    rw [hs.eq]
  rw [e]; exact F
theorem inElt_of {s : Heap} {g h : Heap} {L : Addr} {m : Str → Option Value} (G : GSub s g (List.map (fun x : Addr × Obj => x.fst) [])) (F : Fr g L h m) : InElt s h := fun b o e => F.keep b o (G b o e (fun h => nomatch h))
theorem leaveH {h₀ g : Heap} {L L' : Addr} {m m' : Str → Option Value} {R : Result → Shared → Prop} {v : Value} {s' : Shared} (F' : Fr g L' s'.heap m') (h : R (.ok (.ret v)) s') : LeaveK h₀ L m g R v s' :=
  ⟨L', m', [], F', News.nil, fun _ _ => h⟩
theorem ownOff_nil {own : List (Addr × Obj)} : OwnOff own [] := fun _ _ _ hb => nomatch hb
theorem News.sub {h₀ h : Heap} {L : Addr} {news news' : List (Addr × Obj)} (N : News h₀ L h news') (hs : ∀ p ∈ news, p ∈ news') : News h₀ L h news := fun p hp => N p (hs p hp)
theorem allLt_to {d : Nat} {l : List (Addr × Obj)} (h : AllLt d l) : ∀ p ∈ l, @LT.lt Nat _ p.1 d := by
  induction l with
  | nil => intro p hp; cases hp
  | cons q r ih =>
    intro p hp
    cases hp with
    | head => exact h.1
    | tail _ hp => exact ih h.2 p hp
theorem ownOff_cons {own : List (Addr × Obj)} {b : Addr} {l : List Addr} (h1 : ∀ p ∈ own, p.1 ≠ b) (h2 : OwnOff own l) : OwnOff own (b :: l) := fun p hp c hc => by
  rcases List.mem_cons.mp hc with rfl | hc
  · exact h1 p hp
  · exact h2 p hp c hc
theorem News.ne {h₀ h : Heap} {L x y : Addr} {ox oy : Obj} {news : List (Addr × Obj)} (N : News h₀ L h news) (hx : (x, ox) ∈ news) (hy : (y, oy) ∈ news) (hc : ox.data ≠ oy.data) : @Ne Nat x y := fun e => by
  have h1 := (N _ hx).1
  have h2 := (N _ hy).1
  dsimp only at h1 h2
  rw [show x = y from e, h2] at h1
  exact hc (by rw [Option.some.inj h1])
theorem Fr.but {h₀ h h' : Heap} {L : Addr} {m : Str → Option Value} {adr : List Addr} (F : Fr h₀ L h m) (k : ∀ b o, b ∉ adr → h.get? b = some o → h'.get? b = some o) (hL : L ∉ adr) (h0 : ∀ b ∈ adr, h₀.get? b = none) : Fr h₀ L h' m := by
  obtain ⟨oL, es, ep, hoL, r⟩ := F.ns
  exact ⟨⟨oL, es, ep, k L oL hL hoL, r⟩, fun b o e => k b o (fun hb => by rw [h0 b hb] at e; cases e) (F.keep b o e), F.above⟩
theorem News.but {h₀ h h' : Heap} {L : Addr} {adr : List Addr} {news : List (Addr × Obj)} (N : News h₀ L h news) (k : ∀ b o, b ∉ adr → h.get? b = some o → h'.get? b = some o) (hn : ∀ p ∈ news, p.1 ∉ adr) : News h₀ L h' news :=
  fun p hp => ⟨k _ _ (hn p hp) (N p hp).1, (N p hp).2⟩
theorem News.up {h₀ g h : Heap} {L L' : Addr} {m : Str → Option Value} {news : List (Addr × Obj)} (FG : Fr h₀ L g m) (N : News g L' h news) : News h₀ L h news := fun p hp => by
  refine ⟨(N p hp).1, fun e => ?_, ?_⟩
  · obtain ⟨oL, es, ep, hoL, r⟩ := FG.ns
    have := (N p hp).2.2
    rw [e, hoL] at this; cases this
  · cases q : h₀.get? p.1 with
    | none => rfl
    | some o => have := (N p hp).2.2; rw [FG.keep _ _ q] at this; cases this
theorem News.app {h₀ h : Heap} {L : Addr} {a b : List (Addr × Obj)} (N1 : News h₀ L h a) (N2 : News h₀ L h b) : News h₀ L h (a ++ b) := fun p hp => (List.mem_append.mp hp).elim (N1 p) (N2 p)
def Hold (P : Prop) : Prop := P
theorem Hold.mk {P : Prop} (h : P) : Hold P := h
theorem Hold.out {P : Prop} (h : Hold P) : P := h
/-- where k_steps stands still -/
inductive Stop : {α : Type} → Sem α → Prop
  | loop {a b c d e env} : Stop (exec (Stmt.For a b c d e) env)
  | bare {p v q r env} : Stop (execs (Stmt.Assign [PySem.Expr.Name (Str.ofString "bare") p] v q :: r) env)
  | left {p x y q r env} : Stop (execs (Stmt.Assign [PySem.Expr.Name (Str.ofString "left") p] (PySem.Expr.Name x y) q :: r) env)
  | places {p v q r env} : Stop (execs (Stmt.Assign [PySem.Expr.Name (Str.ofString "places") p] v q :: r) env)
  | table {p v q r env} : Stop (execs (Stmt.Assign [PySem.Expr.Name (Str.ofString "table") p] v q :: r) env)
  | same {p v q r env} : Stop (execs (Stmt.Assign [PySem.Expr.Name (Str.ofString "same") p] v q :: r) env)
  | one {p v q r env} : Stop (execs (Stmt.Assign [PySem.Expr.Name (Str.ofString "one") p] v q :: r) env)
  | comp {a b c d env} : Stop (eval (PySem.Expr.ListComp a b c d) env)
  | call {a b c} : Stop (call (Value.ref a) b c)
  | append {b c} : Stop (call (Value.builtin "list.append") b c)
  | replace {b c} : Stop (call (Value.builtin "str.replace") b c)
  | eqs {a b} : Stop (compareOp CmpOp.Eq (Value.ref a) (Value.ref b))
  | nes {a b} : Stop (compareOp CmpOp.NotEq a (Value.ref b))
  | iter {a} : Stop (pyIter a)
  | last {a b l u} : Stop (subscriptTail a b (Value.ref l) (Value.int (-1) u))
  | getLast {l u} : Stop (getItem (Value.ref l) (Value.int (-1) u))
  | setLast {l u v} : Stop (setItem (Value.ref l) (Value.int (-1) u) v)
  | slice {a b c d l q} : Stop (subscriptTail a (PySem.Expr.Slice b c none d) (Value.ref l) (Value.ref q))
theorem halt {α : Type} {M : Model} {A : Around} {t : Sem α} {Q : α → Shared → Prop} {E : Value → Shared → Prop} {s : Shared} (_ : Stop t) (h : wpAny M A t Q E s) : wpAny M A t Q E s := h
end
local macro_rules | `(tactic| k_steps) => `(tactic| repeat (first
  | (k_unfold; (try dsimp only))
  | ((fail_if_success (with_reducible first | refine halt (by constructor) ?_ | show InvEndG _ _ _ _ _ _ | show LeaveK _ _ _ _ _ _ _ | show Hold _))
     (first | (fail_if_success (with_reducible show ite _ _ _)) | k_closed)
     (first | walk1 | (dsimp only; first | walk1 | (k_unfold; (try dsimp only)))))))
section
section
variable {prog p : Program} {loose : List Str} {w : World} {mean : ExcName → Option Value} {mg mb : Str → Option Value}
  {dp un : Nat} {gd : Option (List Code)} {cn : Str} {cs : Scope} {a : Addr} {ccd : Value} {cl : List (Str × Addr)} {outer : List Env} {A₀ : Around} {base h₀ : Heap} {L : Addr} {m : Str → Option Value} {s : Shared} {Q E : Value → Shared → Prop}
def colStep (step c : Int) (ch : Nat) : Int := if ch = 9 then c + step - Int.fmod c step else c + 1
def colOf (step : Int) (l : List Nat) : Int := l.foldl (colStep step) 0
theorem take_snoc {l : Array Nat} {i c : Nat} (h : l[i]? = some c) : l.toList.take (i + 1) = l.toList.take i ++ [c] := by
  have : l.toList[i]? = some c := by simpa using h
  simp [List.take_add_one, this]
theorem sign_tab (c : Nat) : ((⟨#[c]⟩ : Str) == Str.ofString "\t") = true ↔ c = 9 := by
  have e : Str.ofString "\t" = ⟨#[9]⟩ := by decide +kernel
  rw [e, beq_iff_eq]
  simp
set_option maxHeartbeats 4000000 in
theorem column_call (B : Below A₀ base outer h₀) (F : Fr h₀ L s.heap m) (X : (hd.heap_39 w.params).In h₀) (T : Top p loose mean mg mb h₀) (hk : cs.kind = .function)
   (hdp : dp + 5 < recursionLimit) (lead : Str) (step : Int) (hs : 1 ≤ step) (t1 t2 : Tok)
   (hQ : ∀ t h' tk, InElt s.heap h' → Q (.int (colOf step lead.cps.toList) t) {s with heap := h', toks := tk}) :
   wpAny (model prog w) (ktrTop dp un gd cn cs L a ccd cl outer) (call (.ref 114) [.str lead t1, .int step t2]) Q E s := by
  refine wpAny_call ?_
  have N : News h₀ L s.heap [] := News.nil
  (refine' code_defG (binds := [(Str.ofString "lead", .str lead t1), (Str.ofString "step", .int step t2)]) B F X N T ?kA ?kF ?kK ?k6 ?k7 ?k8 ?k9 ?kB ?_ ?c2 ?c3 ?c4 ?c5; (case kA => exact rfl); (case kF => exact rfl); (case kK => assumption); (case k6 => k_is); (case k7 => k_is); (case k8 => ktr_room); (case k9 => exact BindsTo.of_eq rfl); (case c5 => decide); (case kB => exact locs rfl); (case c2 => exact rfl); (case c3 => exact rfl); (case c4 => exact rfl); k_whole)
  intro g' L' h' FG' F' N' B' X' T' G'
  generalize s.toks + _ = tk₀
  clear FG' B F X T N hk
  k_fold
  k_steps
  rename Fr _ _ _ _ => F1
  rename News _ _ _ _ => N1
  refine For_invVF F1 rfl rfl ?_
  k_steps
  refine strLoop (fun i m news => news = [] ∧ ∃ t, Has m [(Str.ofString "column", .int (colOf step (lead.cps.toList.take i)) t), (Str.ofString "step", .int step t2)]) rfl F1 N1 ⟨rfl, tk₀, rfl, rfl, trivial⟩ ?_ ?_
  · rintro i c t m₁ news₁ h tk own hc hex hoff ⟨rfl, tc, hm⟩ F2 N2
    clear F1 N1
    replace F2 := Fr.hasX hm F2
    have hnew := take_snoc hc
    generalize hcc : colOf step (lead.cps.toList.take i) = col at hm F2
    have hcol : colOf step (lead.cps.toList.take (i + 1)) = colStep step col c := by
      rw [hnew, ← hcc]; simp [colOf, List.foldl_append]
    rw [hcol]
    clear hnew hcol hcc
    k_steps
    split
    · rename_i hc9
      have hc9' : c = 9 := (sign_tab c).mp hc9
      rw [show colStep step col c = col + step - col.fmod step from if_pos hc9']
      k_steps
      exact endG [] (by assumption) (by assumption) ⟨rfl, _, rfl, rfl, trivial⟩ ownOff_nil (fun _ h => nomatch h) (fun _ h => h)
    · rename_i hc9
      have hc9' : c ≠ 9 := fun e => hc9 ((sign_tab c).mpr e)
      rw [show colStep step col c = col + 1 from if_neg hc9']
      k_steps
      exact endG [] (by assumption) (by assumption) ⟨rfl, _, rfl, rfl, trivial⟩ ownOff_nil (fun _ h => nomatch h) (fun _ h => h)
  · rintro m₁ news₁ h tk ⟨rfl, tc, hm⟩ F2 N2
    clear F1 N1
    replace F2 := Fr.has hm F2
    rw [List.take_of_length_le (by simp)] at F2
    k_steps
    exact leaveH F2 (hQ _ _ _ (inElt_of G' F2))
end
end
section
theorem setItem_last {prog : Program} {w : World} {A : Around} {E : Value → Shared → Prop} {s : Shared} {l : Addr} {items : Array Value} {n : Nat} {t : Tok} {v : Value} {Q : Unit → Shared → Prop} (ho : s.heap.get? l = some (listOf items n)) (hne : 0 < items.size)
    (hQ : Q () { s with heap := s.heap.update l (Obj.mapSeq (·.setIfInBounds (items.size - 1) v)) }) :
    wpAny (model prog w) A (setItem (.ref l) (.int (-1) t) v) Q E s := by
  have hl : s.heap.IsList l items := PySem.IsL.isList ho
  have hd : (listOf items n).data = .seq items n := rfl
  unfold setItem
  try with_reducible refine wpAny_holding ?_
  first | refine wpAny_bind (wpAny_pure ?_) | skip
  refine wpAny_bind (wpAny_sequenceKey hl.typeIs (by decide) ?_)
  refine wpAny_bind (wpAny_callSpecial?_slot (name := Str.ofString "__setitem__") hl.typeIs slot_list_setitem
    (wpAny_call_entry slot_list_setitem hl.typeIs entry_list_setitem ?_ (args_list_setitem _ _ _)))
  show wpAny _ _ (Builtin.List.listSubscript? (.int (-1) t) >>= _) _ _ s
  refine wpAny_bind (wpAny_listSubscript_int (fitsIndex_neg (by decide) (by decide)) ?_)
  have hidx : seqIndex? (-1) items.size = some (items.size - 1) := by
    rw [seqIndex_neg (by decide) (by omega)]
    congr 1
    omega
  show wpAny _ _ ((Builtin.List.listItems (.ref l) >>= fun xs => pure ((seqIndex? (-1) xs.size).bind fun i => xs[i]?.map (i, ·))) >>= _) _ _ s
  refine wpAny_bind (wpAny_bind ?_)
  show wpAny _ _ (seqItems? (.ref l) >>= _) _ _ s
  refine wpAny_bind (wpAny_seqItems ho hd (wpAny_pure (wpAny_pure ?_)))
  have hx : items[items.size - 1]? = some items[items.size - 1] := Array.getElem?_eq_getElem (by omega)
  rw [hidx]
  simp only [Option.bind_some, hx, Option.map_some]
  show wpAny _ _ (setSeqItemAt l (items.size - 1) v >>= _) _ _ s
  refine wpAny_bind (wpAny_setSeqItemAt ho hd ?_)
  first
    | exact wpAny_bind (wpAny_pure (wpAny_pure ⟨.none, rfl, wpAny_pure hQ⟩))
    | exact wpAny_pure ⟨.none, rfl, wpAny_pure hQ⟩
section
variable {prog p : Program} {loose : List Str} {w : World} {mean : ExcName → Option Value} {mg mb : Str → Option Value}
  {dp un : Nat} {gd : Option (List Code)} {cn : Str} {cs : Scope} {a : Addr} {ccd : Value} {cl : List (Str × Addr)} {outer : List Env} {A₀ : Around} {base h₀ : Heap} {L : Addr} {m : Str → Option Value} {s : Shared} {Q E : Value → Shared → Prop}
theorem sub_last {value slice : PySem.Expr} {A : Around} {E : Value → Shared → Prop} {s : Shared} {l : Addr} {us : List Value} {v : Value} {n : Nat} {u : Tok} {Q : Value → Shared → Prop} (ho : s.heap.get? l = some (listOf (us ++ [v]).toArray n)) (h : Q v s)
    (hs : subscripted slice false (.ref l) (.int (-1) u) = operate [.ref l, .int (-1) u] (getItem (.ref l) (.int (-1) u)) := by with_unfolding_all rfl) :
    wpAny (model prog w) A (subscriptTail value slice (.ref l) (.int (-1) u)) Q E s := by
  have hl : s.heap.IsList l (us ++ [v]).toArray := PySem.IsL.isList ho
  refine tail_any hl.typeIs slot_list_getitem.lookup (wpAny_getItem_list_neg hl (by decide) ?_ (by decide) ?_ h) hs
  · simp; omega
  · have e : (-1 + (((us ++ [v]).toArray).size : Int)).toNat = us.length := by simp; omega
    rw [e]; simp
theorem get_last {A : Around} {E : Value → Shared → Prop} {s : Shared} {l : Addr} {us : List Value} {v : Value} {n : Nat} {u : Tok} {Q : Value → Shared → Prop} (ho : s.heap.get? l = some (listOf (us ++ [v]).toArray n)) (h : Q v s) :
    wpAny (model prog w) A (getItem (.ref l) (.int (-1) u)) Q E s := by
  have hl : s.heap.IsList l (us ++ [v]).toArray := PySem.IsL.isList ho
  refine wpAny_getItem_list_neg hl (by decide) ?_ (by decide) ?_ h
  · simp; omega
  · have e : (-1 + (((us ++ [v]).toArray).size : Int)).toNat = us.length := by simp; omega
    rw [e]; simp
theorem set_last {A : Around} {E : Value → Shared → Prop} {s : Shared} {g : Heap} {L l : Addr} {m : Str → Option Value} {us : List Value} {v v' : Value} {n : Nat} {u : Tok} {Q : Unit → Shared → Prop} (F : Fr g L s.heap m) (N : News g L s.heap [(l, listOf (us ++ [v]).toArray n)])
    (h : ∀ h', Fr g L h' m → News g L h' [(l, listOf (us ++ [v']).toArray n)] → Q () { s with heap := h' }) :
    wpAny (model prog w) A (setItem (.ref l) (.int (-1) u) v') Q E s := by
  have e : Obj.mapSeq (·.setIfInBounds (((us ++ [v]).toArray).size - 1) v') (listOf (us ++ [v]).toArray n) = listOf (us ++ [v']).toArray n := by
    have e1 : ((us ++ [v]).toArray).setIfInBounds (((us ++ [v]).toArray).size - 1) v' = (us ++ [v']).toArray := by
      apply Array.toList_inj.mp
      simp
    show (⟨_, _, .seq (((us ++ [v]).toArray).setIfInBounds (((us ++ [v]).toArray).size - 1) v') (if (((us ++ [v]).toArray).setIfInBounds (((us ++ [v]).toArray).size - 1) v').size == ((us ++ [v]).toArray).size then n else n + 1), _⟩ : Obj) = _
    rw [e1]
    simp
  obtain ⟨F', N'⟩ := news_upd (pre := []) (post := []) F N (fun _ h => nomatch h) (fun _ h => nomatch h) e rfl
  exact setItem_last (News.get N (.head _)) (by simp) (h _ F' N')
theorem strs_snoc_inv : ∀ {us : List Value} {v : Value} {xs : List Str}, StrsAre (us ++ [v]) xs → ∃ ys y t, xs = ys ++ [y] ∧ v = .str y t ∧ StrsAre us ys
  | [], _, _, .cons y t .nil => ⟨[], y, t, rfl, rfl, .nil⟩
  | _ :: us, v, _, .cons y t h => by
    obtain ⟨ys, z, t', rfl, rfl, h'⟩ := strs_snoc_inv (us := us) h
    exact ⟨y :: ys, z, t', rfl, rfl, .cons y t h'⟩
def maxApp (xs : List Str) (x : Str) (room : Int) (mark : Str) : List Str :=
  match xs.getLast? with
  | none => [Txt.lstrip x]
  | some y => if (y.length : Int) + x.length ≤ room then xs.dropLast ++ [y ++ (mark ++ x)] else xs ++ [Txt.lstrip x]
set_option maxHeartbeats 4000000 in
theorem append_call {r : Addr} {vs : List Value} {xs : List Str} {n : Nat} {sv : Value} {args : List Value} (B : Below A₀ base outer h₀) (F : Fr h₀ L s.heap m) (X : (hd.heap_39 w.params).In h₀) (T : Top p loose mean mg mb h₀) (hk : cs.kind = .function)
   (N : News h₀ L s.heap [(r, listOf vs.toArray n)]) (hv : StrsAre vs xs) (hvl : vs.length ≤ 1000)
   (hdp : dp + 5 < recursionLimit) (x mark : Str) (room : Int) (t1 t2 t3 : Tok) (hx : x.length ≤ 1000) (hmk : mark.length ≤ 1000) (hxs : ∀ y ∈ xs, y.length ≤ 1000)
   (hsv : sv = .str x t1 ∨ ∃ k : Nat, k < 128 ∧ sv = .int k t1 ∧ x = ⟨#[k]⟩)
   (hargs : args = [.ref r, sv, .int room t2, .str mark t3] ∨ (args = [.ref r, sv, .int room t2] ∧ mark = Str.ofString "" ∧ t3 = 196))
   (hQ : ∀ vs' n' h' tk, StrsAre vs' (maxApp xs x room mark) → (∀ b o, b ≠ r → s.heap.get? b = some o → h'.get? b = some o) → h'.get? r = some (listOf vs'.toArray n') → Q .none {s with heap := h', toks := tk}) :
   wpAny (model prog w) (ktrTop dp un gd cn cs L a ccd cl outer) (call (.ref 29) args) Q E s := by
  refine wpAny_call ?_
  (refine' code_defG (binds := [(Str.ofString "L", .ref r), (Str.ofString "s", sv), (Str.ofString "maxlen", .int room t2), (Str.ofString "extra", .str mark t3)]) B F X N T ?kA ?kF ?kK ?k6 ?k7 ?k8 ?k9 ?kB ?_ ?c2 ?c3 ?c4 ?c5; (case kA => exact rfl); (case kF => exact rfl); (case kK => assumption); (case k6 => k_is); (case k7 => k_is); (case k8 => ktr_room)
   (case k9 =>
     rcases hargs with rfl | ⟨rfl, rfl, rfl⟩
     · exact binds_K (by k_in) rfl (by k_is) rfl rfl rfl
     · exact binds_K (by k_in) rfl (by k_is) rfl rfl rfl)
   (case c5 => decide); (case kB => exact locs rfl); (case c2 => exact rfl); (case c3 => exact rfl); (case c4 => exact rfl); k_whole)
  intro g' L' h' FG' F' N' B' X' T' G'
  generalize s.toks + _ = tk₀
  clear FG' B F X T N hk hargs
  k_fold
  walk1
  refine wpAny_mono (Q := fun f s' => Hold (f = .next ∧ ∃ h tk ts u, s' = { s with heap := h, toks := tk } ∧ Fr g' L' h (kstB u [(Str.ofString "L", .ref r), (Str.ofString "s", .str x ts), (Str.ofString "maxlen", .int room t2), (Str.ofString "extra", .str mark t3)]) ∧ News g' L' h [(r, listOf vs.toArray n)])) ?_ ?_ (fun _ _ h => h)
  · rcases hsv with rfl | ⟨k, hk, rfl, rfl⟩
    · k_steps
      refine Hold.mk ⟨rfl, _, _, t1, _, rfl, Fr.has ⟨rfl, rfl, rfl, rfl, trivial⟩ (by assumption), by assumption⟩
    · k_steps
      refine Hold.mk ⟨rfl, _, _, _, _, rfl, Fr.has ⟨rfl, rfl, rfl, rfl, trivial⟩ (by assumption), by assumption⟩
  · rintro f s' ⟨rfl, h, tk, ts, u, rfl, F2, N2⟩
    clear F' N' hsv
    have hG : ∀ {L'' : Addr} {m' : Str → Option Value} {h' : Heap}, Fr g' L'' h' m' → ∀ b o, b ≠ r → s.heap.get? b = some o → h'.get? b = some o :=
      fun F b o hb e => F.keep b o (G' b o e (fun h => hb (List.mem_singleton.mp h)))
    rcases List.eq_nil_or_concat vs with rfl | ⟨us, v, rfl⟩
    · cases hv
      k_steps
      walk1
      k_steps
      exact leaveH (by assumption) (hQ [.str _ _] _ _ _ (.cons _ _ .nil) (hG (by assumption)) (News.get (by assumption) (.head _)))
    · rw [List.concat_eq_append] at *
      obtain ⟨ys, y, ty, rfl, rfl, hu⟩ := strs_snoc_inv hv
      have hy : y.length ≤ 1000 := hxs y (by simp)
      have hne : (us ++ [Value.str y ty]).isEmpty = false := by cases us <;> rfl
      have hvl' : us.length ≤ 1000 := by simp at hvl; omega
      k_steps
      rw [if_neg (by simp [hne])]
      k_steps
      with_unfolding_all refine' sub_last ?k1 ?_ ?k2; (case k1 => exact News.get (by assumption) (.head _)); (case k2 => with_unfolding_all rfl)
      k_steps
      split
      · rename_i hroom
        k_steps
        with_unfolding_all refine' get_last ?k1 ?_; (case k1 => exact News.get (by assumption) (.head _))
        k_steps
        with_unfolding_all refine' set_last ?k1 ?k2 ?_; (case k1 => assumption); (case k2 => assumption)
        intro h' F' N'
        k_steps
        rename News _ _ _ _ => N3
        refine leaveH (by assumption) (hQ _ _ _ _ ?_ (hG (by assumption)) (News.get N3 (.head _)))
        have e : maxApp (ys ++ [y]) x room mark = ys ++ [y ++ (mark ++ x)] := by
          simp only [maxApp, List.getLast?_append, List.getLast?_singleton, Option.some_or, List.dropLast_concat]
          exact if_pos (of_decide_eq_true hroom)
        rw [e]
        exact hu.append' (.cons _ _ .nil)
      · rename_i hroom
        k_steps
        walk1
        k_steps
        rename News _ _ _ _ => N3
        have N4 := News.get N3 (.head _)
        rw [List.push_toArray] at N4
        refine leaveH (by assumption) (hQ _ _ _ _ ?_ (hG (by assumption)) N4)
        have e : maxApp (ys ++ [y]) x room mark = ys ++ [y] ++ [Txt.lstrip x] := by
          simp only [maxApp, List.getLast?_append, List.getLast?_singleton, Option.some_or]
          exact if_neg (fun h => hroom (decide_eq_true h))
        rw [e]
        exact hv.append' (.cons _ _ .nil)
end
end
section
section
variable {prog p : Program} {loose : List Str} {w : World} {mean : ExcName → Option Value} {mg mb : Str → Option Value}
  {dp un : Nat} {gd : Option (List Code)} {cn : Str} {cs : Scope} {a : Addr} {ccd : Value} {cl : List (Str × Addr)} {outer : List Env} {A₀ : Around} {base h₀ : Heap} {L : Addr} {m : Str → Option Value} {s : Shared} {Q E : Value → Shared → Prop}
structure WsS where
  cnt : List Int
  b : Nat
  n : Nat
  nt : Nat
def wsGrow (cnt : List Int) (b : Nat) : List Int := if cnt.length ≤ b then cnt ++ List.replicate (b - cnt.length + 1) 0 else cnt
def wsStep (st : WsS) (c : Nat) : WsS :=
  if c = 32 then { st with b := st.b + 1, n := st.n + 1 }
  else { cnt := (wsGrow st.cnt st.b).set st.b ((wsGrow st.cnt st.b).getD st.b 0 + 1), b := 0, n := st.n + 1, nt := st.nt + 1 }
def wsOf (l : List Nat) : WsS := l.foldl wsStep ⟨[], 0, 0, 0⟩
theorem wsOf_snoc (l : List Nat) (c : Nat) : wsOf (l ++ [c]) = wsStep (wsOf l) c := by simp [wsOf, List.foldl_append]
theorem wsStep_bound {st : WsS} {k : Nat} (c : Nat) (h : st.b + st.cnt.length ≤ k ∧ st.n = k ∧ st.nt ≤ k) : (wsStep st c).b + (wsStep st c).cnt.length ≤ k + 1 ∧ (wsStep st c).n = k + 1 ∧ (wsStep st c).nt ≤ k + 1 := by
  obtain ⟨h1, h2, h3⟩ := h
  unfold wsStep wsGrow
  split
  · dsimp only; omega
  · dsimp only
    split <;> simp <;> omega
theorem wsFold_bound (l : List Nat) : ∀ (st : WsS) (k : Nat), (st.b + st.cnt.length ≤ k ∧ st.n = k ∧ st.nt ≤ k) → ((l.foldl wsStep st).b + (l.foldl wsStep st).cnt.length ≤ k + l.length ∧ (l.foldl wsStep st).n = k + l.length ∧ (l.foldl wsStep st).nt ≤ k + l.length) := by
  induction l with
  | nil => intro st k h; exact h
  | cons c r ih =>
    intro st k h
    have := ih (wsStep st c) (k + 1) (wsStep_bound c h)
    rw [List.foldl_cons, List.length_cons]
    omega
theorem wsOf_bound (l : List Nat) : (wsOf l).b + (wsOf l).cnt.length ≤ l.length ∧ (wsOf l).n = l.length ∧ (wsOf l).nt ≤ l.length := by
  have := wsFold_bound l ⟨[], 0, 0, 0⟩ 0 ⟨Nat.le_refl _, rfl, Nat.le_refl _⟩
  simpa [wsOf] using this
abbrev rawD (w : World) (ws : Str) (t1 tr : Tok) : Obj := dictOf [⟨PyData.keyHash w.params (Str.ofString "raw"), .str (Str.ofString "raw") tr, .str ws t1⟩] 1
abbrev tupObj (vs : List Value) : Obj := { cls := .type "tuple", data := .seq vs.toArray }
abbrev wsD (w : World) (k1 k2 k3 k4 k5 tr tn tt : Tok) (ws : Str) (n nt : Nat) (tp : Addr) (sm : Bool) : Obj :=
  dictOf [⟨PyData.keyHash w.params (Str.ofString "raw"), .str (Str.ofString "raw") k1, .str ws tr⟩, ⟨PyData.keyHash w.params (Str.ofString "n"), .str (Str.ofString "n") k2, .int n tn⟩,
    ⟨PyData.keyHash w.params (Str.ofString "nt"), .str (Str.ofString "nt") k3, .int nt tt⟩, ⟨PyData.keyHash w.params (Str.ofString "norm"), .str (Str.ofString "norm") k4, .ref tp⟩,
    ⟨PyData.keyHash w.params (Str.ofString "is_simple"), .str (Str.ofString "is_simple") k5, .bool sm⟩] 5
abbrev led4 (w : World) (x dx tp tc : Addr) (vs : List Value) (ws : Str) (k1 k2 k3 k4 k5 tr tn tt tb : Tok) (st : WsS) : List (Addr × Obj) :=
  [(x, instObj 91 dx), (dx, wsD w k1 k2 k3 k4 k5 tr tn tt ws st.n st.nt tp (decide (st.cnt.length ≤ 1))), (tp, tupObj [.ref tc, .int st.b tb]), (tc, tupObj vs)]
def WsLed (w : World) (x : Addr) (st : WsS) (led : List (Addr × Obj)) : Prop :=
  ∃ (dx tp tc : Addr) (vs : List Value) (ws : Str) (k1 k2 k3 k4 k5 tr tn tt tb : Tok),
    led = led4 w x dx tp tc vs ws k1 k2 k3 k4 k5 tr tn tt tb st ∧ IntsAre vs st.cnt
theorem ws_fin {w : World} {g h : Heap} {L' x dx tp tc ca : Addr} {oc : Obj} {vs : List Value} {ws : Str} {k1 k2 k3 k4 k5 tr tn tt tb : Tok} {cnt : List Int} {b n nt : Nat} {sm : Bool}
    (N : News g L' h [(tp, tupObj [.ref tc, .int (b : Int) tb]), (tc, tupObj vs), (ca, oc), (x, instObj 91 dx), (dx, wsD w k1 k2 k3 k4 k5 tr tn tt ws n nt tp sm)])
    (hsm : sm = decide (cnt.length ≤ 1)) (hv : IntsAre vs cnt) : ∃ led, WsLed w x ⟨cnt, b, n, nt⟩ led ∧ News g L' h led := by
  subst hsm
  exact ⟨_, ⟨dx, tp, tc, vs, ws, k1, k2, k3, k4, k5, tr, tn, tt, tb, rfl, hv⟩, News.sub N (by k_allIn)⟩
theorem sign_blank (c : Nat) : ((⟨#[c]⟩ : Str) == Str.ofString " ") = true ↔ c = 32 := by
  have e : Str.ofString " " = ⟨#[32]⟩ := by decide +kernel
  rw [e, beq_iff_eq]
  simp
theorem sign_tab' (c : Nat) : ((⟨#[c]⟩ : Str) == Str.ofString "\t") = true ↔ c = 9 := by
  have e : Str.ofString "\t" = ⟨#[9]⟩ := by decide +kernel
  rw [e, beq_iff_eq]
  simp
theorem take_snocL {l : List Nat} {i c : Nat} (h : l[i]? = some c) : l.take (i + 1) = l.take i ++ [c] := by
  simp [List.take_add_one, h]
set_option maxHeartbeats 4000000 in
theorem ws_make {news : List (Addr × Obj)} (B : Below A₀ base outer h₀) (F : Fr h₀ L s.heap m) (X : (hd.heap_39 w.params).In h₀) (T : Top p loose mean mg mb h₀) (hk : cs.kind = .function)
   (N : News h₀ L s.heap news) (hdp : dp + 5 < recursionLimit) (ws : Str) (t1 : Tok) (hws : ws.length ≤ 1000) (sg rs : List Nat) (hsg : ws.cps.toList = sg ++ rs) (hss : ∀ c ∈ sg, c = 32 ∨ c = 9) (hrs : ∀ c r, rs = c :: r → c ≠ 32 ∧ c ≠ 9)
   (hQ : ∀ x led h' tk, WsLed w x (wsOf sg) led → Fr h₀ L h' m → News h₀ L h' (led ++ news) → Q (.ref x) {s with heap := h', toks := tk}) :
   wpAny (model prog w) (ktrTop dp un gd cn cs L a ccd cl outer) (call (.ref 91) [.str ws t1]) Q E s := by
  refine' call_cls F X N ?k1 ?k2 ?k3 ?_
  case k1 => k_is
  case k2 => k_is
  case k3 => k_is
  intro x dx h1 F1 N1 hlt hltx
  replace hltx := ltN hltx
  have N2 : News h₀ L h1 [(x, instObj 91 dx), (dx, dictOf [] 0)] := fun p hp => N1 p (by
    rcases List.mem_cons.mp hp with rfl | hp
    · exact .head _
    · rw [List.mem_singleton.mp hp]; exact .tail _ (.head _))
  (refine' code_defG (binds := [(Str.ofString "self", .ref x), (Str.ofString "ws", .str ws t1)]) B F1 X N2 T ?kA ?kF ?kK ?k6 ?k7 ?k8 ?k9 ?kB ?_ ?c2 ?c3 ?c4 ?c5; (case kA => exact rfl); (case kF => exact rfl); (case kK => assumption); (case k6 => k_is); (case k7 => k_is); (case k8 => ktr_room); (case k9 => exact BindsTo.of_eq rfl); (case c5 => decide); (case kB => exact locs rfl); (case c2 => exact rfl); (case c3 => exact rfl); (case c4 => exact rfl); k_whole)
  intro g' L' h' FG' F' N' B' X' T' G'
  generalize s.toks + _ = tk₀
  clear B F X T N hk
  k_fold
  have keep : ∀ {L'' : Addr} {m'' : Str → Option Value} {h'' : Heap}, Fr g' L'' h'' m'' → ∀ b o, b ∉ [x, dx] → h1.get? b = some o → h''.get? b = some o := fun F b o hb e => F.keep b o (G' b o e hb)
  have hF1 : ∀ {L'' : Addr} {m'' : Str → Option Value} {h'' : Heap}, Fr g' L'' h'' m'' → Fr h₀ L h'' m := fun F => Fr.but F1 (keep F) (fun h => by
    rcases List.mem_cons.mp h with h | h
    · exact (N2 (x, instObj 91 dx) (.head _)).2.1 h.symm
    · exact (N2 (dx, dictOf [] 0) (.tail _ (.head _))).2.1 (List.mem_singleton.mp h).symm) (fun b hb => by
    rcases List.mem_cons.mp hb with rfl | h
    · exact (N2 (b, instObj 91 dx) (.head _)).2.2
    · rw [List.mem_singleton.mp h]; exact (N2 (dx, dictOf [] 0) (.tail _ (.head _))).2.2)
  have hN1 : ∀ {L'' : Addr} {m'' : Str → Option Value} {h'' : Heap}, Fr g' L'' h'' m'' → News h₀ L h'' news := fun F => News.but (News.sub N1 (fun p hp => .tail _ (.tail _ hp))) (keep F) (fun p hp h => by
    have h0 : @LT.lt Nat _ p.1 dx := hlt p hp
    rcases List.mem_cons.mp h with h | h
    · rw [h] at h0; omega
    · rw [List.mem_singleton.mp h] at h0; omega)
  have hUp : ∀ {L'' : Addr} {l : List (Addr × Obj)} {h'' : Heap}, News g' L'' h'' l → News h₀ L h'' l := fun N => News.up FG' N
  clear FG' F1 N1 G'
  k_steps
  rename Fr _ _ _ _ => F3
  rename News g' _ _ _ => N3
  refine wpAny_mono (Q := fun f s' => Hold (f = .next ∧ ∃ ca vs nn tb tn tt h tk u, s' = { s with heap := h, toks := tk } ∧
    Fr g' L' h (kstB u [(Str.ofString "count", .ref ca), (Str.ofString "b", .int (wsOf sg).b tb), (Str.ofString "n", .int (wsOf sg).n tn), (Str.ofString "nt", .int (wsOf sg).nt tt), (Str.ofString "self", .ref x)]) ∧
    News g' L' h [(ca, listOf vs.toArray nn), (x, instObj 91 dx), (dx, rawD w ws t1 (tk₀ + 1))] ∧ IntsAre vs (wsOf sg).cnt ∧ @LT.lt Nat _ x ca)) ?_ ?_ (fun _ _ h => h)
  · refine For_invVF F3 rfl rfl ?_
    k_steps
    rename Fr _ _ _ _ => F4
    rename News g' _ _ _ => N4
    refine strLoop (news := [(_, listOf [].toArray 0), (x, instObj 91 dx), (dx, rawD w ws t1 (tk₀ + 1))]) (fun i m news => i ≤ sg.length ∧ ∃ ca vs nn tb tn tt, Has m [(Str.ofString "count", .ref ca), (Str.ofString "b", .int (wsOf (sg.take i)).b tb), (Str.ofString "n", .int (wsOf (sg.take i)).n tn), (Str.ofString "nt", .int (wsOf (sg.take i)).nt tt), (Str.ofString "S", .str (Str.ofString " ") 222), (Str.ofString "T", .str (Str.ofString "\t") 223), (Str.ofString "self", .ref x)] ∧
      news = [(ca, listOf vs.toArray nn), (x, instObj 91 dx), (dx, rawD w ws t1 (tk₀ + 1))] ∧ IntsAre vs (wsOf (sg.take i)).cnt ∧ @LT.lt Nat _ x ca) rfl F4 (News.sub N4 (by k_allIn)) ⟨Nat.zero_le _, _, [], 0, _, _, _, ⟨rfl, rfl, rfl, rfl, rfl, rfl, rfl, trivial⟩, rfl, .nil, by omega⟩ ?_ ?_
    · rintro i c t m₁ news₁ h tk own hc hex hoff ⟨hi, ca, vs, nn, tb, tn, tt, hm, rfl, hv, hxca⟩ F5 N5
      clear F4 N4
      replace F5 : Fr g' L' h _ := Fr.hasX hm F5
      replace N5 : News g' L' h _ := N5
      have hbd := wsOf_bound (sg.take i)
      rw [List.length_take, Nat.min_eq_left hi] at hbd
      have hlen : sg.length + rs.length = ws.length := by
        have := congrArg List.length hsg
        simpa [PySem.Str.length] using this.symm
      rcases Nat.lt_or_ge i sg.length with hlt1 | hge
      · have hc' : sg[i]? = some c := by
          have : ws.cps.toList[i]? = some c := by simpa using hc
          rw [hsg, List.getElem?_append_left hlt1] at this
          exact this
        have hst : wsOf (sg.take (i + 1)) = wsStep (wsOf (sg.take i)) c := by rw [take_snocL hc', wsOf_snoc]
        have hcc := hss c (List.mem_of_getElem? hc')
        rw [hst]
        clear hst hc' hc hsg hrs hss
        generalize wsOf (sg.take i) = st at *
        obtain ⟨cnt, b, n, nt⟩ := st
        dsimp only at *
        obtain ⟨hb1, rfl, hb3⟩ := hbd
        rcases hcc with rfl | rfl
        · rw [show wsStep ⟨cnt, b, n, nt⟩ 32 = ⟨cnt, b + 1, n + 1, nt⟩ from rfl]
          k_steps
          rename News _ _ _ _ => N6
          exact endG _ (by assumption) N6 ⟨hlt1, ca, vs, nn, _, _, _, ⟨rfl, rfl, rfl, rfl, rfl, rfl, rfl, trivial⟩, rfl, hv, hxca⟩ hoff (fun p hp => List.mem_append_left _ hp) (fun p hp => List.mem_append_right _ hp)
        · k_steps
          split
          · rename_i hgr
            k_steps
            rename IntsAre (List.set _ _ _) _ => hI6
            rename News _ _ _ _ => N6
            rename ((_ < _) ∧ (_ < _) ∧ AllLt _ _) => hl6
            have hgr' : cnt.length ≤ b := by simpa using hgr
            have e : cnt ++ (List.replicate ((b : Int) - cnt.length + 1).toNat [(0 : Int)]).flatten = wsGrow cnt b := by
              have e1 : ((b : Int) - cnt.length + 1).toNat = b - cnt.length + 1 := by omega
              rw [e1, wsGrow, if_pos hgr']
              congr 1
              generalize b - cnt.length + 1 = k
              induction k with
              | zero => rfl
              | succ k ih => rw [List.replicate_succ, List.replicate_succ, List.flatten_cons, ih]; rfl
            rw [e] at hI6 N6
            refine endG _ (by assumption) N6 ⟨hlt1, _, _, _, _, _, _, ⟨rfl, rfl, rfl, rfl, rfl, rfl, rfl, trivial⟩, rfl, ?_, allLt_to hl6.2.2 (x, instObj 91 dx) (.tail _ (.head _))⟩
              (ownOff_cons (fun p hp => Nat.ne_of_lt (allLt_to hl6.2.2 p (List.mem_append_right _ hp))) (fun p hp c hc => hoff p hp c (List.mem_cons_of_mem _ hc))) (by k_allIn)
              (fun p hp => .tail _ (.tail _ (.tail _ (List.mem_append_right _ hp))))
            exact hI6
          · rename_i hgr
            k_steps
            rename IntsAre (List.set _ _ _) _ => hI6
            rename News _ _ _ _ => N6
            have hgr' : ¬ cnt.length ≤ b := by simpa using hgr
            have e : wsGrow cnt b = cnt := if_neg hgr'
            have e2 : (wsGrow cnt b).set b ((wsGrow cnt b).getD b 0 + 1) = cnt.set b (cnt.getD b 0 + 1) := by rw [e]
            exact (fun vs6 (hI : IntsAre vs6 (cnt.set b (cnt.getD b 0 + 1))) (N6 : News g' L' _ ((ca, listOf vs6.toArray nn) :: (x, instObj 91 dx) :: (dx, rawD w ws t1 (tk₀ + 1)) :: own)) =>
              endG [(ca, listOf vs6.toArray nn), (x, instObj 91 dx), (dx, rawD w ws t1 (tk₀ + 1))] (by assumption) N6 ⟨hlt1, ca, vs6, nn, _, _, _, ⟨rfl, rfl, rfl, rfl, rfl, rfl, rfl, trivial⟩, rfl, by show IntsAre vs6 ((wsGrow cnt b).set b ((wsGrow cnt b).getD b 0 + 1)); rw [e2]; exact hI, hxca⟩
              hoff (by k_allIn) (fun p hp => .tail _ (.tail _ (.tail _ hp)))) _ hI6 N6
      · have hc9 : c ≠ 32 ∧ c ≠ 9 := by
          have : ws.cps.toList[i]? = some c := by simpa using hc
          rw [hsg, List.getElem?_append_right hge, Nat.le_antisymm hi hge, Nat.sub_self] at this
          cases rs with
          | nil => cases this
          | cons d r => exact (Option.some.inj this) ▸ hrs d r rfl
        k_steps
        rw [if_neg (fun h => hc9.1 ((sign_blank c).mp h))]
        k_steps
        rw [if_neg (fun h => hc9.2 ((sign_tab' c).mp h))]
        k_steps
        have e1 : sg.take i = sg := List.take_of_length_le hge
        rw [e1] at hm hv F5
        exact Hold.mk ⟨rfl, ca, vs, nn, tb, tn, tt, _, _, _, rfl, Fr.has ⟨rfl, rfl, rfl, rfl, rfl, trivial⟩ F5, News.sub N5 (fun p hp => List.mem_append_left _ hp), hv, hxca⟩
    · rintro m₁ news₁ h tk ⟨hi, ca, vs, nn, tb, tn, tt, hm, rfl, hv, hxca⟩ F5 N5
      have e1 : sg.take ws.cps.size = sg := by
        refine List.take_of_length_le ?_
        have := congrArg List.length hsg
        simp at this
        omega
      rw [e1] at hm hv
      exact Hold.mk ⟨rfl, ca, vs, nn, tb, tn, tt, _, _, _, rfl, Fr.has ⟨hm.1, hm.2.1, hm.2.2.1, hm.2.2.2.1, hm.2.2.2.2.2.2.1, trivial⟩ F5, N5, hv, hxca⟩
  · rintro f s' ⟨rfl, ca, vs, nn, tb, tn, tt, h, tk, u, rfl, F4, N4, hv, hxca⟩
    clear F3 N3
    have hbd := wsOf_bound sg
    have hlen : sg.length + rs.length = ws.length := by
      have := congrArg List.length hsg
      simpa [PySem.Str.length] using this.symm
    generalize wsOf sg = st at *
    obtain ⟨cnt, b, n, nt⟩ := st
    dsimp only at *
    k_steps
    rename News _ _ _ _ => N5
    have hne1 := News.ne N5 (.tail _ (.head _)) (.tail _ (.tail _ (.tail _ (.tail _ (.head _))))) (by simp)
    dsimp only
    k_steps
    rename News _ _ _ _ => N6
    rename Fr _ _ _ _ => F6
    have hlen2 : vs.length = cnt.length := hv.length
    have hsm : decide ((cnt.length : Int) ≤ 1) = decide (cnt.length ≤ 1) := by
      congr 1; exact propext (by omega)
    obtain ⟨led, hled, N7⟩ := ws_fin N6 hsm hv
    exact leaveH F6 ⟨rfl, hQ x led _ _ hled (hF1 F6) (News.app (hUp N7) (hN1 F6))⟩
end
end
section
section
variable {prog p : Program} {loose : List Str} {w : World} {mean : ExcName → Option Value} {mg mb : Str → Option Value}
  {dp un : Nat} {gd : Option (List Code)} {cn : Str} {cs : Scope} {a : Addr} {ccd : Value} {cl : List (Str × Addr)} {outer : List Env} {A₀ : Around} {base h₀ : Heap} {L : Addr} {m : Str → Option Value} {s : Shared} {Q E : Value → Shared → Prop}
theorem len_tupI {A : Around} {E : Value → Shared → Prop} {s : Shared} {g : Heap} {L t : Addr} {news : List (Addr × Obj)} {vs : List Value} {ns : List Int} {Q : Value → Shared → Prop} (N : News g L s.heap news) (hm : (t, tupObj vs) ∈ news) (hv : IntsAre vs ns) (hl : ns.length ≤ 1000)
    (h : Q (.int ns.length (s.toks + 1)) { s with toks := s.toks + 1 + 1 }) : wpAny (model prog w) A (call (.builtin "len") [.ref t]) Q E s := by
  have e := hv.length
  refine len_tuple (News.isTup N hm) (by simp; omega) ?_
  simpa [e] using h
def lvSum (step : Nat) (cnt : List Int) : Nat → Int
  | 0 => 0
  | k + 1 => lvSum step cnt k + (((step + k) / step : Nat) : Int) * cnt.getD (step + k) 0
def WsOk (st : WsS) : Prop := (∀ v ∈ st.cnt, 0 ≤ v ∧ v ≤ 1000) ∧ st.cnt.length ≤ 1000 ∧ st.b ≤ 1000 ∧ st.n ≤ 1000 ∧ st.nt ≤ 1000
def levelOf (st : WsS) (step : Nat) : Int := st.b + step * (lvSum step st.cnt (st.cnt.length - step) + st.nt)
set_option maxHeartbeats 4000000 in
theorem level_call {x : Addr} {st : WsS} {led : List (Addr × Obj)} (B : Below A₀ base outer h₀) (F : Fr h₀ L s.heap m) (X : (hd.heap_39 w.params).In h₀) (T : Top p loose mean mg mb h₀) (hk : cs.kind = .function)
   (hled : WsLed w x st led) (N : News h₀ L s.heap led) (hok : WsOk st) (hdp : dp + 5 < recursionLimit) (step : Nat) (hs : 1 ≤ step) (hs' : step ≤ 2000) (t2 : Tok)
   (hQ : ∀ t h' tk, InElt s.heap h' → Q (.int (levelOf st step) t) {s with heap := h', toks := tk}) :
   wpAny (model prog w) (ktrTop dp un gd cn cs L a ccd cl outer) (call (.ref 60) [.ref x, .int step t2]) Q E s := by
  obtain ⟨dx, tp, tc, vs, ws, k1, k2, k3, k4, k5, tr, tn, tt, tb, rfl, hv⟩ := hled
  obtain ⟨cnt, b, n, nt⟩ := st
  obtain ⟨hc, hl, hb, hn, hnt⟩ := hok
  dsimp only at *
  refine wpAny_call ?_
  (refine' code_defG (binds := [(Str.ofString "self", .ref x), (Str.ofString "tabsize", .int step t2)]) B F X N T ?kA ?kF ?kK ?k6 ?k7 ?k8 ?k9 ?kB ?_ ?c2 ?c3 ?c4 ?c5; (case kA => exact rfl); (case kF => exact rfl); (case kK => assumption); (case k6 => k_is); (case k7 => k_is); (case k8 => ktr_room); (case k9 => exact BindsTo.of_eq rfl); (case c5 => decide); (case kB => exact locs rfl); (case c2 => exact rfl); (case c3 => exact rfl); (case c4 => exact rfl); k_whole)
  intro g' L' h' FG' F' N' B' X' T' G'
  generalize s.toks + _ = tk₀
  have hE : ∀ {L'' : Addr} {m'' : Str → Option Value} {h'' : Heap}, Fr g' L'' h'' m'' → News g' L'' h'' (led4 w x dx tp tc vs ws k1 k2 k3 k4 k5 tr tn tt tb ⟨cnt, b, n, nt⟩) → InElt s.heap h'' := fun F2 N2 => elt_after (InElt.start _) G' N F2 N2 (fun _ h => h)
  clear B F X T N hk FG' G'
  k_unmd
  k_fold
  k_steps
  rename Fr _ _ _ _ => F1
  refine For_invVF F1 rfl rfl ?_
  k_steps
  rename News _ _ _ _ => N1
  refine len_tupI N1 (by k_mem) hv hl ?_
  k_steps
  rename Fr _ _ _ _ => F2
  rename News _ _ _ _ => N2
  rename IsRange _ _ _ _ _ _ _ _ => R2
  refine rangeLoop (n := cnt.length - step) (news := (led4 w x dx tp tc vs ws k1 k2 k3 k4 k5 tr tn tt tb ⟨cnt, b, n, nt⟩)) (fun i m news => news = (led4 w x dx tp tc vs ws k1 k2 k3 k4 k5 tr tn tt tb ⟨cnt, b, n, nt⟩) ∧ 
     ∃ t, Has m [(Str.ofString "il", .int (lvSum step cnt i) t), (Str.ofString "trailing", .int (b : Int) tb), (Str.ofString "count", .ref tc), (Str.ofString "self", .ref x), (Str.ofString "tabsize", .int step t2)])
     rfl R2 (small_one (by omega) (by omega) (by omega) (by omega)) (by rw [rangeSize_nat]; congr 1; omega) F2 (News.sub N2 (by k_allIn)) ⟨rfl, _, rfl, rfl, rfl, rfl, rfl, trivial⟩ ?_ ?_
  · rintro i k t m₁ news₁ h tk own hi rfl hex hoff ⟨rfl, ti, hm⟩ F3 N3
    clear F2 N2
    replace F3 : Fr g' L' h _ := Fr.hasX hm F3
    replace N3 : News g' L' h _ := N3
    have hlt : step + i < cnt.length := by omega
    have hv1 := hc (cnt.getD (step + i) 0) (by
      have : cnt[step + i]? = some (cnt.getD (step + i) 0) := by simp [List.getD, hlt]
      exact List.mem_of_getElem? this)
    have e1 : ((step : Int) + (i : Int) * 1).toNat = step + i := by omega
    have e2 : ((step : Int) + (i : Int) * 1).fdiv (step : Int) = (((step + i) / step : Nat) : Int) := by
      rw [Int.mul_one]
      exact_mod_cast Int.fdiv_eq_ediv_of_nonneg _ (by omega)
    k_steps
    rw [e1, e2]
    k_steps
    rename News _ _ _ _ => N4
    exact endG _ (by assumption) N4 ⟨rfl, _, rfl, rfl, rfl, rfl, rfl, trivial⟩ hoff (fun p hp => List.mem_append_left _ hp) (fun p hp => List.mem_append_right _ hp)
  · rintro m₁ news₁ h tk ⟨rfl, ti, hm⟩ F3 N3
    clear F2 N2
    replace F3 : Fr g' L' h _ := Fr.has hm F3
    k_steps
    dsimp only
    k_unfold
    dsimp only
    exact leaveH F3 (hQ _ _ _ (hE F3 N3))
end
end
section
section
variable {prog p : Program} {loose : List Str} {w : World} {mean : ExcName → Option Value} {mg mb : Str → Option Value}
  {dp un : Nat} {gd : Option (List Code)} {cn : Str} {cs : Scope} {a : Addr} {ccd : Value} {cl : List (Str × Addr)} {outer : List Env} {A₀ : Around} {base h₀ : Heap} {L : Addr} {m : Str → Option Value} {s : Shared} {Q E : Value → Shared → Prop}
def longOf (st : WsS) : Nat := max (st.cnt.length - 1) st.b
set_option maxHeartbeats 4000000 in
theorem long_call {x : Addr} {st : WsS} {led : List (Addr × Obj)} (B : Below A₀ base outer h₀) (F : Fr h₀ L s.heap m) (X : (hd.heap_39 w.params).In h₀) (T : Top p loose mean mg mb h₀) (hk : cs.kind = .function)
   (hled : WsLed w x st led) (N : News h₀ L s.heap led) (hok : WsOk st) (hdp : dp + 5 < recursionLimit)
   (hQ : ∀ t h' tk, InElt s.heap h' → Q (.int (longOf st) t) {s with heap := h', toks := tk}) :
   wpAny (model prog w) (ktrTop dp un gd cn cs L a ccd cl outer) (call (.ref 53) [.ref x]) Q E s := by
  obtain ⟨dx, tp, tc, vs, ws, k1, k2, k3, k4, k5, tr, tn, tt, tb, rfl, hv⟩ := hled
  obtain ⟨cnt, b, n, nt⟩ := st
  obtain ⟨hc, hl, hb, hn, hnt⟩ := hok
  dsimp only at *
  refine wpAny_call ?_
  (refine' code_defG (binds := [(Str.ofString "self", .ref x)]) B F X N T ?kA ?kF ?kK ?k6 ?k7 ?k8 ?k9 ?kB ?_ ?c2 ?c3 ?c4 ?c5; (case kA => exact rfl); (case kF => exact rfl); (case kK => assumption); (case k6 => k_is); (case k7 => k_is); (case k8 => ktr_room); (case k9 => exact BindsTo.of_eq rfl); (case c5 => decide); (case kB => exact locs rfl); (case c2 => exact rfl); (case c3 => exact rfl); (case c4 => exact rfl); k_whole)
  intro g' L' h' FG' F' N' B' X' T' G'
  generalize s.toks + _ = tk₀
  have hE : ∀ {L'' : Addr} {m'' : Str → Option Value} {h'' : Heap}, Fr g' L'' h'' m'' → News g' L'' h'' (led4 w x dx tp tc vs ws k1 k2 k3 k4 k5 tr tn tt tb ⟨cnt, b, n, nt⟩) → InElt s.heap h'' := fun F2 N2 => elt_after (InElt.start _) G' N F2 N2 (fun _ h => h)
  clear B F X T N hk FG' G'
  k_unmd
  k_fold
  k_steps
  rename News _ _ _ _ => N1
  refine len_tupI N1 (by k_mem) hv hl ?_
  k_steps
  rename Fr _ _ _ _ => F6
  have e : (if (b : Int) > (cnt.length : Int) - 1 then (b : Int) else (cnt.length : Int) - 1) = ((longOf ⟨cnt, b, n, nt⟩ : Nat) : Int) := by
    unfold longOf
    dsimp only
    split <;> omega
  rw [e]
  exact leaveH F6 (hQ _ _ _ (hE F6 (by assumption)))
/-- the ledger bears a list of rows of three ints -/
inductive TupsIn (tl : List (Addr × Obj)) : List Value → List (Int × Int × Int) → Prop
  | nil : TupsIn tl [] []
  | cons {t : Addr} {x y z : Int} {tx ty tz : Tok} {vs : List Value} {rs : List (Int × Int × Int)} : (t, tupObj [.int x tx, .int y ty, .int z tz]) ∈ tl → TupsIn tl vs rs → TupsIn tl (.ref t :: vs) ((x, y, z) :: rs)
theorem TupsIn.mono {tl tl' : List (Addr × Obj)} {vs : List Value} {rs : List (Int × Int × Int)} (h : TupsIn tl vs rs) (hs : ∀ p ∈ tl, p ∈ tl') : TupsIn tl' vs rs := by
  induction h with
  | nil => exact .nil
  | cons hm _ ih => exact .cons (hs _ hm) ih
theorem TupsIn.snoc {tl : List (Addr × Obj)} {vs : List Value} {rs : List (Int × Int × Int)} {t : Addr} {x y z : Int} {tx ty tz : Tok} (h : TupsIn tl vs rs) (hm : (t, tupObj [.int x tx, .int y ty, .int z tz]) ∈ tl) : TupsIn tl (vs ++ [.ref t]) (rs ++ [(x, y, z)]) := by
  induction h with
  | nil => exact .cons hm .nil
  | cons hm' _ ih => exact .cons hm' ih
theorem TupsIn.length {tl : List (Addr × Obj)} {vs : List Value} {rs : List (Int × Int × Int)} (h : TupsIn tl vs rs) : vs.length = rs.length := by
  induction h with
  | nil => rfl
  | cons _ _ ih => simp [ih]
def rowD (r : Int × Int × Int) : PyData := .tuple [.int r.1, .int r.2.1, .int r.2.2]
theorem TupsIn.reads {g h : Heap} {L : Addr} {tl : List (Addr × Obj)} (N : News g L h tl) {vs : List Value} {rs : List (Int × Int × Int)} (H : TupsIn tl vs rs) : ∃ as, ReadsAll h vs (rs.map rowD) as := by
  induction H with
  | nil => exact ⟨_, .nil⟩
  | cons hm _ ih =>
    obtain ⟨as, ih⟩ := ih
    exact ⟨_, .cons (.tuple (N.get hm) rfl rfl (.cons (.int _ _) (.cons (.int _ _) (.cons (.int _ _) .nil)))) ih⟩
/-- an own list of rows, read off the heap -/
def RowsAt (h : Heap) (v : Value) (rs : List (Int × Int × Int)) : Prop := ∃ as, Reads h v (.list (rs.map rowD)) as
theorem RowsAt.keeps {h h' : Heap} {v : Value} {rs : List (Int × Int × Int)} (H : RowsAt h v rs) (k : InElt h h') : RowsAt h' v rs := let ⟨as, r⟩ := H; ⟨as, PyProof.Rows.Reads.keeps k r⟩
/-- a list of rows that grows in a loop -/
def NlwJ (LD : List (Addr × Obj)) (ps : Addr → List (Str × Value)) (rows : List (Int × Int × Int)) (m : Str → Option Value) (news : List (Addr × Obj)) : Prop :=
  ∃ ra vl nn tl, Has m (ps ra) ∧ news = (ra, listOf vl.toArray nn) :: (LD ++ tl) ∧ TupsIn tl vl rows ∧ ∀ p ∈ LD ++ tl, p.1 ≠ ra
theorem NlwJ.push {g h' : Heap} {L ra D : Addr} {LD tl own : List (Addr × Obj)} {ps : Addr → List (Str × Value)} {rows : List (Int × Int × Int)} {m' : Str → Option Value} {vl : List Value} {nn : Nat} {x y z : Int} {tx ty tz : Tok} {s₁ : Shared} {tk : Nat} {o : Obj}
    (F : Fr g L h' m') (N : News g L h' ((D, tupObj [.int x tx, .int y ty, .int z tz]) :: (ra, listOf (vl.toArray.push (.ref D)) (nn + 1)) :: ((LD ++ tl) ++ own))) (hm : Has m' (ps ra)) (hT : TupsIn tl vl rows) (hall : ∀ p ∈ LD ++ tl, p.1 ≠ ra)
    (hD : ∀ p ∈ (ra, o) :: (LD ++ tl) ++ own, p.1 < D) (hoff : OwnOff own (((ra, o) :: (LD ++ tl)).map (·.1))) :
    InvEndG g L (NlwJ LD ps (rows ++ [(x, y, z)])) own s₁ { s₁ with heap := h', toks := tk } := by
  rw [List.push_toArray] at N
  refine endG ((ra, listOf (vl ++ [Value.ref D]).toArray (nn + 1)) :: (LD ++ ((D, tupObj [.int x tx, .int y ty, .int z tz]) :: tl))) F N
    ⟨ra, vl ++ [.ref D], nn + 1, (D, tupObj [.int x tx, .int y ty, .int z tz]) :: tl, hm, rfl, TupsIn.snoc (hT.mono (fun p hp => .tail _ hp)) (.head _), ?_⟩ ?_ ?_ ?_
  · intro p hp
    rcases List.mem_append.mp hp with h | h
    · exact hall p (List.mem_append_left _ h)
    · rcases List.mem_cons.mp h with rfl | h
      · exact Nat.ne_of_gt (hD (ra, o) (.head _))
      · exact hall p (List.mem_append_right _ h)
  · intro p hp b hb
    rcases List.mem_cons.mp hb with rfl | hb
    · exact hoff p hp _ (.head _)
    · rw [List.map_append, List.mem_append, List.map_cons, List.mem_cons] at hb
      rcases hb with hb | rfl | hb
      · exact hoff p hp b (.tail _ (by rw [List.map_append]; exact List.mem_append_left _ hb))
      · exact Nat.ne_of_lt (hD p (List.mem_append_right _ hp))
      · exact hoff p hp b (.tail _ (by rw [List.map_append]; exact List.mem_append_right _ hb))
  · intro p hp
    rcases List.mem_cons.mp hp with rfl | hp
    · exact .tail _ (.head _)
    · rcases List.mem_append.mp hp with h | h
      · exact .tail _ (.tail _ (List.mem_append_left _ (List.mem_append_left _ h)))
      · rcases List.mem_cons.mp h with rfl | h
        · exact .head _
        · exact .tail _ (.tail _ (List.mem_append_left _ (List.mem_append_right _ h)))
  · exact fun p hp => .tail _ (.tail _ (List.mem_append_right _ hp))
theorem NlwJ.stay {g h' : Heap} {L ra : Addr} {LD tl own : List (Addr × Obj)} {ps : Addr → List (Str × Value)} {rows : List (Int × Int × Int)} {m' : Str → Option Value} {vl : List Value} {nn : Nat} {s₁ : Shared} {tk : Nat}
    (F : Fr g L h' m') (N : News g L h' ((ra, listOf vl.toArray nn) :: (LD ++ tl) ++ own)) (hm : Has m' (ps ra)) (hT : TupsIn tl vl rows) (hall : ∀ p ∈ LD ++ tl, p.1 ≠ ra)
    (hoff : OwnOff own (((ra, listOf vl.toArray nn) :: (LD ++ tl)).map (·.1))) :
    InvEndG g L (NlwJ LD ps rows) own s₁ { s₁ with heap := h', toks := tk } :=
  endG _ F N ⟨ra, vl, nn, tl, hm, rfl, hT, hall⟩ hoff (fun p hp => List.mem_append_left _ hp) (fun p hp => List.mem_append_right _ hp)
theorem updRow {D ra : Addr} {oD o o' : Obj} {rest own : List (Addr × Obj)} (hD : ra < D) (hall : ∀ p ∈ rest, p.1 ≠ ra) (hoff : ∀ p ∈ own, p.1 ≠ ra) :
    Upd ra o o' ((D, oD) :: (ra, o) :: (rest ++ own)) ((D, oD) :: (ra, o') :: (rest ++ own)) :=
  .tail (Nat.ne_of_gt hD) (.head fun p hp => (List.mem_append.mp hp).elim (hall p) (hoff p))
def nlwRow (st su : WsS) (k : Nat) : List (Int × Int × Int) := if levelOf su (k + 1) ≤ levelOf st (k + 1) then [(((k + 1 : Nat) : Int), levelOf st (k + 1), levelOf su (k + 1))] else []
def nlwRows (st su : WsS) : Nat → List (Int × Int × Int)
  | 0 => []
  | k + 1 => nlwRows st su k ++ nlwRow st su k
theorem nlwRows_length (st su : WsS) (k : Nat) : (nlwRows st su k).length ≤ k := by
  induction k with
  | zero => exact Nat.le_refl _
  | succ k ih =>
    rw [nlwRows, List.length_append, nlwRow]
    split <;> simp <;> omega
def stopOf (st su : WsS) : Nat := max (longOf st) (longOf su) + 1
set_option maxHeartbeats 4000000 in
theorem nlw_call {x y : Addr} {st su : WsS} {led1 led2 : List (Addr × Obj)} (B : Below A₀ base outer h₀) (F : Fr h₀ L s.heap m) (X : (hd.heap_39 w.params).In h₀) (T : Top p loose mean mg mb h₀) (hk : cs.kind = .function)
   (hled1 : WsLed w x st led1) (hled2 : WsLed w y su led2) (N : News h₀ L s.heap (led1 ++ led2)) (hok1 : WsOk st) (hok2 : WsOk su) (hdp : dp + 7 < recursionLimit)
   (hQ : ∀ v h' tk, InElt s.heap h' → RowsAt h' v (nlwRows st su (stopOf st su)) → Q v {s with heap := h', toks := tk}) :
   wpAny (model prog w) (ktrTop dp un gd cn cs L a ccd cl outer) (call (.ref 88) [.ref x, .ref y]) Q E s := by
  have hl1 := hled1
  have hl2 := hled2
  obtain ⟨dx, tp, tc, vs, ws, k1, k2, k3, k4, k5, tr, tn, tt, tb, rfl, hv⟩ := hled1
  obtain ⟨dx', tp', tc', vs', ws', k1', k2', k3', k4', k5', tr', tn', tt', tb', rfl, hv'⟩ := hled2
  refine wpAny_call ?_
  (refine' code_defG (binds := [(Str.ofString "self", .ref x), (Str.ofString "other", .ref y)]) B F X N T ?kA ?kF ?kK ?k6 ?k7 ?k8 ?k9 ?kB ?_ ?c2 ?c3 ?c4 ?c5; (case kA => exact rfl); (case kF => exact rfl); (case kK => assumption); (case k6 => k_is); (case k7 => k_is); (case k8 => ktr_room); (case k9 => exact BindsTo.of_eq rfl); (case c5 => decide); (case kB => exact locs rfl); (case c2 => exact rfl); (case c3 => exact rfl); (case c4 => exact rfl); k_whole)
  intro g' L' h' FG' F' N' B' X' T' G'
  generalize s.toks + _ = tk₀
  generalize hLD : led4 w x dx tp tc vs ws k1 k2 k3 k4 k5 tr tn tt tb st ++ led4 w y dx' tp' tc' vs' ws' k1' k2' k3' k4' k5' tr' tn' tt' tb' su = LD at *
  have hE : ∀ {L'' : Addr} {m'' : Str → Option Value} {h'' : Heap}, Fr g' L'' h'' m'' → News g' L'' h'' LD → InElt s.heap h'' := fun F2 N2 => elt_after (InElt.start _) G' N F2 N2 (fun _ h => h)
  clear B F X T N hk FG' G'
  have hb1 : longOf st ≤ 1000 := by obtain ⟨_, h1, h2, _⟩ := hok1; unfold longOf; omega
  have hb2 : longOf su ≤ 1000 := by obtain ⟨_, h1, h2, _⟩ := hok2; unfold longOf; omega
  k_unmd
  k_fold
  subst hLD
  k_steps
  k_dflt (refine' long_call ?k1 ?k2 ?k3 ?k4 ?k5 ?k6 ?k7 ?k8 ?k9 ?_; (case k1 => assumption); (case k2 => assumption); (case k3 => assumption); (case k4 => assumption); (case k5 => rfl); (case k6 => assumption); (case k7 => exact News.sub (by assumption) (by k_allIn)); (case k8 => assumption); (case k9 => ktr_room))
  rename Fr _ _ _ _ => kF0
  rename News _ _ _ _ => kN0
  intro t9 h9 tk9 hE9
  have F9 := Fr.keeps kF0 hE9
  have N9 := News.grown kN0 hE9
  clear kF0 kN0
  k_steps
  k_dflt (refine' long_call ?k1 ?k2 ?k3 ?k4 ?k5 ?k6 ?k7 ?k8 ?k9 ?_; (case k1 => assumption); (case k2 => assumption); (case k3 => assumption); (case k4 => assumption); (case k5 => rfl); (case k6 => assumption); (case k7 => exact News.sub (by assumption) (by k_allIn)); (case k8 => assumption); (case k9 => ktr_room))
  rename Fr _ _ _ _ => kF0
  rename News _ _ _ _ => kN0
  intro t9 h9 tk9 hE9
  have F9 := Fr.keeps kF0 hE9
  have N9 := News.grown kN0 hE9
  clear kF0 kN0
  k_steps
  rename Fr _ _ _ _ => F1
  rename News _ _ _ _ => N1
  rename (∀ p : Addr × Obj, p ∈ _ → p.1 < _) => hl1'
  refine For_invVF F1 rfl rfl ?_
  have e : (if ((longOf su : Nat) : Int) > ((longOf st : Nat) : Int) then ((longOf su : Nat) : Int) else ((longOf st : Nat) : Int)) + 1 = ((stopOf st su : Nat) : Int) := by
    unfold stopOf
    split <;> omega
  rw [e] at F1
  k_steps
  rename Fr _ _ _ _ => F2
  rename News _ _ _ _ => N2
  rename IsRange _ _ _ _ _ _ _ _ => R2
  have hstop : stopOf st su ≤ 1001 := by unfold stopOf; omega
  refine rangeLoop (n := stopOf st su) (fun i => NlwJ (led4 w x dx tp tc vs ws k1 k2 k3 k4 k5 tr tn tt tb st ++ led4 w y dx' tp' tc' vs' ws' k1' k2' k3' k4' k5' tr' tn' tt' tb' su) (fun ra => [(Str.ofString "a", .ref ra), (Str.ofString "self", .ref x), (Str.ofString "other", .ref y)]) (nlwRows st su i))
     rfl R2 (small_one (by omega) (by omega) (by omega) (by omega)) (by rw [rangeSize_nat]; congr 1; omega) F2 N2
     ⟨_, [], 0, [], ⟨rfl, rfl, rfl, trivial⟩, by rw [List.append_nil], .nil, fun p hp => Nat.ne_of_lt (hl1' p (by rwa [List.append_nil] at hp))⟩ ?_ ?_
  · rintro i k t m₁ news₁ h tk own hi rfl hex hoff ⟨ra, vl, nn, tl, hm, rfl, hT, hall⟩ F3 N3
    clear F2 N2
    have hT' := hT.length
    have hT2 := nlwRows_length st su i
    replace F3 : Fr g' L' h _ := Fr.hasX hm F3
    replace N3 : News g' L' h _ := N3
    have ek : (1 : Int) + (i : Int) * 1 = ((i + 1 : Nat) : Int) := by omega
    rw [ek] at F3
    k_steps
    k_dflt (refine' level_call ?k1 ?k2 ?k3 ?k4 ?k5 ?k6 ?k7 ?k8 ?k9 _ ?k10 ?k11 _ ?_; (case k1 => assumption); (case k2 => assumption); (case k3 => assumption); (case k4 => assumption); (case k5 => rfl); (case k6 => assumption); (case k7 => exact News.sub (by assumption) (by k_allIn)); (case k8 => assumption); (case k9 => ktr_room); (case k10 => omega); (case k11 => omega))
    rename Fr _ _ _ _ => kF0
    rename News _ _ _ _ => kN0
    intro t9 h9 tk9 hE9
    have F9 := Fr.keeps kF0 hE9
    have N9 := News.grown kN0 hE9
    clear kF0 kN0
    k_steps
    k_dflt (refine' level_call ?k1 ?k2 ?k3 ?k4 ?k5 ?k6 ?k7 ?k8 ?k9 _ ?k10 ?k11 _ ?_; (case k1 => assumption); (case k2 => assumption); (case k3 => assumption); (case k4 => assumption); (case k5 => rfl); (case k6 => assumption); (case k7 => exact News.sub (by assumption) (by k_allIn)); (case k8 => assumption); (case k9 => ktr_room); (case k10 => omega); (case k11 => omega))
    rename Fr _ _ _ _ => kF0
    rename News _ _ _ _ => kN0
    intro t9 h9 tk9 hE9
    have F9 := Fr.keeps kF0 hE9
    have N9 := News.grown kN0 hE9
    clear kF0 kN0
    k_steps
    split
    · rename_i hge
      k_steps
      k_dflt (refine' level_call ?k1 ?k2 ?k3 ?k4 ?k5 ?k6 ?k7 ?k8 ?k9 _ ?k10 ?k11 _ ?_; (case k1 => assumption); (case k2 => assumption); (case k3 => assumption); (case k4 => assumption); (case k5 => rfl); (case k6 => assumption); (case k7 => exact News.sub (by assumption) (by k_allIn)); (case k8 => assumption); (case k9 => ktr_room); (case k10 => omega); (case k11 => omega))
      rename Fr _ _ _ _ => kF0
      rename News _ _ _ _ => kN0
      intro t9 h9 tk9 hE9
      have F9 := Fr.keeps kF0 hE9
      have N9 := News.grown kN0 hE9
      clear kF0 kN0
      k_steps
      k_dflt (refine' level_call ?k1 ?k2 ?k3 ?k4 ?k5 ?k6 ?k7 ?k8 ?k9 _ ?k10 ?k11 _ ?_; (case k1 => assumption); (case k2 => assumption); (case k3 => assumption); (case k4 => assumption); (case k5 => rfl); (case k6 => assumption); (case k7 => exact News.sub (by assumption) (by k_allIn)); (case k8 => assumption); (case k9 => ktr_room); (case k10 => omega); (case k11 => omega))
      rename Fr _ _ _ _ => kF0
      rename News _ _ _ _ => kN0
      intro t9 h9 tk9 hE9
      have F9 := Fr.keeps kF0 hE9
      have N9 := News.grown kN0 hE9
      clear kF0 kN0
      k_steps
      rename News _ _ _ _ => N5
      rename Fr _ _ _ _ => F5
      rename (∀ p : Addr × Obj, p ∈ _ → p.1 < _) => hl5
      refine append_K F5 N5 (updRow (hl5 _ (.head _)) hall (fun p hp => hoff p hp _ (.head _))) (fun h6 F6 N6 => ?_) (by rw [sizeLine_eq]; simp; omega)
      clear F5 N5
      k_steps
      rw [nlwRows, nlwRow, if_pos (of_decide_eq_true hge)]
      exact NlwJ.push F6 N6 ⟨rfl, rfl, rfl, trivial⟩ hT hall hl5 hoff
    · rename_i hge
      k_steps
      rename News _ _ _ _ => N5
      rename Fr _ _ _ _ => F5
      rw [nlwRows, nlwRow, if_neg (fun h => hge (decide_eq_true h)), List.append_nil]
      exact NlwJ.stay F5 N5 ⟨rfl, rfl, rfl, trivial⟩ hT hall hoff
  · rintro m₁ news₁ h tk ⟨ra, vl, nn, tl, hm, rfl, hT, hall⟩ F3 N3
    clear F2 N2
    replace F3 : Fr g' L' h _ := Fr.has hm F3
    k_steps
    obtain ⟨as, hR⟩ := hT.reads (News.sub N3 (fun p hp => .tail _ (List.mem_append_right _ hp)))
    exact leaveH F3 (hQ _ _ _ (hE F3 (News.sub N3 (fun p hp => .tail _ (List.mem_append_left _ hp)))) ⟨_, .list (News.get N3 (.head _)) rfl rfl hR⟩)
end
end
section
section
variable {prog p : Program} {loose : List Str} {w : World} {mean : ExcName → Option Value} {mg mb : Str → Option Value}
  {dp un : Nat} {gd : Option (List Code)} {cn : Str} {cs : Scope} {a : Addr} {ccd : Value} {cl : List (Str × Addr)} {outer : List Env} {A₀ : Around} {base h₀ : Heap} {L : Addr} {m : Str → Option Value} {s : Shared} {Q E : Value → Shared → Prop}
def allLess (st su : WsS) : Nat → Bool
  | 0 => true
  | k + 1 => allLess st su k && decide (levelOf st (k + 2) < levelOf su (k + 2))
def lessOf (st su : WsS) : Bool :=
  if su.n ≤ st.n then false else if st.cnt.length ≤ 1 ∧ su.cnt.length ≤ 1 then decide (st.nt ≤ su.nt) else allLess st su (stopOf st su - 1)
theorem allLess_false {st su : WsS} {i : Nat} (h : ¬ levelOf st (i + 2) < levelOf su (i + 2)) : ∀ {k : Nat}, i < k → allLess st su k = false := by
  intro k hk
  induction k with
  | zero => omega
  | succ k ih =>
    rw [allLess]
    rcases Nat.lt_or_eq_of_le (Nat.le_of_lt_succ hk) with h1 | rfl
    · rw [ih h1]; rfl
    · rw [decide_eq_false h, Bool.and_false]
set_option maxHeartbeats 4000000 in
theorem less_call {x y : Addr} {st su : WsS} {led1 led2 : List (Addr × Obj)} (B : Below A₀ base outer h₀) (F : Fr h₀ L s.heap m) (X : (hd.heap_39 w.params).In h₀) (T : Top p loose mean mg mb h₀) (hk : cs.kind = .function)
   (hled1 : WsLed w x st led1) (hled2 : WsLed w y su led2) (N : News h₀ L s.heap (led1 ++ led2)) (hok1 : WsOk st) (hok2 : WsOk su) (hdp : dp + 7 < recursionLimit)
   (hQ : ∀ h' tk, InElt s.heap h' → Q (.bool (lessOf st su)) {s with heap := h', toks := tk}) :
   wpAny (model prog w) (ktrTop dp un gd cn cs L a ccd cl outer) (call (.ref 81) [.ref x, .ref y]) Q E s := by
  have hl1 := hled1
  have hl2 := hled2
  obtain ⟨dx, tp, tc, vs, ws, k1, k2, k3, k4, k5, tr, tn, tt, tb, rfl, hv⟩ := hled1
  obtain ⟨dx', tp', tc', vs', ws', k1', k2', k3', k4', k5', tr', tn', tt', tb', rfl, hv'⟩ := hled2
  refine wpAny_call ?_
  (refine' code_defG (binds := [(Str.ofString "self", .ref x), (Str.ofString "other", .ref y)]) B F X N T ?kA ?kF ?kK ?k6 ?k7 ?k8 ?k9 ?kB ?_ ?c2 ?c3 ?c4 ?c5; (case kA => exact rfl); (case kF => exact rfl); (case kK => assumption); (case k6 => k_is); (case k7 => k_is); (case k8 => ktr_room); (case k9 => exact BindsTo.of_eq rfl); (case c5 => decide); (case kB => exact locs rfl); (case c2 => exact rfl); (case c3 => exact rfl); (case c4 => exact rfl); k_whole)
  intro g' L' h' FG' F' N' B' X' T' G'
  generalize s.toks + _ = tk₀
  have hE : ∀ {L'' : Addr} {m'' : Str → Option Value} {h'' : Heap}, Fr g' L'' h'' m'' → News g' L'' h'' (led4 w x dx tp tc vs ws k1 k2 k3 k4 k5 tr tn tt tb st ++ led4 w y dx' tp' tc' vs' ws' k1' k2' k3' k4' k5' tr' tn' tt' tb' su) → InElt s.heap h'' := fun F2 N2 => elt_after (InElt.start _) G' N F2 N2 (fun _ h => h)
  clear B F X T N hk FG' G'
  have hb1 : longOf st ≤ 1000 := by obtain ⟨_, h1, h2, _⟩ := hok1; unfold longOf; omega
  have hb2 : longOf su ≤ 1000 := by obtain ⟨_, h1, h2, _⟩ := hok2; unfold longOf; omega
  k_unmd
  k_fold
  k_steps
  split
  · rename_i hn
    k_steps
    have e : lessOf st su = false := if_pos (by simpa using hn)
    rw [e] at hQ
    exact leaveH F' (hQ _ _ (hE F' N'))
  · rename_i hn
    have hn' : ¬ su.n ≤ st.n := by simpa using hn
    walk1
    walk1
    walk1
    refine wpAny_mono (Q := fun (bb : Bool) s' => Hold (∃ tk, s' = { s with heap := h', toks := tk } ∧ bb = decide (st.cnt.length ≤ 1 ∧ su.cnt.length ≤ 1))) ?_ ?_ (fun _ _ h => h)
    · k_steps
      split
      · rename_i h1
        have h1' := of_decide_eq_true h1
        k_steps
        split
        · rename_i h2
          k_steps
          exact Hold.mk ⟨_, rfl, (decide_eq_true ⟨h1', of_decide_eq_true h2⟩).symm⟩
        · rename_i h2
          k_steps
          exact Hold.mk ⟨_, rfl, (decide_eq_false (fun h => h2 (decide_eq_true h.2))).symm⟩
      · rename_i h1
        k_steps
        exact Hold.mk ⟨_, rfl, (decide_eq_false (fun h => h1 (decide_eq_true h.1))).symm⟩
    · rintro bb s' ⟨tk, rfl, rfl⟩
      split
      · rename_i h1
        have h1' := of_decide_eq_true h1
        k_steps
        have e : lessOf st su = decide (st.nt ≤ su.nt) := by rw [lessOf, if_neg hn', if_pos h1']
        have e2 : decide ((st.nt : Int) ≤ (su.nt : Int)) = decide (st.nt ≤ su.nt) := by congr 1; exact propext (by omega)
        rw [e, ← e2] at hQ
        exact leaveH F' (hQ _ _ (hE F' N'))
      · rename_i h1
        have h1' : ¬ (st.cnt.length ≤ 1 ∧ su.cnt.length ≤ 1) := fun h => h1 (decide_eq_true h)
        have e0 : lessOf st su = allLess st su (stopOf st su - 1) := by rw [lessOf, if_neg hn', if_neg h1']
        rw [e0] at hQ
        k_steps
        k_dflt (refine' long_call ?k1 ?k2 ?k3 ?k4 ?k5 ?k6 ?k7 ?k8 ?k9 ?_; (case k1 => assumption); (case k2 => assumption); (case k3 => assumption); (case k4 => assumption); (case k5 => rfl); (case k6 => assumption); (case k7 => exact News.sub (by assumption) (by k_allIn)); (case k8 => assumption); (case k9 => ktr_room))
        rename Fr _ _ _ _ => kF0
        rename News _ _ _ _ => kN0
        intro t9 h9 tk9 hE9
        have F9 := Fr.keeps kF0 hE9
        have N9 := News.grown kN0 hE9
        clear kF0 kN0
        k_steps
        k_dflt (refine' long_call ?k1 ?k2 ?k3 ?k4 ?k5 ?k6 ?k7 ?k8 ?k9 ?_; (case k1 => assumption); (case k2 => assumption); (case k3 => assumption); (case k4 => assumption); (case k5 => rfl); (case k6 => assumption); (case k7 => exact News.sub (by assumption) (by k_allIn)); (case k8 => assumption); (case k9 => ktr_room))
        rename Fr _ _ _ _ => kF0
        rename News _ _ _ _ => kN0
        intro t9 h9 tk9 hE9
        have F9 := Fr.keeps kF0 hE9
        have N9 := News.grown kN0 hE9
        clear kF0 kN0
        k_steps
        rename Fr _ _ _ _ => F1
        rename News _ _ _ _ => N1
        refine For_invVF F1 rfl rfl ?_
        have e : (if ((longOf su : Nat) : Int) > ((longOf st : Nat) : Int) then ((longOf su : Nat) : Int) else ((longOf st : Nat) : Int)) + 1 = ((stopOf st su : Nat) : Int) := by
          unfold stopOf
          split <;> omega
        rw [e] at F1
        k_steps
        rename Fr _ _ _ _ => F2
        rename News _ _ _ _ => N2
        rename IsRange _ _ _ _ _ _ _ _ => R2
        have hstop : stopOf st su ≤ 1001 := by unfold stopOf; omega
        have hstop1 : 1 ≤ stopOf st su := by unfold stopOf; omega
        refine rangeLoop (n := stopOf st su - 1) (fun i m news => news = led4 w x dx tp tc vs ws k1 k2 k3 k4 k5 tr tn tt tb st ++ led4 w y dx' tp' tc' vs' ws' k1' k2' k3' k4' k5' tr' tn' tt' tb' su ∧ Has m [(Str.ofString "self", .ref x), (Str.ofString "other", .ref y)] ∧ allLess st su i = true)
           rfl R2 (small_one (by omega) (by omega) (by omega) (by omega)) (by rw [rangeSize_nat]; congr 1; omega) F2 N2
           ⟨rfl, ⟨rfl, rfl, trivial⟩, rfl⟩ ?_ ?_
        · rintro i k t m₁ news₁ h tk own hi rfl hex hoff ⟨rfl, hm, hA⟩ F3 N3
          clear F2 N2
          replace F3 : Fr g' L' h _ := Fr.hasX hm F3
          replace N3 : News g' L' h _ := N3
          have ek : (2 : Int) + (i : Int) * 1 = ((i + 2 : Nat) : Int) := by omega
          rw [ek] at F3
          k_steps
          k_dflt (refine' level_call ?k1 ?k2 ?k3 ?k4 ?k5 ?k6 ?k7 ?k8 ?k9 _ ?k10 ?k11 _ ?_; (case k1 => assumption); (case k2 => assumption); (case k3 => assumption); (case k4 => assumption); (case k5 => rfl); (case k6 => assumption); (case k7 => exact News.sub (by assumption) (by k_allIn)); (case k8 => assumption); (case k9 => ktr_room); (case k10 => omega); (case k11 => omega))
          rename Fr _ _ _ _ => kF0
          rename News _ _ _ _ => kN0
          intro t9 h9 tk9 hE9
          have F9 := Fr.keeps kF0 hE9
          have N9 := News.grown kN0 hE9
          clear kF0 kN0
          k_steps
          k_dflt (refine' level_call ?k1 ?k2 ?k3 ?k4 ?k5 ?k6 ?k7 ?k8 ?k9 _ ?k10 ?k11 _ ?_; (case k1 => assumption); (case k2 => assumption); (case k3 => assumption); (case k4 => assumption); (case k5 => rfl); (case k6 => assumption); (case k7 => exact News.sub (by assumption) (by k_allIn)); (case k8 => assumption); (case k9 => ktr_room); (case k10 => omega); (case k11 => omega))
          rename Fr _ _ _ _ => kF0
          rename News _ _ _ _ => kN0
          intro t9 h9 tk9 hE9
          have F9 := Fr.keeps kF0 hE9
          have N9 := News.grown kN0 hE9
          clear kF0 kN0
          k_steps
          split
          · rename_i hge
            k_steps
            rename News _ _ _ _ => N5
            rename Fr _ _ _ _ => F5
            rw [allLess_false (i := i) (by have := of_decide_eq_true hge; omega) hi] at hQ
            exact leaveH F5 (hQ _ _ (hE F5 (News.sub N5 (fun p hp => List.mem_append_left _ hp))))
          · rename_i hge
            k_steps
            rename News _ _ _ _ => N5
            rename Fr _ _ _ _ => F5
            exact endG _ F5 N5 ⟨rfl, ⟨rfl, rfl, trivial⟩, by rw [allLess, hA, Bool.true_and]; exact decide_eq_true (by have h7 : ¬ levelOf su (i + 2) ≤ levelOf st (i + 2) := fun h => hge (decide_eq_true h); omega)⟩ hoff (fun p hp => List.mem_append_left _ hp) (fun p hp => List.mem_append_right _ hp)
        · rintro m₁ news₁ h tk ⟨rfl, hm, hA⟩ F3 N3
          clear F2 N2
          replace F3 : Fr g' L' h _ := Fr.has hm F3
          rw [hA] at hQ
          k_steps
          exact leaveH F3 (hQ _ _ (hE F3 N3))
end
end
section
section
variable {prog p : Program} {loose : List Str} {w : World} {mean : ExcName → Option Value} {mg mb : Str → Option Value}
  {dp un : Nat} {gd : Option (List Code)} {cn : Str} {cs : Scope} {a : Addr} {ccd : Value} {cl : List (Str × Addr)} {outer : List Env} {A₀ : Around} {base h₀ : Heap} {L : Addr} {m : Str → Option Value} {s : Shared} {Q E : Value → Shared → Prop}
def nextM (place size : Nat) : Nat := size * ((place - 1) / size + 1)
def placeIt (number last : Nat) : Nat → Nat
  | 0 => number * last
  | i + 1 => nextM (placeIt number last i) (last - 1 - i)
def placeOf (number last : Nat) : Nat := placeIt number last (last - 1)
theorem nextM_le (p s : Nat) (hs : 1 ≤ s) (hp : 1 ≤ p) : 1 ≤ nextM p s ∧ nextM p s ≤ p + s := by
  unfold nextM
  have h1 := Nat.div_add_mod (p - 1) s
  have h2 := Nat.mod_lt (p - 1) hs
  rw [Nat.mul_add, Nat.mul_one]
  omega
theorem placeIt_le {number last : Nat} (h1 : 1 ≤ number) (h2 : number ≤ 10) (h3 : 2 ≤ last) (h4 : last ≤ 5) : ∀ i, i ≤ last - 1 → 1 ≤ placeIt number last i ∧ placeIt number last i ≤ 50 + 5 * i := by
  intro i
  induction i with
  | zero =>
    intro _
    have a1 : number * last ≤ 10 * 5 := Nat.mul_le_mul h2 h4
    have a2 : 1 * 2 ≤ number * last := Nat.mul_le_mul h1 h3
    rw [placeIt]
    omega
  | succ i ih =>
    intro hi
    have ih := ih (by omega)
    have := nextM_le (placeIt number last i) (last - 1 - i) (by omega) ih.1
    rw [placeIt]
    omega
theorem wsFold_blanks (k : Nat) : ∀ st : WsS, (List.replicate k 32).foldl wsStep st = ⟨st.cnt, st.b + k, st.n + k, st.nt⟩ := by
  induction k with
  | zero => intro st; rfl
  | succ k ih =>
    intro st
    rw [List.replicate_succ, List.foldl_cons, ih]
    simp [wsStep]
    omega
theorem wsOf_blankTab (k : Nat) : wsOf (List.replicate k 32 ++ [9]) = ⟨List.replicate k 0 ++ [1], 0, k + 1, 1⟩ := by
  rw [wsOf_snoc]
  have e : wsOf (List.replicate k 32) = ⟨[], k, k, 0⟩ := by
    rw [wsOf, wsFold_blanks]; simp
  rw [e]
  have e2 : wsGrow [] k = List.replicate k 0 ++ [0] := by
    rw [wsGrow, if_pos (by simp)]
    simp [List.replicate_succ']
  simp only [wsStep, e2]
  simp
theorem lvSum_zero {size : Nat} {cnt : List Int} : ∀ {j : Nat}, (∀ i, i < size + j → cnt.getD i 0 = 0) → lvSum size cnt j = 0
  | 0, _ => rfl
  | j + 1, h => by
    rw [lvSum, lvSum_zero (j := j) (fun i hi => h i (by omega)), h (size + j) (by omega)]
    omega
theorem levelOf_blankTab (k size : Nat) (hs : 1 ≤ size) : levelOf (wsOf (List.replicate k 32 ++ [9])) size = ((size * (k / size + 1) : Nat) : Int) := by
  rw [wsOf_blankTab, levelOf]
  dsimp only
  have hl : (List.replicate k (0 : Int) ++ [1]).length = k + 1 := by simp
  have hz : ∀ i, i < k → (List.replicate k (0 : Int) ++ [1]).getD i 0 = 0 := fun i hi => by
    simp [List.getD, List.getElem?_append, hi]
  have h1 : (List.replicate k (0 : Int) ++ [1]).getD k 0 = 1 := by simp [List.getD, List.getElem?_append]
  rw [hl]
  have key : lvSum size (List.replicate k (0 : Int) ++ [1]) (k + 1 - size) = ((k / size : Nat) : Int) := by
    rcases Nat.lt_or_ge k size with h | h
    · have e : k + 1 - size = 0 := by omega
      rw [e, Nat.div_eq_of_lt h]; rfl
    · have e : k + 1 - size = (k - size) + 1 := by omega
      have e2 : size + (k - size) = k := by omega
      rw [e, lvSum, e2, h1, lvSum_zero (fun i hi => hz i (by omega))]
      omega
  rw [key]
  push_cast
  omega
theorem wsStep_cnt {st : WsS} {k : Nat} (c : Nat) (h : ∀ v ∈ st.cnt, 0 ≤ v ∧ v ≤ (k : Int)) : ∀ v ∈ (wsStep st c).cnt, 0 ≤ v ∧ v ≤ ((k + 1 : Nat) : Int) := by
  have hg : ∀ v ∈ wsGrow st.cnt st.b, 0 ≤ v ∧ v ≤ (k : Int) := by
    intro v hv
    unfold wsGrow at hv
    split at hv
    · rcases List.mem_append.mp hv with h1 | h1
      · exact h v h1
      · rw [List.eq_of_mem_replicate h1]; omega
    · exact h v hv
  unfold wsStep
  split
  · intro v hv
    have := h v hv
    omega
  · intro v hv
    dsimp only at hv
    rcases List.mem_or_eq_of_mem_set hv with h1 | h1
    · have := hg v h1
      omega
    · have h0 : 0 ≤ (wsGrow st.cnt st.b).getD st.b 0 ∧ (wsGrow st.cnt st.b).getD st.b 0 ≤ (k : Int) := by
        rw [List.getD_eq_getElem?_getD]
        cases e : (wsGrow st.cnt st.b)[st.b]? with
        | none => simp
        | some u => exact hg u (List.mem_of_getElem? e)
      rw [h1]
      omega
theorem wsFold_cnt (l : List Nat) : ∀ (st : WsS) (k : Nat), (∀ v ∈ st.cnt, 0 ≤ v ∧ v ≤ (k : Int)) → ∀ v ∈ (l.foldl wsStep st).cnt, 0 ≤ v ∧ v ≤ ((k + l.length : Nat) : Int) := by
  induction l with
  | nil => intro st k h; exact h
  | cons c r ih =>
    intro st k h v hv
    have := ih (wsStep st c) (k + 1) (wsStep_cnt c h) v hv
    rw [List.length_cons]
    omega
theorem wsOk_of {l : List Nat} (h : l.length ≤ 1000) : WsOk (wsOf l) := by
  have hb := wsOf_bound l
  have hc := wsFold_cnt l ⟨[], 0, 0, 0⟩ 0 (fun _ h => nomatch h)
  refine ⟨fun v hv => ?_, by omega, by omega, by omega, by omega⟩
  have := hc v hv
  omega
theorem down_small {last : Nat} (h3 : 2 ≤ last) (h4 : last ≤ 5) : Builtin.Range.small ((last : Int) - 1) 0 (-1) = true ∧ Builtin.Range.rangeSize ((last : Int) - 1) 0 (-1) = ((last - 1 : Nat) : Int) := by
  have : last = 2 ∨ last = 3 ∨ last = 4 ∨ last = 5 := by omega
  rcases this with rfl | rfl | rfl | rfl <;> exact ⟨by decide, by decide⟩
set_option maxHeartbeats 4000000 in
theorem place_call (B : Below A₀ base outer h₀) (F : Fr h₀ L s.heap m) (X : (hd.heap_39 w.params).In h₀) (T : Top p loose mean mg mb h₀) (hk : cs.kind = .function)
   (hdp : dp + 9 < recursionLimit) (number last : Nat) (h1 : 1 ≤ number) (h2 : number ≤ 10) (h3 : 2 ≤ last) (h4 : last ≤ 5) (t1 t2 : Tok)
   (hQ : ∀ t h' tk, InElt s.heap h' → Q (.int (placeOf number last : Nat) t) {s with heap := h', toks := tk}) :
   wpAny (model prog w) (ktrTop dp un gd cn cs L a ccd cl outer) (call (.ref 107) [.int number t1, .int last t2]) Q E s := by
  refine wpAny_call ?_
  have N : News h₀ L s.heap [] := News.nil
  (refine' code_defG (binds := [(Str.ofString "number", .int number t1), (Str.ofString "last", .int last t2)]) B F X N T ?kA ?kF ?kK ?k6 ?k7 ?k8 ?k9 ?kB ?_ ?c2 ?c3 ?c4 ?c5; (case kA => exact rfl); (case kF => exact rfl); (case kK => assumption); (case k6 => k_is); (case k7 => k_is); (case k8 => ktr_room); (case k9 => exact BindsTo.of_eq rfl); (case c5 => decide); (case kB => exact locs rfl); (case c2 => exact rfl); (case c3 => exact rfl); (case c4 => exact rfl); k_whole)
  intro g' L' h' FG' F' N' B' X' T' G'
  generalize s.toks + _ = tk₀
  clear FG' B F X T N hk
  k_fold
  k_steps
  rename Fr _ _ _ _ => F1
  refine For_invVF F1 rfl rfl ?_
  k_steps
  rename Fr _ _ _ _ => F2
  rename News _ _ _ _ => N2
  rename IsRange _ _ _ _ _ _ _ _ => R2
  refine rangeLoop (n := last - 1) (fun i m news => news = [] ∧ ∃ t, Has m [(Str.ofString "place", .int (placeIt number last i : Nat) t)])
     rfl R2 (down_small h3 h4).1 (down_small h3 h4).2 F2 N2 ⟨rfl, tk₀, by show _ = _; rw [placeIt]; push_cast; rfl, trivial⟩ ?_ ?_
  · rintro i k t m₁ news₁ h tk own hi rfl hex hoff ⟨rfl, tp, hm⟩ F3 N3
    clear F2 N2
    replace F3 : Fr g' L' h _ := Fr.hasX hm F3
    replace N3 : News g' L' h _ := N3
    have hb := placeIt_le h1 h2 h3 h4 i (by omega)
    have hnx : placeIt number last (i + 1) = nextM (placeIt number last i) (last - 1 - i) := rfl
    rw [hnx]
    generalize placeIt number last i = pl at *
    have ek : (last : Int) - 1 + (i : Int) * (-1) = ((last - 1 - i : Nat) : Int) := by omega
    rw [ek] at F3
    have hsz : 1 ≤ last - 1 - i := by omega
    have hsz' : last - 1 - i ≤ 4 := by omega
    generalize last - 1 - i = size at *
    k_steps
    rename Fr _ _ _ _ => F4
    rename News _ _ _ _ => N4
    have ecp : (Txt.mul (Str.ofString " ") ((pl : Int) - 1) ++ Str.ofString "\t").cps.toList = (List.replicate (pl - 1) 32 ++ [9]) ++ [] := by
      have e1 : Str.ofString " " = ⟨#[32]⟩ := by decide +kernel
      have e2 : Str.ofString "\t" = ⟨#[9]⟩ := by decide +kernel
      have e3 : ((pl : Int) - 1).toNat = pl - 1 := by omega
      rw [PySem.Str.cps_append, Array.toList_append, e1, e2, mul_one_list, e3, List.append_nil]
    have elen : (Txt.mul (Str.ofString " ") ((pl : Int) - 1) ++ Str.ofString "\t").length ≤ 1000 := by
      have := congrArg List.length ecp
      simp [PySem.Str.length] at this ⊢
      omega
    refine ws_make B' F4 X' T' rfl N4 (by ktr_room) _ _ elen _ _ ecp ?_ (fun _ _ h => nomatch h) ?_
    · intro c hc
      rcases List.mem_append.mp hc with h | h
      · exact .inl (List.eq_of_mem_replicate h)
      · exact .inr (List.mem_singleton.mp h)
    · intro x led h5 tk5 hled F5 N5
      clear F4 N4
      have hl := hled
      obtain ⟨dx, tp2, tc, vs, ws, k1, k2, k3, k4, k5, tr, tn, tt, tb, rfl, hv⟩ := hled
      k_steps
      rename Fr _ _ _ _ => F6
      rename News _ _ _ _ => N6
      refine level_call B' F6 X' T' rfl hl (News.sub N6 (by k_allIn)) (wsOk_of (by simp; omega)) (by ktr_room) size hsz (by omega) _ (fun t9 h9 tk9 hE9 => ?_)
      rw [levelOf_blankTab _ _ hsz]
      have F7 := Fr.keeps F6 hE9
      have N7 := News.grown N6 hE9
      clear F6 N6
      k_steps
      rename News _ _ _ _ => N8
      exact endG [] (by assumption) N8 ⟨rfl, _, rfl, trivial⟩ ownOff_nil (fun _ h => nomatch h) (fun p hp => List.mem_append_right _ (List.mem_append_right _ hp))
  · rintro m₁ news₁ h tk ⟨rfl, tp, hm⟩ F3 N3
    clear F2 N2
    replace F3 : Fr g' L' h _ := Fr.has hm F3
    k_steps
    exact leaveH F3 (hQ _ _ _ (inElt_of G' F3))
end
end
section
section
variable {prog : Program} {w : World} {A : Around} {E : Value → Shared → Prop} {s : Shared} {env : Env}
/-- what a turn of a comprehension is to show: over the heap ahead of the loop alone -/
structure EltOk (prog : Program) (w : World) (A : Around) (env : Env) (scope : Scope) (cl : List (Str × Addr)) (x : Str) (ifs : List PySem.Expr) (elt : PySem.Expr) (P : Nat → Value → Prop) (p : Value → Bool) (F : Value → Value → Prop) (s : Shared) : Prop where
  tests : ∀ C i v s₃ m₃ E', s.heap.objs.size ≤ C → P i v → s₃.heap.Ns C m₃ → m₃ x = some v → InElt s.heap s₃.heap →
    wpAny (model prog w) A (forIn ifs true fun c r => if r = true then do let ok ← isTrue c (compEnvC scope cl C env) (eval c (compEnvC scope cl C env)); pure (ForInStep.yield ok) else pure (ForInStep.yield r)) (fun ok s₄ => ok = p v ∧ Keeps s₃ s₄) E' s₃
  elt : ∀ C i v s₃ m₃ E', s.heap.objs.size ≤ C → P i v → p v = true → s₃.heap.Ns C m₃ → m₃ x = some v → InElt s.heap s₃.heap →
    wpAny (model prog w) A (eval elt (compEnvC scope cl C env)) (fun y s₄ => F v y ∧ Keeps s₃ s₄) E' s₃
variable {scope : Scope} {cl : List (Str × Addr)} {x : Str} {ifs : List PySem.Expr} {elt : PySem.Expr} {P : Nat → Value → Prop} {p : Value → Bool} {F : Value → Value → Prop}
theorem EltOk.quiet (H : EltOk prog w A env scope cl x ifs elt P p F s) (o : Obj) : QuietOnC prog w A env scope cl x ifs elt [s.heap.objs.size] P p F { s with heap := s.heap.push o } where
  tests := fun C i v s₃ m₃ E' hC hP hn hm hk _ => H.tests C i v s₃ m₃ E' (Nat.le_trans (by show _ ≤ (s.heap.push o).objs.size; rw [Heap.size_push]; exact Nat.le_succ _) hC) hP hn hm
    (fun b ob e => hk b ob (fun h => Nat.lt_irrefl _ ((List.mem_singleton.mp h) ▸ Heap.lt_size e)) (Heap.get?_push_of_some _ e))
  elt := fun C i v s₃ m₃ E' hC hP hp hn hm hk _ => H.elt C i v s₃ m₃ E' (Nat.le_trans (by show _ ≤ (s.heap.push o).objs.size; rw [Heap.size_push]; exact Nat.le_succ _) hC) hP hp hn hm
    (fun b ob e => hk b ob (fun h => Nat.lt_irrefl _ ((List.mem_singleton.mp h) ▸ Heap.lt_size e)) (Heap.get?_push_of_some _ e))
theorem inElt_push {h h' : Heap} {o : Obj} (k : ∀ b ob, b ∉ [h.objs.size] → (h.push o).get? b = some ob → h'.get? b = some ob) : InElt h h' := fun b ob e =>
  k b ob (fun hb => Nat.lt_irrefl _ ((List.mem_singleton.mp hb) ▸ Heap.lt_size e)) (Heap.get?_push_of_some _ e)
theorem get_push_none {h : Heap} {o : Obj} {D : Addr} (e : (h.push o).get? D = none) : h.get? D = none := by
  cases q : h.get? D with
  | none => rfl
  | some ob => rw [Heap.get?_push_of_some _ q] at e; cases e
def CompAt (prog : Program) (w : World) (A : Around) (env : Env) (scope : Scope) (cl : List (Str × Addr)) (x : Str) (ifs : List PySem.Expr) (elt : PySem.Expr) (p : Value → Bool) (F : Value → Value → Prop) (Q : Value → Shared → Prop) (it : Value) (s₂ : Shared) : Prop :=
  ∃ I fp wr n P St, it = .ref I ∧ Walks prog w A I fp wr n P St ∧ n ≤ sizeLine ∧ St 0 s₂.heap ∧ (∀ b ∈ fp, b < s₂.heap.objs.size) ∧
      QuietOnC prog w A env scope cl x ifs elt wr P p F s₂ ∧
      (∀ D h' tk ys (vs : List Value), s₂.heap.get? D = none → h'.IsList D ys → h'.PlainList D ys → vs.length = n → (∀ j v, vs[j]? = some v → P j v) → Paired F (vs.filter p) ys.toList →
        (∀ b o, b ∉ wr → s₂.heap.get? b = some o → h'.get? b = some o) → Q (.ref D) { s₂ with heap := h', toks := tk })
theorem listComp_own {iter : PySem.Expr} {px pos : Pos} {Q : Value → Shared → Prop} (p : Value → Bool) (F : Value → Value → Prop)
    (hclos : closureFor scope env = pure cl) (hcell : ∀ y ∈ scope.names, y.2 ≠ .cell) (hkind : scope.kind = .function)
    (hnames : ∀ y ∈ scope.names, y.2 = .local → scope.names.lookup y.1 = some .local) (hx : scope.names.lookup x = some .local)
    (h : wpAny (model prog w) A (eval iter env) (fun xv s₁ => wpAny (model prog w) A (pyIter xv) (fun it s₂ => CompAt prog w A env scope cl x ifs elt p F Q it s₂) E s₁) E s)
    (hs : ∀ x, foldedSetIterable iter env x = pure x := by intro _; rfl) :
    wpAny (model prog w) A (eval (.ListComp elt [⟨.Name x px, iter, ifs, 0⟩] scope pos) env) Q E s := wpAny_ListComp_free p F hclos hcell hkind hnames hx h hs
variable {Q : Value → Shared → Prop}
theorem compStr {xt : Str} {tx : Tok} (hh : A.handled = none) (hsz : xt.cps.size ≤ sizeLine) (H : EltOk prog w A env scope cl x ifs elt (SignAt xt) p F s)
    (fin : ∀ D h' tk ys (vs : List Value), s.heap.get? D = none → h'.PlainList D ys → vs.length = xt.cps.size → (∀ j v, vs[j]? = some v → SignAt xt j v) → Paired F (vs.filter p) ys.toList → InElt s.heap h' → Q (.ref D) { s with heap := h', toks := tk }) :
    wpAny (model prog w) A (pyIter (.str xt tx)) (fun it s₂ => CompAt prog w A env scope cl x ifs elt p F Q it s₂) E s := by
  refine wpAny_pyIter_str fun o St hW hst => ?_
  refine ⟨_, _, _, _, _, _, rfl, hW A hh, hsz, hst, fun b hb => ?_, H.quiet o, ?_⟩
  · rw [List.mem_singleton.mp hb]; show _ < (s.heap.push o).objs.size; rw [Heap.size_push]; exact Nat.lt_succ_self _
  · exact fun D h' tk ys vs hD _ hpl hlen hP hF hk => fin D h' tk ys vs (get_push_none hD) hpl hlen hP hF (inElt_push hk)
theorem compList {l : Addr} {items : List Value} (hh : A.handled = none) (hl : s.heap.IsList l items.toArray) (hsz : items.length ≤ sizeLine) (H : EltOk prog w A env scope cl x ifs elt (fun i v => items[i]? = some v) p F s)
    (fin : ∀ D h' tk ys, s.heap.get? D = none → h'.PlainList D ys → Paired F (items.filter p) ys.toList → InElt s.heap h' → Q (.ref D) { s with heap := h', toks := tk }) :
    wpAny (model prog w) A (pyIter (.ref l)) (fun it s₂ => CompAt prog w A env scope cl x ifs elt p F Q it s₂) E s := by
  obtain ⟨ol, hol, hr⟩ := id hl
  have hlt : l < s.heap.objs.size := Heap.lt_size hol
  refine wpAny_pyIter_list hl ?_
  have W := Walks.list (prog := prog) (w := w) hh s.heap.objs.size l (Nat.ne_of_lt hlt) items.toArray
  have eP : (fun (i : Nat) (v : Value) => items.toArray[i]? = some v) = fun i v => items[i]? = some v := by
    funext i v; simp
  rw [eP] at W
  refine ⟨_, _, _, _, _, _, rfl, W, by simpa using hsz, ⟨⟨_, Heap.get?_push_size _ rfl, rfl, rfl⟩, hl.at fun o e => Heap.get?_push_of_some _ e⟩, fun b hb => ?_, H.quiet _, ?_⟩
  · show _ < (s.heap.push _).objs.size
    rw [Heap.size_push]
    rcases List.mem_cons.mp hb with rfl | hb
    · exact Nat.lt_succ_self _
    · rw [List.mem_singleton.mp hb]; exact Nat.lt_succ_of_lt hlt
  · intro D h' tk ys vs hD _ hpl hlen hP hF hk
    have e : vs = items := by
      refine List.ext_getElem? fun j => ?_
      rcases Nat.lt_or_ge j vs.length with h | h
      · have h1 := List.getElem?_eq_getElem h
        rw [h1]; exact (hP j _ h1).symm
      · rw [List.getElem?_eq_none h, List.getElem?_eq_none (by simp at hlen; omega)]
    subst e
    exact fin D h' tk ys (get_push_none hD) hpl hF (inElt_push hk)
def CompAtA (prog : Program) (w : World) (A : Around) (env : Env) (scope : Scope) (cl : List (Str × Addr)) (x y : Str) (ifs : List PySem.Expr) (elt : PySem.Expr) (p : Value → Bool) (F : Value → Value → Prop) (Q : Flow → Shared → Prop) (it : Value) (s₂ : Shared) : Prop :=
  ∃ I fp wr n P St m, it = .ref I ∧ Walks prog w A I fp wr n P St ∧ n ≤ sizeLine ∧ St 0 s₂.heap ∧ (∀ b ∈ fp, b < s₂.heap.objs.size) ∧
      env.locals ∉ wr ∧ s₂.heap.Ns env.locals m ∧ QuietOnC prog w A env scope cl x ifs elt wr P p F s₂ ∧
      (∀ D h' tk ys (vs : List Value), s₂.heap.get? D = none → h'.IsList D ys → h'.PlainList D ys → vs.length = n → (∀ j v, vs[j]? = some v → P j v) → Paired F (vs.filter p) ys.toList →
        h'.Ns env.locals (fun z => if z = y then some (.ref D) else m z) → (∀ b o, b ≠ env.locals → b ∉ wr → s₂.heap.get? b = some o → h'.get? b = some o) → Q .next { s₂ with heap := h', toks := tk })
theorem assignComp_own {iter : PySem.Expr} {y : Str} {px py pos spos : Pos} {Q : Flow → Shared → Prop} (p : Value → Bool) (F : Value → Value → Prop)
    (hsw : swapsWith (.ListComp elt [⟨.Name x px, iter, ifs, 0⟩] scope pos) (some (.Name y py)) spos.line env = pure true)
    (hclos : closureFor scope env = pure cl) (hcell : ∀ z ∈ scope.names, z.2 ≠ .cell) (hkind : scope.kind = .function)
    (hnames : ∀ z ∈ scope.names, z.2 = .local → scope.names.lookup z.1 = some .local) (hx : scope.names.lookup x = some .local)
    (hy : env.kindOf y = some .local) (hp : (env.scope.kind == .class || (env.scope.kind == .module && env.locals != env.globals)) = false)
    (h : wpAny (model prog w) A (eval iter env) (fun xv s₁ => wpAny (model prog w) A (pyIter xv) (fun it s₂ => CompAtA prog w A env scope cl x y ifs elt p F Q it s₂) E s₁) E s)
    (hs : ∀ x, foldedSetIterable iter env x = pure x := by intro _; rfl) :
    wpAny (model prog w) A (exec (.Assign [.Name y py] (.ListComp elt [⟨.Name x px, iter, ifs, 0⟩] scope pos) spos) env) Q E s :=
  wpAny_Assign_ListComp_free p F hsw hclos hcell hkind hnames hx hy hp h hs
theorem compRangeA {y : Str} {Q : Flow → Shared → Prop} {h₀ : Heap} {m : Str → Option Value} {news : List (Addr × Obj)} {r : Addr} {a b c : Int} {t₀ u₀ v₀ : Tok} {n : Nat} (hh : A.handled = none) (hr : IsRange s.heap r a b c t₀ u₀ v₀) (hsmall : Builtin.Range.small a b c = true) (hn : Builtin.Range.rangeSize a b c = (n : Int)) (hsz : n ≤ sizeLine)
    (H : EltOk prog w A env scope cl x ifs elt (fun i v => i < n ∧ ∃ t, v = .int (a + (i : Int) * c) t) p F s) (FR : Fr h₀ env.locals s.heap m) (N : News h₀ env.locals s.heap news)
    (fin : ∀ D h' tk ys (vs : List Value), s.heap.get? D = none → h'.PlainList D ys → vs.length = n → (∀ (j : Nat) (v : Value), vs[j]? = some v → ∃ t, v = Value.int (a + (j : Int) * c) t) → Paired F (vs.filter p) ys.toList →
      Fr h₀ env.locals h' (fun z => if z = y then some (.ref D) else m z) → News h₀ env.locals h' news → Q .next { s with heap := h', toks := tk }) :
    wpAny (model prog w) A (pyIter (.ref r)) (fun it s₂ => CompAtA prog w A env scope cl x y ifs elt p F Q it s₂) E s := by
  have hLI : env.locals ≠ s.heap.objs.size := Nat.ne_of_lt FR.ns.lt
  refine wpAny_pyIter_range hr hsmall ?_
  refine ⟨_, _, _, n, _, _, m, rfl, (Walks.range hh _ a c n).bound, hsz, (by show IsRangeIter _ _ _ _ _; rw [hn]; simpa using Heap.get?_push_size _ rfl), fun b hb => ?_, fun h => hLI (List.mem_singleton.mp h), (FR.push _).ns, H.quiet _, ?_⟩
  · rw [List.mem_singleton.mp hb]; show _ < (s.heap.push _).objs.size; rw [Heap.size_push]; exact Nat.lt_succ_self _
  · intro D h' tk ys vs hD _ hpl hlen hP hF hns hk
    have hk' : ∀ b o, b ≠ env.locals → s.heap.get? b = some o → h'.get? b = some o := fun b o hb e => hk b o hb (fun h => Nat.lt_irrefl _ ((List.mem_singleton.mp h) ▸ Heap.lt_size e)) (Heap.get?_push_of_some _ e)
    exact fin D h' tk ys vs (get_push_none hD) hpl hlen (fun j v e => (hP j v e).2) hF
      ⟨hns, fun b o e => hk' b o (Nat.ne_of_lt (Nat.lt_of_lt_of_le (Heap.lt_size e) FR.above)) (FR.keep b o e), FR.above⟩
      (fun q hq => ⟨hk' _ _ (N q hq).2.1 (N q hq).1, (N q hq).2⟩)
end
end
section
section
variable {prog p : Program} {loose : List Str} {w : World} {mean : ExcName → Option Value} {mg mb : Str → Option Value}
  {dp un : Nat} {gd : Option (List Code)} {cn : Str} {cs : Scope} {a : Addr} {ccd : Value} {cl : List (Str × Addr)} {outer : List Env} {A₀ : Around} {base h₀ : Heap} {L : Addr} {m : Str → Option Value} {s : Shared} {Q E : Value → Shared → Prop}
theorem ints_item {vs : List Value} {ns : List Int} (h : IntsAre vs ns) {i : Nat} {v : Value} (e : vs[i]? = some v) : ∃ k t, v = Value.int k t := by
  induction h generalizing i with
  | nil => simp at e
  | cons k t _ ih =>
    cases i with
    | zero => simp at e; exact ⟨k, t, e.symm⟩
    | succ i => exact ih (by simpa using e)
theorem ints_paired {f : Int → Int} {vs : List Value} {ns : List Int} (h : IntsAre vs ns) : ∀ {ys : List Value}, Paired (fun v y => ∀ k t, v = .int k t → ∃ t', y = Value.int (f k) t') vs ys → IntsAre ys (ns.map f) := by
  induction h with
  | nil => intro ys hp; cases hp; exact .nil
  | cons k t _ ih =>
    intro ys hp
    cases hp with
    | cons hF hr =>
      obtain ⟨t', rfl⟩ := hF k t rfl
      exact .cons _ _ (ih hr)
set_option maxHeartbeats 4000000 in
theorem numbers_call {l : Addr} {vs : List Value} {ns : List Int} (B : Below A₀ base outer h₀) (F : Fr h₀ L s.heap m) (X : (hd.heap_39 w.params).In h₀) (T : Top p loose mean mg mb h₀) (hk : cs.kind = .function)
   (hdp : dp + 9 < recursionLimit) (hl : s.heap.IsList l vs.toArray) (hv : IntsAre vs ns) (hn : ns.length ≤ 63)
   (hQ : ∀ r vs' ns' nn h' tk, InElt s.heap h' → h'.get? r = some (listOf vs'.toArray nn) → s.heap.get? r = none → IntsAre vs' ns' → ns'.length = 7 → (∀ v ∈ ns', 0 ≤ v ∧ v < 1000000) → Q (.ref r) {s with heap := h', toks := tk}) :
   wpAny (model prog w) (ktrTop dp un gd cn cs L a ccd cl outer) (call (.ref 100) [.ref l]) Q E s := by
  refine wpAny_call ?_
  have N : News h₀ L s.heap [] := News.nil
  (refine' code_defG (binds := [(Str.ofString "script", .ref l)]) B F X N T ?kA ?kF ?kK ?k6 ?k7 ?k8 ?k9 ?kB ?_ ?c2 ?c3 ?c4 ?c5; (case kA => exact rfl); (case kF => exact rfl); (case kK => assumption); (case k6 => k_is); (case k7 => k_is); (case k8 => ktr_room); (case k9 => exact BindsTo.of_eq rfl); (case c5 => decide); (case kB => exact locs rfl); (case c2 => exact rfl); (case c3 => exact rfl); (case c4 => exact rfl); k_whole)
  intro g' L' h' FG' F' N' B' X' T' G'
  generalize s.toks + _ = tk₀
  have hlg : g'.IsList l vs.toArray := stays_list (fun b o e => G' b o e (fun h => nomatch h)) hl
  clear FG' B F X T N hk hl
  k_unmd
  k_fold
  k_steps
  refine listComp_own (cl := []) (fun _ => true) (fun v y => ∀ k t, v = .int k t → ∃ t', y = .int (Int.fmod k 1000000) t') (by with_unfolding_all rfl) (by decide) rfl (by decide) rfl ?_
  k_steps
  walk1
  k_steps
  rename Fr _ _ _ _ => F1
  rename News _ _ _ _ => N1
  rename IntsAre _ (List.take 7 ns) => hI1
  have hI1l := hI1.length
  refine compList rfl (News.isList N1 (.head _)) (Nat.le_trans (Nat.le_of_eq hI1l) (by rw [sizeLine_eq]; simp; omega)) ⟨?_, ?_⟩ ?_
  · intro C i v s₃ m₃ E' hC hP hn hm hk
    exact wpAny_tests_nil ⟨rfl, s₃.heap, s₃.toks, rfl, fun _ _ e => e⟩
  · intro C i v s₃ m₃ E' hC hP _ hn' hm hk
    obtain ⟨k, t, rfl⟩ := ints_item hI1 hP
    refine wpAny_mono (Q := fun y s₄ => Hold ((∀ k_1 t_1, Value.int k t = Value.int k_1 t_1 → ∃ t', y = Value.int (Int.fmod k_1 1000000) t') ∧ Keeps s₃ s₄)) ?_ (fun _ _ h => h) (fun _ _ h => h)
    k_steps
    exact Hold.mk ⟨fun k1 t1 e => by cases e; exact ⟨_, rfl⟩, _, _, rfl, fun _ _ e => e⟩
  · intro D h2 tk2 ys hD hpl hF hk
    rw [List.filter_eq_self.mpr (fun _ _ => rfl)] at hF
    have hI2 := ints_paired (f := fun k => Int.fmod k 1000000) hI1 hF
    obtain ⟨nn, hpl⟩ := hpl
    have F3 := Fr.keeps F1 hk
    have N3 : News g' L' h2 [(D, listOf ys.toList.toArray nn), (_, _)] := News.app (a := [(D, listOf ys.toList.toArray nn)]) (b := [_]) (fun q hq => by
      rw [List.mem_singleton.mp hq]
      refine ⟨by simpa using hpl, fun e => ?_, ?_⟩
      · have e' : D = L' := e
        subst e'
        obtain ⟨o, _, _, ho, _⟩ := F1.ns
        rw [hD] at ho; cases ho
      · cases q : g'.get? D with
        | none => rfl
        | some o => rw [F1.keep _ _ q] at hD; cases hD) (News.sub (News.grown N1 hk) (fun p hp => .tail _ hp))
    clear F1 N1
    k_steps
    k_dflt (refine' kmk_slice_ints ?kzF ?kzN ?kzl ?kzp ?kzq ?kzi ?kzm ?kzc ?_ ?kzs ?kzt ?kzz; (case kzF => k_asm); (case kzN => k_asm); (case kzl => kmk_list); (case kzp => kmk_part); (case kzq => kmk_part); (case kzi => l_ints); (case kzm => first | exact slice_ints_fromW (by l_ints) (by omega) | kmk_nums); (case kzc => rfl); (case kzs => with_unfolding_all rfl); (case kzt => kmk_pure); (case kzz => kmk_size))
    intro D' ws' h' F' N' l1 hI' hC' hL'
    try simp only [Int.reduceNeg, Int.neg_neg, Int.reduceToNat] at hI' hC' hL'
    try k_lt l1
    k_steps
    rename Fr _ _ _ _ => F5
    rename News _ _ _ _ => N5
    rename IntsAre _ (List.map _ _ ++ _) => hI5
    refine leaveH F5 (hQ _ _ _ _ _ _ (inElt_of G' F5) (News.get N5 (.head _)) ?_ hI5 ?_ ?_)
    · have h9 := (N5 _ (.head _)).2.2
      cases q : s.heap.get? _ with
      | none => rfl
      | some o => rw [G' _ _ q (fun h => nomatch h)] at h9; cases h9
    · simp
      omega
    · intro v hv
      rcases List.mem_append.mp hv with h | h
      · obtain ⟨k, _, rfl⟩ := List.mem_map.mp h
        exact ⟨Int.fmod_nonneg_of_pos _ (by decide), Int.fmod_lt_of_pos _ (by decide)⟩
      · have := List.mem_of_mem_drop h
        simp at this
        omega
end
end
section
section
variable {prog : Program} {w : World} {A : Around} {E : Value → Shared → Prop} {R : Result → Shared → Prop} {s : Shared}
variable {elt iter1 iter2 : PySem.Expr} {x k : Str} {px pk : Pos} {scope : Scope} {pos : Pos}
theorem compTurn_in (elt iter1 iter2 : PySem.Expr) (x k : Str) (px pk : Pos) (scope : Scope) (pos : Pos) (it acc : Value) (env : Env) :
    compTurn (.ListComp elt [⟨.Name x px, iter1, [], 0⟩, ⟨.Name k pk, iter2, [], 0⟩] scope pos) 1 it acc env = (standAt iter2.pos >>= fun _ => pyNext it >>= fun r => match r with
      | none => pure (.done .next)
      | some v => letOwnedTupleGo (.Name k pk) it v >>= fun _ => assign (.Name k pk) env v >>= fun _ =>
        (eval elt env >>= fun y => call (.builtin "list.append") [acc, y] >>= fun _ => pure ()) >>= fun _ =>
          again (.compLoop (.ListComp elt [⟨.Name x px, iter1, [], 0⟩, ⟨.Name k pk, iter2, [], 0⟩] scope pos) 1 it acc env)) := by rfl
theorem compTurn_out (elt iter1 iter2 : PySem.Expr) (x k : Str) (px pk : Pos) (scope : Scope) (pos : Pos) (it acc : Value) (env : Env) :
    compTurn (.ListComp elt [⟨.Name x px, iter1, [], 0⟩, ⟨.Name k pk, iter2, [], 0⟩] scope pos) 0 it acc env = (standAt iter1.pos >>= fun _ => pyNext it >>= fun r => match r with
      | none => pure (.done .next)
      | some v => letOwnedTupleGo (.Name x px) it v >>= fun _ => assign (.Name x px) env v >>= fun _ =>
        (eval iter2 env >>= fun xv => standAt iter2.pos >>= fun _ => foldedSetIterable iter2 env xv >>= fun xv' => holding [xv'] (pyIter xv') >>= fun it2 =>
          runOwn (.compStart (.ListComp elt [⟨.Name x px, iter1, [], 0⟩, ⟨.Name k pk, iter2, [], 0⟩] scope pos) 1 it2 acc env) env >>= fun _ =>
          again (.compLoop (.ListComp elt [⟨.Name x px, iter1, [], 0⟩, ⟨.Name k pk, iter2, [], 0⟩] scope pos) 0 it acc env))) := by rfl
theorem compStart_in {it acc : Value} {env : Env}
    (h0 : codeAny (model prog w) A (.compLoop (.ListComp elt [⟨.Name x px, iter1, [], 0⟩, ⟨.Name k pk, iter2, [], 0⟩] scope pos) 1 it acc env) R s)
    (h : wpAny (model prog w) A (pyIter it) (fun it' s' => codeAny (model prog w) A (.compLoop (.ListComp elt [⟨.Name x px, iter1, [], 0⟩, ⟨.Name k pk, iter2, [], 0⟩] scope pos) 1 it' acc env) R s')
      (notedBy (model prog w) A env fun x s' => R (.error x) s') s) :
    codeAny (model prog w) A (.compStart (.ListComp elt [⟨.Name x px, iter1, [], 0⟩, ⟨.Name k pk, iter2, [], 0⟩] scope pos) 1 it acc env) R s := by
  refine codeAny_of_tree ?_
  show wpAny _ _ ((compStart (.ListComp elt [⟨.Name x px, iter1, [], 0⟩, ⟨.Name k pk, iter2, [], 0⟩] scope pos) 1 it acc env).onRaise (fun x => do noteFrame x env; standAt theWindowsPlace)) _ _ s
  refine wpAny_notedAt ?_
  unfold compStart
  show wpAny _ _ (ask >>= _) _ _ s
  refine wpAny_bind (wpAny_askSetting (wpAny_ite ?_))
  split
  · first
      | exact wpAny_bind (wpAny_pure (wpAny_pure (And.intro rfl h0)))
      | exact wpAny_pure (And.intro rfl h0)
  · first
      | exact wpAny_bind (wpAny_rule (wpAny_bind (wpAny_standAt (wpAny_bind (wpAny_mono h (fun it' s' h' => wpAny_pure (And.intro rfl h')) fun _ _ x => x)))))
      | (refine wpAny_bind (wpAny_rule ?_); show wpAny _ _ (standAt iter2.pos >>= _) _ _ s; exact wpAny_bind (wpAny_standAt (wpAny_bind (wpAny_mono h (fun it' s' h' => wpAny_pure (And.intro rfl h')) fun _ _ x => x))))
theorem inner_loop {I D : Addr} {n : Nat} {P : Nat → Value → Prop} {St : Nat → Heap → Prop} {cenv : Env} {m : Str → Option Value} {ys : Array Value} {vx : Value} {G : Nat → Value → Prop}
    (W : Walks prog w A I [I] [I] n P St) (hk : cenv.kindOf k = some .local) (hp : (cenv.scope.kind == .class || (cenv.scope.kind == .module && cenv.locals != cenv.globals)) = false)
    (hDC : D ≠ cenv.locals) (hDI : D ≠ I) (hCI : cenv.locals ≠ I) (hst : St 0 s.heap) (hacc : s.heap.PlainList D ys) (hn : s.heap.Ns cenv.locals m) (hx : m x = some vx) (hxk : x ≠ k) (hsz : ys.size + n ≤ sizeLine)
    (helt : ∀ i v s₂ m₂ E', P i v → s₂.heap.Ns cenv.locals m₂ → m₂ k = some v → m₂ x = some vx → wpAny (model prog w) A (eval elt cenv) (fun y s₃ => G i y ∧ Keeps s₂ s₃) E' s₂)
    (hR : ∀ h' tk m' (zs : List Value), h'.Ns cenv.locals m' → m' x = some vx → h'.PlainList D (ys ++ zs.toArray) → zs.length = n → (∀ i y, zs[i]? = some y → G i y) → (∀ b o, b ≠ cenv.locals → b ≠ I → b ≠ D → s.heap.get? b = some o → h'.get? b = some o) → R (.ok .next) { s with heap := h', toks := tk }) :
    codeAny (model prog w) A (.compLoop (.ListComp elt [⟨.Name x px, iter1, [], 0⟩, ⟨.Name k pk, iter2, [], 0⟩] scope pos) 1 (.ref I) (.ref D) cenv) R s := by
  refine codeAny_loop rfl (fun j s' => ∃ h' tk m', ∃ zs : List Value, s' = { s with heap := h', toks := tk } ∧ St zs.length h' ∧ h'.PlainList D (ys ++ zs.toArray) ∧ h'.Ns cenv.locals m' ∧ m' x = some vx ∧ (∀ i y, zs[i]? = some y → G i y) ∧ zs.length ≤ n ∧ j = n + 1 - zs.length ∧
    (∀ b o, b ≠ cenv.locals → b ≠ I → b ≠ D → s.heap.get? b = some o → h'.get? b = some o)) (fun j s' hI => ?_) (n + 1) ⟨s.heap, s.toks, m, [], rfl, hst, by simpa using hacc, hn, hx, fun i y h => by simp at h, Nat.zero_le _, rfl, fun _ _ _ _ _ e => e⟩
  obtain ⟨h', tk, m', zs, rfl, hst', hacc', hn', hx', hG, hle, rfl, hkp⟩ := hI
  show wpAny _ A ((compTurn (.ListComp elt [⟨.Name x px, iter1, [], 0⟩, ⟨.Name k pk, iter2, [], 0⟩] scope pos) 1 (.ref I) (.ref D) cenv).onRaise (fun x => do noteFrame x cenv; theTreesLotGoes x)) _ _ _
  refine wpAny_noted ?_
  rw [compTurn_in]
  refine wpAny_bind (wpAny_standAt (wpAny_bind ?_))
  rcases Nat.lt_or_ge zs.length n with hlt | hge
  · refine W.item zs.length _ _ _ hlt hst' fun v h₁ tk₁ hPv hst₁ hk₁ => ?_
    refine wpAny_bind (wpAny_of_eq (show letOwnedTupleGo (.Name k pk) (.ref I) v = pure () from rfl) (wpAny_bind ?_))
    refine wpAny_assign_Name (wpAny_storeName_local hk (hn'.at' fun o e => hk₁ _ o (fun h => hCI (List.mem_singleton.mp h)) e) (fun h₂ hn₂ hs₂ => ?_) hp)
    refine wpAny_bind (wpAny_bind (wpAny_mono (helt zs.length v _ _ _ hPv hn₂ (by simp) (by simp [hxk, hx'])) (fun y s₃ h₃ => ?_) fun _ _ e => e))
    obtain ⟨hGy, h₃, tk₃, rfl, hk₃⟩ := h₃
    have hacc₃ : h₃.PlainList D (ys ++ zs.toArray) := hacc'.at fun o e => hk₃ _ o (hs₂.extBut _ o hDC (hk₁ _ o (fun h => hDI (List.mem_singleton.mp h)) e))
    refine wpAny_bind (wpAny_list_append_plain (hsz := by simp; omega) hacc₃ fun h₄ hl₄ hs₄ => ?_)
    refine wpAny_pure (wpAny_pure ⟨rfl, n + 1 - (zs.length + 1), by omega, h₄, tk₃, _, zs ++ [y], rfl, ?_, ?_, (hn₂.keeps hk₃).sameBut hs₄ (Ne.symm hDC), by simp [hxk, hx'], ?_, by simp; omega, by simp, ?_⟩)
    · rw [List.length_append, List.length_singleton]
      refine W.frame _ _ h₄ hst₁ fun b hb o e => ?_
      rw [List.mem_singleton.mp hb] at e ⊢
      exact hs₄.extBut _ o (Ne.symm hDI) (hk₃ _ o (hs₂.extBut _ o (Ne.symm hCI) e))
    · have e : (ys ++ zs.toArray).push y = ys ++ (zs ++ [y]).toArray := by apply Array.toList_inj.mp; simp
      rw [← e]; exact hl₄
    · intro i u hu
      rcases Nat.lt_trichotomy i zs.length with h | h | h
      · exact hG i u (by rwa [List.getElem?_append_left h] at hu)
      · subst h; simp at hu; subst hu; exact hGy
      · rw [List.getElem?_eq_none (by simp; omega)] at hu; cases hu
    · intro b o h1 h2 h3 e
      exact hs₄.extBut b o h3 (hk₃ b o (hs₂.extBut b o h1 (hk₁ b o (fun h => h2 (List.mem_singleton.mp h)) (hkp b o h1 h2 h3 e))))
  · have hin : zs.length = n := by omega
    refine W.done _ _ _ (hin ▸ hst') fun h₁ tk₁ hk₁ => ?_
    refine wpAny_pure ?_
    exact hR h₁ tk₁ m' zs (hn'.at' fun o e => hk₁ _ o (fun h => hCI (List.mem_singleton.mp h)) e) hx' (hacc'.at fun o e => hk₁ _ o (fun h => hDI (List.mem_singleton.mp h)) e) hin hG
      fun b o h1 h2 h3 e => hk₁ b o (fun h => h2 (List.mem_singleton.mp h)) (hkp b o h1 h2 h3 e)
def Chunks (G : Value → Nat → Value → Prop) (n : Nat) : List Value → List Value → Prop
  | [], zs => zs = []
  | vx :: r, zs => ∃ c rest, zs = c ++ rest ∧ c.length = n ∧ (∀ i y, c[i]? = some y → G vx i y) ∧ Chunks G n r rest
theorem Chunks.snoc {G : Value → Nat → Value → Prop} {n : Nat} {vx : Value} {c : List Value} (hl : c.length = n) (hG : ∀ i y, c[i]? = some y → G vx i y) : ∀ {vs zs : List Value}, Chunks G n vs zs → Chunks G n (vs ++ [vx]) (zs ++ c)
  | [], zs, h => ⟨c, [], by rw [show zs = [] from h]; simp, hl, hG, rfl⟩
  | v :: r, zs, ⟨c0, rest, e, h1, h2, h3⟩ => ⟨c0, rest ++ c, by rw [e, List.append_assoc], h1, h2, Chunks.snoc hl hG h3⟩
theorem Chunks.length {G : Value → Nat → Value → Prop} {n : Nat} : ∀ {vs zs : List Value}, Chunks G n vs zs → zs.length = vs.length * n
  | [], zs, h => by rw [show zs = [] from h]; simp
  | v :: r, zs, ⟨c0, rest, e, h1, h2, h3⟩ => by
    rw [e, List.length_append, h1, h3.length, List.length_cons, Nat.succ_mul]; omega
theorem outer_loop {I ax D : Addr} {items : List Value} {n : Nat} {cenv : Env} {m : Str → Option Value} {G : Value → Nat → Value → Prop} (hh : A.handled = none) (hax : ax ≠ I)
    (hxl : cenv.kindOf x = some .local) (hkl : cenv.kindOf k = some .local) (hp : (cenv.scope.kind == .class || (cenv.scope.kind == .module && cenv.locals != cenv.globals)) = false) (hxk : x ≠ k)
    (hDC : D ≠ cenv.locals) (hDI : D ≠ I) (hDa : D ≠ ax) (hCI : cenv.locals ≠ I) (hCa : cenv.locals ≠ ax)
    (hst : s.heap.IsListIter I ax 0) (hli : s.heap.IsList ax items.toArray) (hacc : s.heap.PlainList D #[]) (hn : s.heap.Ns cenv.locals m) (hsz : items.length * n ≤ sizeLine)
    (hsm : Builtin.Range.small 0 n 1 = true) (hrs : Builtin.Range.rangeSize 0 n 1 = (n : Int)) (hfs : ∀ v, foldedSetIterable iter2 cenv v = pure v)
    (hit2 : ∀ s₂ E', (∀ b o, b ≠ cenv.locals → b ≠ I → b ≠ D → s.heap.get? b = some o → s₂.heap.get? b = some o) → wpAny (model prog w) A (eval iter2 cenv) (fun xv s₃ => (∃ r t u v, xv = .ref r ∧ IsRange s₃.heap r 0 n 1 t u v) ∧ Keeps s₂ s₃) E' s₂)
    (helt : ∀ vx i t s₂ m₂ E', vx ∈ items → i < n → s₂.heap.Ns cenv.locals m₂ → m₂ k = some (.int ((i : Nat) : Int) t) → m₂ x = some vx → wpAny (model prog w) A (eval elt cenv) (fun y s₃ => G vx i y ∧ Keeps s₂ s₃) E' s₂)
    (hR : ∀ h' tk m' (zs : List Value), h'.Ns cenv.locals m' → h'.PlainList D zs.toArray → Chunks G n items zs → (∀ b o, b ≠ cenv.locals → b ≠ I → b ≠ D → s.heap.get? b = some o → h'.get? b = some o) → R (.ok .next) { s with heap := h', toks := tk }) :
    codeAny (model prog w) A (.compLoop (.ListComp elt [⟨.Name x px, iter1, [], 0⟩, ⟨.Name k pk, iter2, [], 0⟩] scope pos) 0 (.ref I) (.ref D) cenv) R s := by
  have W := Walks.list (prog := prog) (w := w) hh I ax hax items.toArray
  refine codeAny_loop rfl (fun j s' => ∃ h' tk m', ∃ q : Nat, ∃ zs : List Value, s' = { s with heap := h', toks := tk } ∧ (h'.IsListIter I ax q ∧ h'.IsList ax items.toArray) ∧ h'.PlainList D zs.toArray ∧ h'.Ns cenv.locals m' ∧ Chunks G n (items.take q) zs ∧ q ≤ items.length ∧ j = items.length + 1 - q ∧
    (∀ b o, b ≠ cenv.locals → b ≠ I → b ≠ D → s.heap.get? b = some o → h'.get? b = some o)) (fun j s' hI => ?_) (items.length + 1) ⟨s.heap, s.toks, m, 0, [], rfl, ⟨hst, hli⟩, hacc, hn, rfl, Nat.zero_le _, rfl, fun _ _ _ _ _ e => e⟩
  obtain ⟨h', tk, m', q, zs, rfl, hst', hacc', hn', hG, hle, rfl, hkp⟩ := hI
  show wpAny _ A ((compTurn (.ListComp elt [⟨.Name x px, iter1, [], 0⟩, ⟨.Name k pk, iter2, [], 0⟩] scope pos) 0 (.ref I) (.ref D) cenv).onRaise (fun x => do noteFrame x cenv; theTreesLotGoes x)) _ _ _
  refine wpAny_noted ?_
  rw [compTurn_out]
  refine wpAny_bind (wpAny_standAt (wpAny_bind ?_))
  rcases Nat.lt_or_ge q items.length with hlt | hge
  · refine W.item q _ _ _ (by simpa using hlt) hst' fun v h₁ tk₁ hPv hst₁ hk₁ => ?_
    have hv : items[q]? = some v := by simpa using hPv
    refine wpAny_bind (wpAny_of_eq (show letOwnedTupleGo (.Name x px) (.ref I) v = pure () from rfl) (wpAny_bind ?_))
    refine wpAny_assign_Name (wpAny_storeName_local hxl (hn'.at' fun o e => hk₁ _ o (fun h => hCI (List.mem_singleton.mp h)) e) (fun h₂ hn₂ hs₂ => ?_) hp)
    have kp₂ : ∀ b o, b ≠ cenv.locals → b ≠ I → b ≠ D → s.heap.get? b = some o → h₂.get? b = some o := fun b o h1 h2 h3 e => hs₂.extBut b o h1 (hk₁ b o (fun h => h2 (List.mem_singleton.mp h)) (hkp b o h1 h2 h3 e))
    have hacc₂ : h₂.PlainList D zs.toArray := hacc'.at fun o e => hs₂.extBut _ o hDC (hk₁ _ o (fun h => hDI (List.mem_singleton.mp h)) e)
    have hst₂ : h₂.IsListIter I ax (q + 1) ∧ h₂.IsList ax items.toArray := W.frame _ _ h₂ hst₁ fun b hb o e => hs₂.extBut b o (by
      rcases List.mem_cons.mp hb with rfl | hb
      · exact Ne.symm hCI
      · rw [List.mem_singleton.mp hb]; exact Ne.symm hCa) e
    refine wpAny_bind (wpAny_mono (hit2 _ _ kp₂) (fun xv s₃ h₃ => ?_) fun _ _ e => e)
    obtain ⟨⟨r, tr, ur, vr, rfl, hr⟩, h₃, tk₃, rfl, hk₃⟩ := h₃
    refine wpAny_bind (wpAny_standAt (wpAny_bind (wpAny_of_eq (hfs _) (wpAny_bind (wpAny_holding ?_)))))
    refine wpAny_pyIter_range hr hsm ?_
    refine wpAny_bind (wpAny_runOwn ?_)
    have hW2 : Walks prog w A h₃.objs.size [h₃.objs.size] [h₃.objs.size] n (fun i v => i < n ∧ ∃ t, v = .int (0 + (i : Int) * 1) t) _ := (Walks.range (prog := prog) (w := w) hh h₃.objs.size 0 1 n).bound
    have hn₃ := hn₂.keeps hk₃
    have hnC : cenv.locals ≠ h₃.objs.size := Nat.ne_of_lt hn₃.lt
    have hacc₃ : h₃.PlainList D zs.toArray := hacc₂.at fun o e => hk₃ _ o e
    have hnD : D ≠ h₃.objs.size := by obtain ⟨_, hh3⟩ := hacc₃; exact Nat.ne_of_lt (Heap.lt_size hh3)
    have hax3 : ax ≠ h₃.objs.size := by
      obtain ⟨oa, hoa, _⟩ := hst₂.2
      exact Nat.ne_of_lt (Heap.lt_size (hk₃ _ _ hoa))
    have hI3 : I ≠ h₃.objs.size := by
      obtain ⟨oa, hoa, _⟩ := hst₂.1
      exact Nat.ne_of_lt (Heap.lt_size (hk₃ _ _ hoa))
    have hsz2 : zs.length + n ≤ sizeLine := by
      have e := hG.length
      rw [List.length_take, Nat.min_eq_left hle] at e
      have : (q + 1) * n ≤ items.length * n := Nat.mul_le_mul_right n hlt
      rw [Nat.succ_mul] at this
      omega
    have loop : ∀ R' : Result → Shared → Prop, (∀ h₅ tk₅ m₅ (cs : List Value), h₅.Ns cenv.locals m₅ → h₅.PlainList D (zs ++ cs).toArray → cs.length = n → (∀ i y, cs[i]? = some y → G v i y) → (∀ b o, b ≠ cenv.locals → b ≠ D → h₃.get? b = some o → h₅.get? b = some o) → R' (.ok .next) { s with heap := h₅, toks := tk₅ }) →
        codeAny (model prog w) A (.compLoop (.ListComp elt [⟨.Name x px, iter1, [], 0⟩, ⟨.Name k pk, iter2, [], 0⟩] scope pos) 1 (.ref h₃.objs.size) (.ref D) cenv) R'
          { s with heap := h₃.push { cls := .type "range_iterator", data := .fields #[rawInt 0, rawInt (Builtin.Range.rangeSize 0 n 1), rawInt 1] }, toks := tk₃ } := by
      intro R' hR'
      refine inner_loop (ys := zs.toArray) (vx := v) (G := G v) hW2 hkl hp hDC hnD hnC (by show IsRangeIter _ _ _ _ _; rw [hrs]; simpa using Heap.get?_push_size _ rfl) (hacc₃.at fun o e => Heap.get?_push_of_some _ e) (hn₃.push _) (by simp) hxk (by simpa using hsz2) ?_ ?_
      · rintro i u s₂ m₂ E' ⟨hi, t, rfl⟩ h1 h2 h3
        have e0 : (0 : Int) + (i : Int) * 1 = (i : Int) := by omega
        rw [e0] at h2
        exact helt v i t s₂ m₂ E' (List.mem_of_getElem? hv) hi h1 h2 h3
      · intro h₅ tk₅ m₅ cs h1 _ h2 h3 h4 h5
        exact hR' h₅ tk₅ m₅ cs h1 (by simpa using h2) h3 h4 fun b o hb1 hb2 e => h5 b o hb1 (Nat.ne_of_lt (Heap.lt_size e)) hb2 (Heap.get?_push_of_some _ e)
    have hfin : ∀ h₅ tk₅ m₅ (cs : List Value), h₅.Ns cenv.locals m₅ → h₅.PlainList D (zs ++ cs).toArray → cs.length = n → (∀ i y, cs[i]? = some y → G v i y) → (∀ b o, b ≠ cenv.locals → b ≠ D → h₃.get? b = some o → h₅.get? b = some o) →
        ∃ m, m < items.length + 1 - q ∧ ∃ h' tk m', ∃ q : Nat, ∃ zs : List Value, ({ s with heap := h₅, toks := tk₅ } : Shared) = { s with heap := h', toks := tk } ∧ (h'.IsListIter I ax q ∧ h'.IsList ax items.toArray) ∧ h'.PlainList D zs.toArray ∧ h'.Ns cenv.locals m' ∧ Chunks G n (items.take q) zs ∧ q ≤ items.length ∧ m = items.length + 1 - q ∧
          (∀ b o, b ≠ cenv.locals → b ≠ I → b ≠ D → s.heap.get? b = some o → h'.get? b = some o) := by
      intro h₅ tk₅ m₅ cs h1 h2 h3 h4 h5
      refine ⟨items.length + 1 - (q + 1), by omega, h₅, tk₅, m₅, q + 1, zs ++ cs, rfl, ⟨hst₂.1.at fun o e => h5 _ o (Ne.symm hCI) (Ne.symm hDI) (hk₃ _ o e), hst₂.2.at fun o e => h5 _ o (Ne.symm hCa) (Ne.symm hDa) (hk₃ _ o e)⟩, h2, h1, ?_, hlt, rfl, fun b o hb1 hb2 hb3 e => h5 b o hb1 hb3 (hk₃ b o (kp₂ b o hb1 hb2 hb3 e))⟩
      have e : items.take (q + 1) = items.take q ++ [v] := by simp [List.take_add_one, hv]
      rw [e]
      exact Chunks.snoc h3 h4 hG
    refine compStart_in (loop _ ?_) (hW2.self 0 _ _ _ (by show IsRangeIter _ _ _ _ _; rw [hrs]; simpa using Heap.get?_push_size _ rfl) (loop _ ?_))
    · intro h₅ tk₅ m₅ cs h1 h2 h3 h4 h5
      exact wpAny_pure ⟨rfl, hfin h₅ tk₅ m₅ cs h1 h2 h3 h4 h5⟩
    · intro h₅ tk₅ m₅ cs h1 h2 h3 h4 h5
      exact wpAny_pure ⟨rfl, hfin h₅ tk₅ m₅ cs h1 h2 h3 h4 h5⟩
  · have hin : q = items.length := by omega
    refine W.done _ _ _ (by simpa [hin] using hst') fun h₁ tk₁ hk₁ => ?_
    refine wpAny_pure ?_
    rw [hin, List.take_length] at hG
    exact hR h₁ tk₁ m' zs (hn'.at' fun o e => hk₁ _ o (fun h => hCI (List.mem_singleton.mp h)) e) (hacc'.at fun o e => hk₁ _ o (fun h => hDI (List.mem_singleton.mp h)) e) hG
      fun b o h1 h2 h3 e => hk₁ b o (fun h => h2 (List.mem_singleton.mp h)) (hkp b o h1 h2 h3 e)
theorem nested_block {env : Env} {cl : List (Str × Addr)} {Q : Value → Shared → Prop} {ax : Addr} {items : List Value} {n : Nat} {G : Value → Nat → Value → Prop} (hh : A.handled = none)
    (hcell : ∀ y ∈ scope.names, y.2 ≠ .cell) (hkind : scope.kind = .function) (hxl : scope.names.lookup x = some .local) (hkl : scope.names.lookup k = some .local) (hxk : x ≠ k)
    (hli : s.heap.IsList ax items.toArray) (hsz : items.length * n ≤ sizeLine)
    (hsm : Builtin.Range.small 0 n 1 = true) (hrs : Builtin.Range.rangeSize 0 n 1 = (n : Int)) (hfs : ∀ C v, foldedSetIterable iter2 (compEnvC scope cl C env) v = pure v)
    (hit2 : ∀ C s₂ E', InElt s.heap s₂.heap → wpAny (model prog w) A (eval iter2 (compEnvC scope cl C env)) (fun xv s₃ => (∃ r t u v, xv = .ref r ∧ IsRange s₃.heap r 0 n 1 t u v) ∧ Keeps s₂ s₃) E' s₂)
    (helt : ∀ C vx i t s₂ m₂ E', vx ∈ items → i < n → s₂.heap.Ns C m₂ → m₂ k = some (.int ((i : Nat) : Int) t) → m₂ x = some vx → wpAny (model prog w) A (eval elt (compEnvC scope cl C env)) (fun y s₃ => G vx i y ∧ Keeps s₂ s₃) E' s₂)
    (fin : ∀ D h' tk (zs : List Value), s.heap.get? D = none → h'.PlainList D zs.toArray → Chunks G n items zs → InElt s.heap h' → Q (.ref D) { s with heap := h', toks := tk }) :
    wpAny (model prog w) A (pyIter (.ref ax)) (fun it s₂ => wpAny (model prog w) A (newList []) (fun acc s₃ => wpAny (model prog w) A (newFunctionEnv scope env.globals cl [] env.qual none .none (some env)) (fun cenv s₄ =>
      codeAny (model prog w) A (.compStart (.ListComp elt [⟨.Name x px, iter1, [], 0⟩, ⟨.Name k pk, iter2, [], 0⟩] scope pos) 0 it acc { cenv with scope := relabel scope env }) (compPost (model prog w) A E none Q acc cenv.locals) s₄) E s₃) E s₂) E s := by
  obtain ⟨ol, hol, hrr⟩ := id hli
  have hlt : ax < s.heap.objs.size := Heap.lt_size hol
  refine wpAny_pyIter_list hli ?_
  refine wpAny_newObj_type (wpAny_newFunctionEnv hcell (by intro y hy; simp at hy) (fun h₁ hns₁ hsb₁ => ?_) hkind)
  dsimp only at hns₁ hsb₁ ⊢
  generalize hH1 : s.heap.push { cls := .type "list_iterator", data := .fields #[.ref ax, .int 0 0] } = H1 at hns₁ hsb₁ ⊢
  have hs1 : H1.objs.size = s.heap.objs.size + 1 := by rw [← hH1, Heap.size_push]
  generalize hH2 : H1.push { cls := .type "list", dict := none, data := .seq ([] : List Value).toArray } = H2 at hns₁ hsb₁ ⊢
  have hs2 : H2.objs.size = s.heap.objs.size + 2 := by rw [← hH2, Heap.size_push, hs1]
  replace hlt := ltN hlt
  have n2 : ∀ {b : Addr} {o : Obj}, s.heap.get? b = some o → b ≠ H2.objs.size := fun e => Nat.ne_of_lt (by have := ltN (Heap.lt_size e); omega)
  have n1 : ∀ {b : Addr} {o : Obj}, s.heap.get? b = some o → b ≠ H1.objs.size := fun e => Nat.ne_of_lt (by have := ltN (Heap.lt_size e); omega)
  have old : ∀ b o, s.heap.get? b = some o → h₁.get? b = some o := fun b o e => hsb₁.extBut b o (n2 e) (Heap.get?_push_of_some _ (hH2 ▸ Heap.get?_push_of_some _ (hH1 ▸ Heap.get?_push_of_some _ e)))
  have hit : h₁.IsListIter s.heap.objs.size ax 0 := ⟨_, hsb₁.extBut _ _ (by rw [hs2]; exact Nat.ne_of_lt (by omega)) (Heap.get?_push_of_some _ (hH2 ▸ Heap.get?_push_of_some _ (hH1 ▸ Heap.get?_push_size _ rfl))), rfl, rfl⟩
  have hacc : h₁.PlainList H1.objs.size #[] := ⟨_, hsb₁.extBut _ _ (by rw [hs2, hs1]; exact Nat.ne_of_lt (by omega)) (Heap.get?_push_of_some _ (hH2 ▸ Heap.get?_push_size _ rfl))⟩
  have loop : codeAny (model prog w) A (.compLoop (.ListComp elt [⟨.Name x px, iter1, [], 0⟩, ⟨.Name k pk, iter2, [], 0⟩] scope pos) 0 (.ref s.heap.objs.size) (.ref H1.objs.size) (compEnvC scope cl H2.objs.size env))
      (compPost (model prog w) A E none Q (.ref H1.objs.size) H2.objs.size) { s with heap := h₁, toks := s.toks + ([] : List (Str × Value)).length } := by
    refine outer_loop (G := G) (n := n) (ax := ax) hh (Nat.ne_of_lt hlt) (lookup_relabel_local hxl) (lookup_relabel_local hkl) (by simp [compEnvC, relabel, hkind]) hxk
      (by show H1.objs.size ≠ H2.objs.size; rw [hs1, hs2]; omega) (by show H1.objs.size ≠ s.heap.objs.size; rw [hs1]; omega) (by show H1.objs.size ≠ ax; rw [hs1]; exact Nat.ne_of_gt (by omega)) (by show H2.objs.size ≠ s.heap.objs.size; rw [hs2]; omega) (by show H2.objs.size ≠ ax; rw [hs2]; exact Nat.ne_of_gt (by omega))
      hit (hli.at fun o e => old _ o e) hacc hns₁ hsz hsm hrs (hfs _) ?_ ?_ ?_
    · intro s₂ E' hk
      exact hit2 _ s₂ E' fun b o e => hk b o (n2 e) (Nat.ne_of_lt (Heap.lt_size e)) (n1 e) (old b o e)
    · intro vx i t s₂ m₂ E' h1 h2 h3 h4 h5
      exact helt _ vx i t s₂ m₂ E' h1 h2 h3 h4 h5
    · intro h' tk m' zs h1 h2 h3 h4
      refine ⟨m', h1, fun h'' hs'' => ?_⟩
      have hne : H1.objs.size ≠ H2.objs.size := by rw [hs1, hs2]; omega
      refine fin H1.objs.size h'' tk zs ?_ (h2.extBut hs''.extBut hne) h3 fun b o e => hs''.extBut b o (n2 e) (h4 b o (n2 e) (Nat.ne_of_lt (Heap.lt_size e)) (n1 e) (old b o e))
      cases q : s.heap.get? H1.objs.size with
      | none => rfl
      | some o => exact absurd rfl (n1 q)
  exact codeAny_compStart_list loop ((Walks.list (prog := prog) (w := w) hh s.heap.objs.size ax (Nat.ne_of_lt hlt) items.toArray).self 0 _ _ _ ⟨hit, hli.at fun o e => old _ o e⟩ loop)
/-- what follows the source of a nested comprehension -/
def NestAt (prog : Program) (w : World) (A : Around) (E : Value → Shared → Prop) (env : Env) (scope : Scope) (cl : List (Str × Addr)) (e : PySem.Expr) (Q : Value → Shared → Prop) (xv : Value) (s₁ : Shared) : Prop :=
  wpAny (model prog w) A (pyIter xv) (fun it s₂ => wpAny (model prog w) A (newList []) (fun acc s₃ => wpAny (model prog w) A (newFunctionEnv scope env.globals cl [] env.qual none .none (some env)) (fun cenv s₄ =>
      codeAny (model prog w) A (.compStart e 0 it acc { cenv with scope := relabel scope env }) (compPost (model prog w) A E none Q acc cenv.locals) s₄) E s₃) E s₂) E s₁
theorem nested_comp {env : Env} {cl : List (Str × Addr)} {Q : Value → Shared → Prop} (hclos : closureFor scope env = pure cl) (hkind : scope.kind = .function) (hnames : ∀ y ∈ scope.names, y.2 = .local → scope.names.lookup y.1 = some .local)
    (h : wpAny (model prog w) A (eval iter1 env) (NestAt prog w A E env scope cl (.ListComp elt [⟨.Name x px, iter1, [], 0⟩, ⟨.Name k pk, iter2, [], 0⟩] scope pos) Q) E s)
    (hs : ∀ x, foldedSetIterable iter1 env x = pure x := by intro _; rfl) :
    wpAny (model prog w) A (eval (.ListComp elt [⟨.Name x px, iter1, [], 0⟩, ⟨.Name k pk, iter2, [], 0⟩] scope pos) env) Q E s := by
  rw [eval_ListComp]
  exact wpAny_comprehension_free (use := none) rfl hs hclos hkind hnames h
end
end
section
section
variable {prog : Program} {w : World} {A : Around} {E : Value → Shared → Prop} {R : Result → Shared → Prop} {s : Shared}
variable {elt iter test : PySem.Expr} {a b c : Str} {pa pb pc tp : Pos} {kk : Nat} {scope : Scope} {pos : Pos}
theorem assign3 {env : Env} {T : Addr} {x y z : Value} {m : Str → Option Value} {Q : Unit → Shared → Prop} (hh : A.handled = none) (ht : s.heap.IsTuple T #[x, y, z])
    (ha : env.kindOf a = some .local) (hb : env.kindOf b = some .local) (hc : env.kindOf c = some .local) (hp : (env.scope.kind == .class || (env.scope.kind == .module && env.locals != env.globals)) = false) (hn : s.heap.Ns env.locals m)
    (h : ∀ (h' : Heap) (tk : Nat), h'.Ns env.locals (fun v => if v = c then some z else if v = b then some y else if v = a then some x else m v) → (∀ q o, q ≠ env.locals → s.heap.get? q = some o → h'.get? q = some o) → Q () { s with heap := h', toks := tk }) :
    wpAny (model prog w) A (assign (.Tuple [.Name a pa, .Name b pb, .Name c pc] kk tp) env (.ref T)) Q E s := by
  refine wpAny_assign_Tuple hh ht rfl rfl fun h₁ he₁ => ?_
  have hL : env.locals ≠ s.heap.objs.size := Nat.ne_of_lt hn.lt
  have hn₁ : h₁.Ns env.locals m := hn.at' fun o e => he₁ _ o hL e
  have up₁ : ∀ q o, s.heap.get? q = some o → h₁.get? q = some o := fun q o e => he₁ q o (Nat.ne_of_lt (Heap.lt_size e)) e
  show wpAny _ _ (assignInOrder [assign (.Name a pa) env, assign (.Name b pb) env, assign (.Name c pc) env] [x, y, z]) _ _ _
  refine assignInOrder_cons ?_
  refine wpAny_assign_Name (wpAny_storeName_local ha hn₁ (fun h₂ hn₂ hs₂ => ?_) hp)
  refine assignInOrder_cons ?_
  refine wpAny_assign_Name (wpAny_storeName_local hb hn₂ (fun h₃ hn₃ hs₃ => ?_) hp)
  refine assignInOrder_cons ?_
  refine wpAny_assign_Name (wpAny_storeName_local hc hn₃ (fun h₄ hn₄ hs₄ => ?_) hp)
  refine assignInOrder_nil ?_
  exact h h₄ _ hn₄ fun q o hq e => hs₄.extBut q o hq (hs₃.extBut q o hq (hs₂.extBut q o hq (up₁ q o e)))
theorem owned_list {I ax : Addr} {j : Nat} {v : Value} {elts : List PySem.Expr} {Q : Unit → Shared → Prop} (hi : s.heap.IsListIter I ax j) (h : Q () s) :
    wpAny (model prog w) A (letOwnedTupleGo (.Tuple elts kk tp) (.ref I) v) Q E s := by
  obtain ⟨o, ho, hc, hd⟩ := hi
  unfold letOwnedTupleGo
  cases v with
  | ref T =>
    dsimp only
    refine wpAny_bind (wpAny_load ho ?_)
    rw [hc, hd]
    dsimp only
    rw [if_neg (by intro h; have := (Bool.and_eq_true_iff.mp h).1; revert this; decide)]
    exact wpAny_pure h
  | _ => exact wpAny_pure h
theorem TupsIn.item {tl : List (Addr × Obj)} {vs : List Value} {rs : List (Int × Int × Int)} (h : TupsIn tl vs rs) : ∀ {q : Nat} {v : Value}, vs[q]? = some v → ∃ T r tx ty tz, v = .ref T ∧ rs[q]? = some r ∧ (T, tupObj [.int r.1 tx, .int r.2.1 ty, .int r.2.2 tz]) ∈ tl := by
  induction h with
  | nil => intro q v e; simp at e
  | @cons t x y z tx ty tz vs rs hm _ ih =>
    intro q v e
    cases q with
    | zero => simp at e; exact ⟨t, (x, y, z), tx, ty, tz, e.symm, by simp, hm⟩
    | succ q => simpa using ih (by simpa using e)
theorem triple_loop {I ax D : Addr} {items : List Value} {rows : List (Int × Int × Int)} {tl0 : List (Addr × Obj)} {cenv : Env} {m : Str → Option Value} (pT : Int × Int × Int → Bool) (fE : Int × Int × Int → Int × Int × Int) (hh : A.handled = none) (hax : ax ≠ I)
    (ha : cenv.kindOf a = some .local) (hb : cenv.kindOf b = some .local) (hc : cenv.kindOf c = some .local) (hp : (cenv.scope.kind == .class || (cenv.scope.kind == .module && cenv.locals != cenv.globals)) = false) (hab : a ≠ b) (hac : a ≠ c) (hbc : b ≠ c)
    (hDC : D ≠ cenv.locals) (hDI : D ≠ I) (hDa : D ≠ ax) (hCI : cenv.locals ≠ I) (hCa : cenv.locals ≠ ax)
    (hst : s.heap.IsListIter I ax 0) (hli : s.heap.IsList ax items.toArray) (hacc : s.heap.PlainList D #[]) (hn : s.heap.Ns cenv.locals m) (hsz : items.length ≤ sizeLine)
    (hT0 : TupsIn tl0 items rows) (h0 : ∀ p ∈ tl0, s.heap.get? p.1 = some p.2 ∧ p.1 ≠ cenv.locals ∧ p.1 ≠ I ∧ p.1 ≠ D)
    (htest : ∀ r tx ty tz s₂ m₂ E', s₂.heap.Ns cenv.locals m₂ → m₂ a = some (.int r.1 tx) → m₂ b = some (.int r.2.1 ty) → m₂ c = some (.int r.2.2 tz) →
      wpAny (model prog w) A (forIn [test] true fun c r => if r = true then do let ok ← isTrue c cenv (eval c cenv); pure (ForInStep.yield ok) else pure (ForInStep.yield r)) (fun ok s₃ => ok = pT r ∧ Keeps s₂ s₃) E' s₂)
    (helt : ∀ r tx ty tz s₂ m₂ E', s₂.heap.Ns cenv.locals m₂ → m₂ a = some (.int r.1 tx) → m₂ b = some (.int r.2.1 ty) → m₂ c = some (.int r.2.2 tz) →
      wpAny (model prog w) A (eval elt cenv) (fun y s₃ => (∃ T ux uy uz, y = .ref T ∧ s₂.heap.get? T = none ∧ s₃.heap.get? T = some (tupObj [.int (fE r).1 ux, .int (fE r).2.1 uy, .int (fE r).2.2 uz])) ∧ Keeps s₂ s₃) E' s₂)
    (hR : ∀ h' tk m' (zs : List Value) tl, h'.Ns cenv.locals m' → h'.PlainList D zs.toArray → TupsIn tl zs ((rows.filter pT).map fE) → (∀ p ∈ tl, h'.get? p.1 = some p.2 ∧ p.1 ≠ cenv.locals ∧ p.1 ≠ I ∧ p.1 ≠ D ∧ s.heap.get? p.1 = none) → (∀ b o, b ≠ cenv.locals → b ≠ I → b ≠ D → s.heap.get? b = some o → h'.get? b = some o) → R (.ok .next) { s with heap := h', toks := tk }) :
    codeAny (model prog w) A (.compLoop (.ListComp elt [⟨.Tuple [.Name a pa, .Name b pb, .Name c pc] kk tp, iter, [test], 0⟩] scope pos) 0 (.ref I) (.ref D) cenv) R s := by
  have W := Walks.list (prog := prog) (w := w) hh I ax hax items.toArray
  refine codeAny_loop rfl (fun j s' => ∃ h' tk m', ∃ q : Nat, ∃ zs : List Value, ∃ tl, s' = { s with heap := h', toks := tk } ∧ (h'.IsListIter I ax q ∧ h'.IsList ax items.toArray) ∧ h'.PlainList D zs.toArray ∧ h'.Ns cenv.locals m' ∧ TupsIn tl zs (((rows.take q).filter pT).map fE) ∧
    (∀ p ∈ tl, h'.get? p.1 = some p.2 ∧ p.1 ≠ cenv.locals ∧ p.1 ≠ I ∧ p.1 ≠ D ∧ s.heap.get? p.1 = none) ∧ q ≤ items.length ∧ j = items.length + 1 - q ∧
    (∀ b o, b ≠ cenv.locals → b ≠ I → b ≠ D → s.heap.get? b = some o → h'.get? b = some o)) (fun j s' hI => ?_) (items.length + 1) ⟨s.heap, s.toks, m, 0, [], [], rfl, ⟨hst, hli⟩, hacc, hn, .nil, (fun _ h => nomatch h), Nat.zero_le _, rfl, fun _ _ _ _ _ e => e⟩
  obtain ⟨h', tk, m', q, zs, tl, rfl, hst', hacc', hn', hT, htl, hle, rfl, hkp⟩ := hI
  show wpAny _ A ((compTurn (.ListComp elt [⟨.Tuple [.Name a pa, .Name b pb, .Name c pc] kk tp, iter, [test], 0⟩] scope pos) 0 (.ref I) (.ref D) cenv).onRaise (fun x => do noteFrame x cenv; theTreesLotGoes x)) _ _ _
  refine wpAny_noted ?_
  rw [compTurn_list]
  refine wpAny_bind (wpAny_standAt (wpAny_bind ?_))
  rcases Nat.lt_or_ge q items.length with hlt | hge
  · refine W.item q _ _ _ (by simpa using hlt) hst' fun v h₁ tk₁ hPv hst₁ hk₁ => ?_
    have hv : items[q]? = some v := by simpa using hPv
    obtain ⟨T, r, tx, ty, tz, rfl, hr, hTm⟩ : ∃ T r tx ty tz, v = .ref T ∧ rows[q]? = some r ∧ (T, tupObj [.int r.1 tx, .int r.2.1 ty, .int r.2.2 tz]) ∈ tl0 := hT0.item hv
    obtain ⟨hT1, hT2, hT3, hT4⟩ := h0 _ hTm
    have hTh : h₁.get? T = some (tupObj [.int r.1 tx, .int r.2.1 ty, .int r.2.2 tz]) := hk₁ _ _ (fun h => hT3 (List.mem_singleton.mp h)) (hkp _ _ hT2 hT3 hT4 hT1)
    refine wpAny_bind (owned_list hst₁.1 (wpAny_bind ?_))
    refine assign3 hh ⟨_, hTh, rfl, _, rfl⟩ ha hb hc hp (hn'.at' fun o e => hk₁ _ o (fun h => hCI (List.mem_singleton.mp h)) e) fun h₂ tk₂ hn₂ hk₂ => ?_
    have ea : (fun v => if v = c then some (Value.int r.2.2 tz) else if v = b then some (Value.int r.2.1 ty) else if v = a then some (Value.int r.1 tx) else m' v) a = some (.int r.1 tx) := by simp [hac, hab]
    have eb : (fun v => if v = c then some (Value.int r.2.2 tz) else if v = b then some (Value.int r.2.1 ty) else if v = a then some (Value.int r.1 tx) else m' v) b = some (.int r.2.1 ty) := by simp [hbc]
    have ec : (fun v => if v = c then some (Value.int r.2.2 tz) else if v = b then some (Value.int r.2.1 ty) else if v = a then some (Value.int r.1 tx) else m' v) c = some (.int r.2.2 tz) := by simp
    refine wpAny_bind (wpAny_mono (htest r tx ty tz _ _ _ hn₂ ea eb ec) (fun ok s₃ h₃ => ?_) fun _ _ e => e)
    obtain ⟨rfl, h₃, tk₃, rfl, hk₃⟩ := h₃
    have up : ∀ b o, b ≠ cenv.locals → b ≠ I → h'.get? b = some o → h₃.get? b = some o := fun b o h1 h2 e => hk₃ b o (hk₂ b o h1 (hk₁ b o (fun h => h2 (List.mem_singleton.mp h)) e))
    have hst₃ : h₃.IsListIter I ax (q + 1) ∧ h₃.IsList ax items.toArray := W.frame _ _ h₃ hst₁ fun b hb o e => hk₃ b o (hk₂ b o (by
      rcases List.mem_cons.mp hb with rfl | hb
      · exact Ne.symm hCI
      · rw [List.mem_singleton.mp hb]; exact Ne.symm hCa) e)
    have hacc₃ : h₃.PlainList D zs.toArray := hacc'.at fun o e => up _ o hDC hDI e
    have hn₃ := hn₂.keeps hk₃
    have etk : rows.take (q + 1) = rows.take q ++ [r] := by simp [List.take_add_one, hr]
    have hzl := hT.length
    have hzl2 : zs.length ≤ items.length := by
      have h1 := hT0.length
      rw [hzl, List.length_map]
      refine Nat.le_trans (List.length_filter_le _ _) ?_
      rw [List.length_take]; omega
    cases hpv : pT r with
    | false =>
      refine wpAny_pure ⟨rfl, items.length + 1 - (q + 1), by omega, h₃, tk₃, _, q + 1, zs, tl, rfl, hst₃, hacc₃, hn₃, ?_, fun p hp => ⟨up _ _ (htl p hp).2.1 (htl p hp).2.2.1 (htl p hp).1, (htl p hp).2⟩, hlt, rfl, fun b o h1 h2 h3 e => up b o h1 h2 (hkp b o h1 h2 h3 e)⟩
      rw [etk, List.filter_append]; simpa [hpv] using hT
    | true =>
      refine wpAny_bind (wpAny_bind (wpAny_mono (helt r tx ty tz _ _ _ hn₃ ea eb ec) (fun y s₄ h₄ => ?_) fun _ _ e => e))
      obtain ⟨⟨T', ux, uy, uz, rfl, hTn, hTo⟩, h₄, tk₄, rfl, hk₄⟩ := h₄
      refine wpAny_bind (wpAny_list_append_plain (hsz := by simp; omega) (hacc₃.at fun o e => hk₄ _ o e) fun h₅ hl₅ hs₅ => ?_)
      have hTC : T' ≠ cenv.locals := by rintro rfl; obtain ⟨o, _, _, ho, _⟩ := hn₃; rw [hTn] at ho; cases ho
      have hTI : T' ≠ I := by rintro rfl; obtain ⟨o, ho, _⟩ := hst₃.1; rw [hTn] at ho; cases ho
      have hTD : T' ≠ D := by rintro rfl; obtain ⟨_, ho⟩ := hacc₃; rw [hTn] at ho; cases ho
      have hTs : s.heap.get? T' = none := by
        cases hq : s.heap.get? T' with
        | none => rfl
        | some o => rw [up _ _ hTC hTI (hkp _ _ hTC hTI hTD hq)] at hTn; cases hTn
      refine wpAny_pure (wpAny_pure ⟨rfl, items.length + 1 - (q + 1), by omega, h₅, tk₄, _, q + 1, zs ++ [.ref T'], (T', tupObj [.int (fE r).1 ux, .int (fE r).2.1 uy, .int (fE r).2.2 uz]) :: tl, rfl,
        ⟨hst₃.1.at fun o e => hs₅.extBut _ o (Ne.symm hDI) (hk₄ _ o e), hst₃.2.at fun o e => hs₅.extBut _ o (Ne.symm hDa) (hk₄ _ o e)⟩, ?_, (hn₃.keeps hk₄).sameBut hs₅ (Ne.symm hDC), ?_, ?_, hlt, rfl, fun b o h1 h2 h3 e => hs₅.extBut b o h3 (hk₄ b o (up b o h1 h2 (hkp b o h1 h2 h3 e)))⟩)
      · rw [← List.push_toArray]; exact hl₅
      · rw [etk, List.filter_append, List.map_append]
        have e2 : List.map fE (List.filter pT [r]) = [((fE r).1, (fE r).2.1, (fE r).2.2)] := by simp [hpv]
        rw [e2]
        exact TupsIn.snoc (hT.mono fun p hp => .tail _ hp) (.head _)
      · intro p hp
        rcases List.mem_cons.mp hp with rfl | hp
        · exact ⟨hs₅.extBut _ _ hTD hTo, hTC, hTI, hTD, hTs⟩
        · have hq := htl p hp
          exact ⟨hs₅.extBut _ _ hq.2.2.2.1 (hk₄ _ _ (up _ _ hq.2.1 hq.2.2.1 hq.1)), hq.2⟩
  · have hin : q = items.length := by omega
    refine W.done _ _ _ (by simpa [hin] using hst') fun h₁ tk₁ hk₁ => ?_
    refine wpAny_pure ?_
    have h1 := hT0.length
    rw [hin, List.take_of_length_le (by omega)] at hT
    exact hR h₁ tk₁ m' zs tl (hn'.at' fun o e => hk₁ _ o (fun h => hCI (List.mem_singleton.mp h)) e) (hacc'.at fun o e => hk₁ _ o (fun h => hDI (List.mem_singleton.mp h)) e) hT
      (fun p hp => ⟨hk₁ _ _ (fun h => (htl p hp).2.2.1 (List.mem_singleton.mp h)) (htl p hp).1, (htl p hp).2⟩)
      fun b o h1 h2 h3 e => hk₁ b o (fun h => h2 (List.mem_singleton.mp h)) (hkp b o h1 h2 h3 e)
def TripAt (prog : Program) (w : World) (A : Around) (E : Value → Shared → Prop) (env : Env) (scope : Scope) (cl : List (Str × Addr)) (e : PySem.Expr) (u : Value → Sem Unit) (Q : Value → Shared → Prop) (xv : Value) (s₁ : Shared) : Prop :=
  wpAny (model prog w) A (pyIter xv) (fun it s₂ => wpAny (model prog w) A (newList []) (fun acc s₃ => wpAny (model prog w) A (newFunctionEnv scope env.globals cl [] env.qual none .none (some env)) (fun cenv s₄ =>
      codeAny (model prog w) A (.compStart e 0 it acc { cenv with scope := relabel scope env }) (compPost (model prog w) A E (some u) Q acc cenv.locals) s₄) E s₃) E s₂) E s₁
theorem triple_assign {env : Env} {cl : List (Str × Addr)} {y : Str} {py spos : Pos} {Q : Flow → Shared → Prop}
    (hsw : swapsWith (.ListComp elt [⟨.Tuple [.Name a pa, .Name b pb, .Name c pc] kk tp, iter, [test], 0⟩] scope pos) (some (.Name y py)) spos.line env = pure true)
    (hclos : closureFor scope env = pure cl) (hkind : scope.kind = .function) (hnames : ∀ z ∈ scope.names, z.2 = .local → scope.names.lookup z.1 = some .local)
    (h : wpAny (model prog w) A (eval iter env) (TripAt prog w A E env scope cl (.ListComp elt [⟨.Tuple [.Name a pa, .Name b pb, .Name c pc] kk tp, iter, [test], 0⟩] scope pos) (assign (.Name y py) env) (fun _ s' => Q .next s')) E s)
    (hs : ∀ x, foldedSetIterable iter env x = pure x := by intro _; rfl) :
    wpAny (model prog w) A (exec (.Assign [.Name y py] (.ListComp elt [⟨.Tuple [.Name a pa, .Name b pb, .Name c pc] kk tp, iter, [test], 0⟩] scope pos) spos) env) Q E s := by
  rw [exec_Assign_Name_used _ _ _ _ hsw]
  refine wpAny_bind (wpAny_standAt (wpAny_bind ?_))
  show wpAny _ A (do let _ ← comprehension (.ListComp elt [⟨.Tuple [.Name a pa, .Name b pb, .Name c pc] kk tp, iter, [test], 0⟩] scope pos) scope env _ (newList []) false (eval iter env) (some (assign (.Name y py) env))) _ _ s
  exact wpAny_bind (wpAny_mono (wpAny_comprehension_free (use := some (assign (.Name y py) env)) (Q := fun _ s' => Q .next s') rfl hs hclos hkind hnames h) (fun _ s' hq => wpAny_pure (wpAny_pure hq)) fun _ _ e => e)
end
end
section
section
variable {prog : Program} {w : World} {A : Around} {E : Value → Shared → Prop} {R : Result → Shared → Prop} {s : Shared}
variable {elt iter test : PySem.Expr} {a b c : Str} {pa pb pc tp : Pos} {kk : Nat} {scope : Scope} {pos : Pos}
theorem triple_blockN {env : Env} {cl : List (Str × Addr)} {y : Str} {py : Pos} {Q : Value → Shared → Prop} {h₀ : Heap} {m : Str → Option Value} {news : List (Addr × Obj)} {ax : Addr} {items : List Value} {rows : List (Int × Int × Int)} {tl0 : List (Addr × Obj)}
    (pT : Int × Int × Int → Bool) (fE : Int × Int × Int → Int × Int × Int) (hh : A.handled = none)
    (hcell : ∀ z ∈ scope.names, z.2 ≠ .cell) (hkind : scope.kind = .function) (ha : scope.names.lookup a = some .local) (hb : scope.names.lookup b = some .local) (hc : scope.names.lookup c = some .local) (hab : a ≠ b) (hac : a ≠ c) (hbc : b ≠ c)
    (hy : env.kindOf y = some .local) (hp : (env.scope.kind == .class || (env.scope.kind == .module && env.locals != env.globals)) = false) (FR : Fr h₀ env.locals s.heap m) (N : News h₀ env.locals s.heap news)
    (hli : s.heap.IsList ax items.toArray) (hsz : items.length ≤ sizeLine) (hT0 : TupsIn tl0 items rows) (h0 : ∀ p ∈ tl0, s.heap.get? p.1 = some p.2)
    (htest : ∀ C r tx ty tz s₂ m₂ E', s₂.heap.Ns C m₂ → m₂ a = some (.int r.1 tx) → m₂ b = some (.int r.2.1 ty) → m₂ c = some (.int r.2.2 tz) →
      wpAny (model prog w) A (forIn [test] true fun c r => if r = true then do let ok ← isTrue c (compEnvC scope cl C env) (eval c (compEnvC scope cl C env)); pure (ForInStep.yield ok) else pure (ForInStep.yield r)) (fun ok s₃ => ok = pT r ∧ Keeps s₂ s₃) E' s₂)
    (helt : ∀ C r tx ty tz s₂ m₂ E', s₂.heap.Ns C m₂ → m₂ a = some (.int r.1 tx) → m₂ b = some (.int r.2.1 ty) → m₂ c = some (.int r.2.2 tz) →
      wpAny (model prog w) A (eval elt (compEnvC scope cl C env)) (fun v s₃ => (∃ T ux uy uz, v = .ref T ∧ s₂.heap.get? T = none ∧ s₃.heap.get? T = some (tupObj [.int (fE r).1 ux, .int (fE r).2.1 uy, .int (fE r).2.2 uz])) ∧ Keeps s₂ s₃) E' s₂)
    (fin : ∀ D h' tk zs nn tl, TupsIn tl zs ((rows.filter pT).map fE) → Fr h₀ env.locals h' (fun z => if z = y then some (.ref D) else m z) → News h₀ env.locals h' ((D, W.listOf zs.toArray nn) :: (tl ++ news)) → Q .none { s with heap := h', toks := tk }) :
    TripAt prog w A E env scope cl (.ListComp elt [⟨.Tuple [.Name a pa, .Name b pb, .Name c pc] kk tp, iter, [test], 0⟩] scope pos) (assign (.Name y py) env) Q (.ref ax) s := by
  unfold TripAt
  obtain ⟨ol, hol, hrr⟩ := id hli
  have hlt := ltN (Heap.lt_size hol)
  refine wpAny_pyIter_list hli ?_
  refine wpAny_newObj_type (wpAny_newFunctionEnv hcell (by intro z hz; simp at hz) (fun h₁ hns₁ hsb₁ => ?_) hkind)
  dsimp only at hns₁ hsb₁ ⊢
  generalize hH1 : s.heap.push { cls := .type "list_iterator", data := .fields #[.ref ax, .int 0 0] } = H1 at hns₁ hsb₁ ⊢
  have hs1 : H1.objs.size = s.heap.objs.size + 1 := by rw [← hH1, Heap.size_push]
  generalize hH2 : H1.push { cls := .type "list", dict := none, data := .seq ([] : List Value).toArray } = H2 at hns₁ hsb₁ ⊢
  have hs2 : H2.objs.size = s.heap.objs.size + 2 := by rw [← hH2, Heap.size_push, hs1]
  have n2 : ∀ {b : Addr} {o : Obj}, s.heap.get? b = some o → b ≠ H2.objs.size := fun e => Nat.ne_of_lt (by have := ltN (Heap.lt_size e); omega)
  have n1 : ∀ {b : Addr} {o : Obj}, s.heap.get? b = some o → b ≠ H1.objs.size := fun e => Nat.ne_of_lt (by have := ltN (Heap.lt_size e); omega)
  have n0 : ∀ {b : Addr} {o : Obj}, s.heap.get? b = some o → b ≠ s.heap.objs.size := fun e => Nat.ne_of_lt (Heap.lt_size e)
  have old : ∀ b o, s.heap.get? b = some o → h₁.get? b = some o := fun b o e => hsb₁.extBut b o (n2 e) (Heap.get?_push_of_some _ (hH2 ▸ Heap.get?_push_of_some _ (hH1 ▸ Heap.get?_push_of_some _ e)))
  have hit : h₁.IsListIter s.heap.objs.size ax 0 := ⟨_, hsb₁.extBut _ _ (by rw [hs2]; exact Nat.ne_of_lt (by omega)) (Heap.get?_push_of_some _ (hH2 ▸ Heap.get?_push_of_some _ (hH1 ▸ Heap.get?_push_size _ rfl))), rfl, rfl⟩
  have hacc : h₁.PlainList H1.objs.size #[] := ⟨_, hsb₁.extBut _ _ (by rw [hs2, hs1]; exact Nat.ne_of_lt (by omega)) (Heap.get?_push_of_some _ (hH2 ▸ Heap.get?_push_size _ rfl))⟩
  obtain ⟨oL, hoL⟩ : ∃ o, s.heap.get? env.locals = some o := by obtain ⟨o, _, _, ho, _⟩ := FR.ns; exact ⟨o, ho⟩
  have loop : codeAny (model prog w) A (.compLoop (.ListComp elt [⟨.Tuple [.Name a pa, .Name b pb, .Name c pc] kk tp, iter, [test], 0⟩] scope pos) 0 (.ref s.heap.objs.size) (.ref H1.objs.size) (compEnvC scope cl H2.objs.size env))
      (compPost (model prog w) A E (some (assign (.Name y py) env)) Q (.ref H1.objs.size) H2.objs.size) { s with heap := h₁, toks := s.toks + ([] : List (Str × Value)).length } := by
    refine triple_loop (ax := ax) (tl0 := tl0) (rows := rows) pT fE hh (Nat.ne_of_lt hlt) (lookup_relabel_local ha) (lookup_relabel_local hb) (lookup_relabel_local hc) (by simp [compEnvC, relabel, hkind]) hab hac hbc
      (by show H1.objs.size ≠ H2.objs.size; rw [hs1, hs2]; omega) (by show H1.objs.size ≠ s.heap.objs.size; rw [hs1]; omega) (by show H1.objs.size ≠ ax; rw [hs1]; exact Nat.ne_of_gt (by omega)) (by show H2.objs.size ≠ s.heap.objs.size; rw [hs2]; omega) (by show H2.objs.size ≠ ax; rw [hs2]; exact Nat.ne_of_gt (by omega))
      hit (hli.at fun o e => old _ o e) hacc hns₁ hsz hT0 (fun p hp => ⟨old _ _ (h0 p hp), n2 (h0 p hp), n0 (h0 p hp), n1 (h0 p hp)⟩) (htest _) (helt _) ?_
    intro h' tk m' zs tl h1 h2 h3 h4 h5
    have hne : H1.objs.size ≠ H2.objs.size := by rw [hs1, hs2]; omega
    have up : ∀ b o, s.heap.get? b = some o → h'.get? b = some o := fun b o e => h5 b o (n2 e) (n0 e) (n1 e) (old b o e)
    show wpAny (model prog w) A (assign (.Name y py) env (.ref H1.objs.size)) _ E _
    refine wpAny_assign_Name (wpAny_storeName_local hy (FR.ns.at' fun o e => up _ o e) (fun h₂ hn₂ hs₂ => ?_) hp)
    refine ⟨m', h1.sameBut hs₂ (Ne.symm (n2 hoL)), fun h₃ hs₃ => ?_⟩
    have up3 : ∀ b o, b ≠ env.locals → b ≠ H2.objs.size → h'.get? b = some o → h₃.get? b = some o := fun b o hb1 hb2 e => hs₃.extBut b o hb2 (hs₂.extBut b o hb1 e)
    have hLe : ∀ p ∈ tl, p.1 ≠ env.locals := fun p hp e => by
      have := (h4 p hp).2.2.2.2
      rw [e] at this
      have h7 := old _ _ hoL
      rw [this] at h7; cases h7
    obtain ⟨nn, hD⟩ := h2
    have hD3 := up3 _ _ (Ne.symm (n1 hoL)) hne hD
    have hT9 : ∀ {b : Addr}, h₁.get? b = none → h₀.get? b = none := fun {b} e => by
      cases q : h₀.get? b with
      | none => rfl
      | some o => rw [old _ _ (FR.keep _ _ q)] at e; cases e
    refine fin H1.objs.size h₃ _ zs nn tl h3 ⟨?_, fun b o e => ?_, FR.above⟩ fun p hp => ?_
    · exact hn₂.sameBut hs₃ (n2 hoL)
    · exact up3 b o (Nat.ne_of_lt (Nat.lt_of_lt_of_le (Heap.lt_size e) FR.above)) (n2 (FR.keep b o e)) (up b o (FR.keep b o e))
    · rcases List.mem_cons.mp hp with rfl | hp
      · refine ⟨hD3, Ne.symm (n1 hoL), ?_⟩
        cases q : h₀.get? H1.objs.size with
        | none => rfl
        | some o => exact absurd rfl (n1 (FR.keep _ _ q))
      · rcases List.mem_append.mp hp with hp | hp
        · exact ⟨up3 _ _ (hLe p hp) (h4 p hp).2.1 (h4 p hp).1, hLe p hp, hT9 (h4 p hp).2.2.2.2⟩
        · exact ⟨up3 _ _ (N p hp).2.1 (n2 (N p hp).1) (up _ _ (N p hp).1), (N p hp).2⟩
  exact codeAny_compStart_list loop ((Walks.list (prog := prog) (w := w) hh s.heap.objs.size ax (Nat.ne_of_lt hlt) items.toArray).self 0 _ _ _ ⟨hit, hli.at fun o e => old _ o e⟩ loop)
end
end
section
section
variable {prog : Program} {w : World} {A : Around} {E : Value → Shared → Prop} {s : Shared} {env : Env} {m : Str → Option Value} {x y z : Str} {px py pz pos : Pos} {i j k : Int} {tx ty tz : Tok} {kk : Nat}
theorem name_ok {v : Value} {Q : Value → Shared → Prop} (hk : env.scope.kind = .function) (hx : env.kindOf x = some .local) (hn : s.heap.Ns env.locals m) (ex : m x = some v) (hd : (x == ("__debug__" : Str)) = false) (h : Q v s) :
    wpAny (model prog w) A (eval (.Name x px) env) Q E s := wpAny_Name (wpAny_loadName_local hk hx hn ex h) hd
theorem trip_cmp (hk : env.scope.kind = .function) (hx : env.kindOf x = some .local) (hy : env.kindOf y = some .local) (hn : s.heap.Ns env.locals m) (ex : m x = some (.int i tx)) (ey : m y = some (.int j ty))
    (dx : (x == ("__debug__" : Str)) = false) (dy : (y == ("__debug__" : Str)) = false) (hm : behindInMarks .Eq (.Name y py) = false) :
    wpAny (model prog w) A (forIn [PySem.Expr.Compare (.Name x px) [.Eq] [.Name y py] pos] true fun c r => if r = true then do let ok ← isTrue c env (eval c env); pure (ForInStep.yield ok) else pure (ForInStep.yield r)) (fun ok s₃ => ok = (i == j) ∧ Keeps s s₃) E s := by
  refine wpAny_tests_one (wpAny_isTrue_Compare1 (name_ok hk hx hn ex dx (name_ok hk hy hn ey dy (PyProof.Rows.eq_int ?_))) hm)
  exact wpAny_truthy_bool ⟨rfl, s.heap, s.toks, rfl, fun _ _ e => e⟩
theorem trip_elt (hk : env.scope.kind = .function) (hx : env.kindOf x = some .local) (hy : env.kindOf y = some .local) (hz : env.kindOf z = some .local) (hn : s.heap.Ns env.locals m) (ex : m x = some (.int i tx)) (ey : m y = some (.int j ty)) (ez : m z = some (.int k tz))
    (dx : (x == ("__debug__" : Str)) = false) (dy : (y == ("__debug__" : Str)) = false) (dz : (z == ("__debug__" : Str)) = false) :
    wpAny (model prog w) A (eval (.Tuple [.Name x px, .Name y py, .Name z pz] kk pos) env) (fun v s₃ => (∃ T ux uy uz, v = .ref T ∧ s.heap.get? T = none ∧ s₃.heap.get? T = some (tupObj [.int i ux, .int j uy, .int k uz])) ∧ Keeps s s₃) E s := by
  refine wpAny_Tuple ?_
  refine wpAny_items_cons (name_ok hk hx hn ex dx ?_)
  refine wpAny_items_cons (name_ok hk hy hn ey dy ?_)
  refine wpAny_items_cons (name_ok hk hz hn ez dz ?_)
  refine wpAny_items_nil ⟨by rw [sizeLine_eq]; show 3 ≤ _; omega, ⟨_, tx, ty, tz, rfl, ?_, Heap.get?_push_size _ rfl⟩, _, _, rfl, fun _ _ e => Heap.get?_push_of_some _ e⟩
  cases q : s.heap.get? s.heap.objs.size with
  | none => rfl
  | some o => exact absurd (Heap.lt_size q) (Nat.lt_irrefl _)
end
end
section
open PySem.Builtin.Str (strSliceIndices)
noncomputable def lawBody : List Stmt := match PySem.Challenge.pw_rs0092_01.main.body with
  | [_, _, _, _, _, _, _, _, _, .FunctionDef _ _ b _ _ _ _ _ _ _] => b
  | _ => []
noncomputable def lawScope : Scope := match PySem.Challenge.pw_rs0092_01.main.body with
  | [_, _, _, _, _, _, _, _, _, .FunctionDef _ _ _ _ _ _ sc _ _ _] => sc
  | _ => { kind := .function, names := [], isGenerator := false, isCoroutine := false }
section
variable {prog p : Program} {loose : List Str} {w : World} {mean : ExcName → Option Value} {mg mb : Str → Option Value}
  {dp un : Nat} {gd : Option (List Code)} {fa : Addr} {ccd : Value} {outer : List Env} {A₀ : Around} {base h₀ : Heap} {L : Addr} {m : Str → Option Value} {s : Shared} {E : Value → Shared → Prop} {Q : Flow → Shared → Prop}
theorem News.new {h₀ h h' : Heap} {L r : Addr} {m : Str → Option Value} {o : Obj} (F : Fr h₀ L h m) (e : h.get? r = none) (hr : h'.get? r = some o) : News h₀ L h' [(r, o)] := fun p hp => by
  rw [List.mem_singleton.mp hp]
  refine ⟨hr, fun q => ?_, ?_⟩
  · obtain ⟨oL, _, _, ho, _⟩ := F.ns
    rw [← show r = L from q, e] at ho; cases ho
  · cases q : h₀.get? r with
    | none => rfl
    | some o => rw [F.keep _ _ q] at e; cases e
theorem News.neNew {h₀ h : Heap} {L r q : Addr} {o : Obj} {news : List (Addr × Obj)} (N : News h₀ L h news) (e : h.get? r = none) (hq : (q, o) ∈ news) : @Ne Nat q r := fun h9 => by
  have := (N _ hq).1
  rw [show q = r from h9, e] at this; cases this
theorem ints_cons {vs : List Value} {ns : List Int} {k : Nat} (h : IntsAre vs ns) (hl : ns.length = k + 1) : ∃ n t vs' ns', ns = n :: ns' ∧ vs = .int n t :: vs' ∧ IntsAre vs' ns' ∧ ns'.length = k := by
  cases h with
  | nil => cases hl
  | cons n t h => exact ⟨n, t, _, _, rfl, rfl, h, Nat.succ.inj hl⟩
theorem ints7K {P : Prop} {vs : List Value} {ns : List Int} (h : IntsAre vs ns) (hl : ns.length = 7) (k : ∀ n0 n1 n2 n3 n4 n5 n6 t0 t1 t2 t3 t4 t5 t6, ns = [n0, n1, n2, n3, n4, n5, n6] → vs = [.int n0 t0, .int n1 t1, .int n2 t2, .int n3 t3, .int n4 t4, .int n5 t5, .int n6 t6] → P) : P := by
  obtain ⟨n0, t0, v0, m0, e0, f0, h, hl⟩ := ints_cons h hl
  obtain ⟨n1, t1, v1, m1, e1, f1, h, hl⟩ := ints_cons h hl
  obtain ⟨n2, t2, v2, m2, e2, f2, h, hl⟩ := ints_cons h hl
  obtain ⟨n3, t3, v3, m3, e3, f3, h, hl⟩ := ints_cons h hl
  obtain ⟨n4, t4, v4, m4, e4, f4, h, hl⟩ := ints_cons h hl
  obtain ⟨n5, t5, v5, m5, e5, f5, h, hl⟩ := ints_cons h hl
  obtain ⟨n6, t6, v6, m6, e6, f6, h, hl⟩ := ints_cons h hl
  have g6 : m6 = [] := List.length_eq_zero_iff.mp hl
  have d6 : v6 = [] := by rw [g6] at h; cases h; rfl
  exact k n0 n1 n2 n3 n4 n5 n6 t0 t1 t2 t3 t4 t5 t6 (by rw [e0, e1, e2, e3, e4, e5, e6, g6]) (by rw [f0, f1, f2, f3, f4, f5, f6, d6])
theorem ints7 {vs : List Value} {ns : List Int} (h : IntsAre vs ns) (hl : ns.length = 7) : ∃ n0 n1 n2 n3 n4 n5 n6 t0 t1 t2 t3 t4 t5 t6, ns = [n0, n1, n2, n3, n4, n5, n6] ∧ vs = [.int n0 t0, .int n1 t1, .int n2 t2, .int n3 t3, .int n4 t4, .int n5 t5, .int n6 t6] :=
  ints7K h hl fun n0 n1 n2 n3 n4 n5 n6 t0 t1 t2 t3 t4 t5 t6 e f => ⟨n0, n1, n2, n3, n4, n5, n6, t0, t1, t2, t3, t4, t5, t6, e, f⟩
def sgnOf (x : Int) (i : Nat) : Nat := if Int.fmod (Int.fdiv x (2 ^ i)) 2 = 0 then 32 else 9
def SgnG (v : Value) (i : Nat) (y : Value) : Prop := ∀ x t, v = .int x t → ∃ t', y = Value.str ⟨#[sgnOf x i]⟩ t'
theorem sgn_item (x : Int) (i : Nat) : Txt.item (Str.ofString " \t") ((x.fdiv (2 ^ ((i : Nat) : Int).toNat)).fmod 2) = ⟨#[sgnOf x i]⟩ := by
  have e : ((i : Nat) : Int).toNat = i := by omega
  rw [e, sgnOf]
  have h1 := Int.fmod_nonneg_of_pos (x.fdiv (2 ^ i)) (show (0 : Int) < 2 by decide)
  have h2 := Int.fmod_lt_of_pos (x.fdiv (2 ^ i)) (show (0 : Int) < 2 by decide)
  generalize (x.fdiv (2 ^ i)).fmod 2 = j at *
  have h3 : j = 0 ∨ j = 1 := by omega
  rcases h3 with rfl | rfl
  · rw [if_pos rfl]; decide +kernel
  · rw [if_neg (by decide)]; decide +kernel
abbrev oneS (c : Nat) : Str := ⟨#[c]⟩
theorem sgn_or (x : Int) (i : Nat) : sgnOf x i = 32 ∨ sgnOf x i = 9 := by unfold sgnOf; split <;> simp
theorem strs_of_sgn {x : Int} {t : Tok} : ∀ (c : List Value) (k : Nat), (∀ i y, c[i]? = some y → SgnG (.int x t) (k + i) y) → ∃ ls : List Nat, ls.length = c.length ∧ (∀ d ∈ ls, d = 32 ∨ d = 9) ∧ StrsAre c (ls.map oneS)
  | [], _, _ => ⟨[], rfl, (fun _ h => nomatch h), .nil⟩
  | y :: r, k, h => by
    obtain ⟨t', rfl⟩ := h 0 y rfl x t rfl
    obtain ⟨ls, h1, h2, h3⟩ := strs_of_sgn r (k + 1) (fun i y e => by
      have := h (i + 1) y (by simpa using e)
      rwa [show k + (i + 1) = k + 1 + i from by omega] at this)
    refine ⟨sgnOf x (k + 0) :: ls, by simp [h1], fun d hd => ?_, .cons _ _ h3⟩
    rcases List.mem_cons.mp hd with rfl | hd
    · exact sgn_or _ _
    · exact h2 d hd
theorem chunks_sgn {n : Nat} : ∀ {vs zs : List Value}, (∀ v ∈ vs, ∃ x t, v = Value.int x t) → Chunks SgnG n vs zs → ∃ ls : List Nat, ls.length = vs.length * n ∧ (∀ d ∈ ls, d = 32 ∨ d = 9) ∧ StrsAre zs (ls.map oneS)
  | [], zs, _, h => ⟨[], by simp, (fun _ h => nomatch h), by rw [show zs = [] from h]; exact .nil⟩
  | v :: r, zs, hi, ⟨c0, rest, e, h1, h2, h3⟩ => by
    obtain ⟨x, t, rfl⟩ := hi v (.head _)
    obtain ⟨l1, a1, a2, a3⟩ := strs_of_sgn c0 0 (fun i y e => by simpa using h2 i y e)
    obtain ⟨l2, b1, b2, b3⟩ := chunks_sgn (fun u hu => hi u (.tail _ hu)) h3
    refine ⟨l1 ++ l2, ?_, fun d hd => (List.mem_append.mp hd).elim (a2 d) (b2 d), ?_⟩
    · rw [List.length_append, a1, b1, h1, List.length_cons, Nat.succ_mul]; omega
    · rw [e, List.map_append]; exact a3.append' b3
theorem join_cat : ∀ ys : List Str, (Str.join (Str.ofString "") ys).cps.toList = (ys.map (·.cps.toList)).flatten
  | [] => rfl
  | [x] => by simp [Str.join]
  | x :: y :: r => by
    show (x ++ Str.ofString "" ++ Str.join (Str.ofString "") (y :: r)).cps.toList = _
    have e : Str.ofString "" = Str.empty := by decide +kernel
    have ih := join_cat (y :: r)
    rw [Str.cps_append, Array.toList_append, ih, e, Str.append_empty]
    rfl
theorem joinT_cat (ys : List Str) : (Txt.join (Str.ofString "") ys).cps.toList = (ys.map (·.cps.toList)).flatten := by
  show (PySem.Builtin.Str.glued _ _).cps.toList = _
  rw [StrLaws.glued_eq_join]; exact join_cat ys
theorem join_ones (ls : List Nat) : (Txt.join (Str.ofString "") (ls.map oneS)).cps.toList = ls := by
  rw [joinT_cat]
  induction ls with
  | nil => rfl
  | cons c r ih => simpa using ih
theorem ls_len (ls : List Nat) : (ls.map ((·.length) ∘ oneS)).sum = ls.length := by
  induction ls with
  | nil => rfl
  | cons c r ih => simp only [List.map_cons, List.sum_cons, List.length_cons, ih]; show 1 + _ = _; omega
abbrev lawCells (ci cm ct cd : Addr) : List (Str × Addr) := [(Str.ofString "ink", ci), (Str.ofString "mark", cm), (Str.ofString "last", ct), (Str.ofString "lead", cd)]
theorem slice_to {x : Str} {j : Int} (h0 : 0 ≤ j) (h1 : j ≤ (x.length : Int)) : (Txt.slice x none (some j)).cps.toList = x.cps.toList.take j.toNat := by
  have := eq_of_beq (slice_closes_to (x := x) (j := j) ⟨h0, by simpa [PySem.Str.length] using h1⟩)
  rw [this]; simp
theorem slice_clip (x : Str) {i j : Int} (h0 : 0 ≤ i) (h1 : 0 ≤ j) : Txt.slice x (some i) (some j) = Txt.slice x (some (min i x.length)) (some (min j x.length)) := by
  have e : strSliceIndices (some i) (some j) 1 x.length = strSliceIndices (some (min i x.length)) (some (min j x.length)) 1 x.length := by
    unfold PySem.Builtin.Str.strSliceIndices
    have a1 : ¬ i < 0 := Int.not_lt.mpr h0
    have a2 : ¬ j < 0 := Int.not_lt.mpr h1
    have a3 : ¬ min i (x.length : Int) < 0 := Int.not_lt.mpr (Int.le_min.mpr ⟨h0, Int.natCast_nonneg _⟩)
    have a4 : ¬ min j (x.length : Int) < 0 := Int.not_lt.mpr (Int.le_min.mpr ⟨h1, Int.natCast_nonneg _⟩)
    simp only [a1, a2, a3, a4, if_false, if_pos (show (1 : Int) > 0 by decide), Int.min_assoc, Int.min_self]
  unfold Txt.slice
  rw [e]
theorem slice_cut {x : Str} {i j : Int} (h0 : 0 ≤ i) (h1 : i ≤ j) : (Txt.slice x (some i) (some j)).cps.toList = (x.cps.toList.drop i.toNat).take (j - i).toNat := by
  have hl : x.cps.toList.length = x.length := by simp [PySem.Str.length]
  have key : ∀ {i j : Int}, 0 ≤ i → i ≤ j → j ≤ (x.length : Int) → (Txt.slice x (some i) (some j)).cps.toList = (x.cps.toList.drop i.toNat).take (j - i).toNat := by
    intro i j h0 h1 h2
    have := eq_of_beq (slice_closes (x := x) (i := i) (j := j) ⟨h0, h1, h2⟩)
    rw [this]
  rcases Int.le_total j x.length with h | h
  · exact key h0 h1 h
  · rw [slice_clip x h0 (Int.le_trans h0 h1), Int.min_eq_right h]
    rcases Int.le_total i x.length with h2 | h2
    · rw [Int.min_eq_left h2, key h0 h2 (Int.le_refl _), List.take_of_length_le, List.take_of_length_le]
      · rw [List.length_drop, hl]; clear key hl; omega
      · rw [List.length_drop, hl]; clear key hl; omega
    · rw [Int.min_eq_right h2, key (Int.natCast_nonneg _) (Int.le_refl _) (Int.le_refl _), List.drop_of_length_le, List.drop_of_length_le]
      · rw [List.take_nil, List.take_nil]
      · rw [hl]; clear key hl; omega
      · rw [hl]; clear key hl; omega
theorem listLoop {A : Around} {env : Env} {x : Str} {body : List Stmt} {l : Addr} {items : List Value} {m₀ : Str → Option Value} {news : List (Addr × Obj)} (J : Nat → (Str → Option Value) → List (Addr × Obj) → Prop)
    (hh : A.handled = none) (hl : s.heap.IsList l items.toArray) (hl0 : h₀.get? l = none) (hlL : @Ne Nat env.locals l) (F : Fr h₀ env.locals s.heap m₀) (N : News h₀ env.locals s.heap news) (hj : J 0 m₀ news) (hJl : ∀ i m₁ n₁, J i m₁ n₁ → ∀ p ∈ n₁, @Ne Nat p.1 l)
    (turn : ∀ i v m₁ news₁ h tk own, items[i]? = some v → OwnOff own (news₁.map (·.1)) → J i m₁ news₁ →
      Fr h₀ env.locals h (fun y => if y = x then some v else m₁ y) → News h₀ env.locals h (news₁ ++ own) →
      wpAny (model prog w) A (execs body env) (InvPostG h₀ env.locals (J (i + 1)) own { s with heap := h, toks := tk } Q) E { s with heap := h, toks := tk })
    (done : ∀ m₁ news₁ h tk, J items.length m₁ news₁ → Fr h₀ env.locals h m₁ → News h₀ env.locals h news₁ → Q .next { s with heap := h, toks := tk }) :
    wpAny (model prog w) A (pyIter (.ref l)) (fun it s₂ => LoopAtV prog w A h₀ env x body Q E it s₂) E s := by
  obtain ⟨ol, hol, hr⟩ := id hl
  have hlt : l < s.heap.objs.size := Heap.lt_size hol
  have hL : @Ne Nat env.locals s.heap.objs.size := Nat.ne_of_lt F.ns.lt
  have hI0 := next_is_new F
  have hnI : ∀ p ∈ news, @Ne Nat p.1 s.heap.objs.size := fun p hp => Nat.ne_of_lt (Heap.lt_size (N p hp).1)
  refine wpAny_pyIter_list hl ?_
  have W := Walks.list (prog := prog) (w := w) hh s.heap.objs.size l (Nat.ne_of_lt hlt) items.toArray
  have eP : (fun (i : Nat) (v : Value) => items.toArray[i]? = some v) = fun i v => items[i]? = some v := by
    funext i v; simp
  rw [eP] at W
  refine ⟨_, _, _, _, _, _, m₀, news, J, rfl, W, fun h => ?_, fun b hb => by rw [List.mem_singleton.mp hb]; exact hI0, fun p hp h => hnI p hp (List.mem_singleton.mp h), ⟨⟨_, Heap.get?_push_size _ rfl, rfl, rfl⟩, hl.at fun o e => Heap.get?_push_of_some _ e⟩, F.push _, (fun p hp => ⟨Heap.get?_push_of_some _ (N p hp).1, (N p hp).2⟩), hj, ?_, ?_⟩
  · rcases List.mem_cons.mp h with h | h
    · exact hL h
    · exact hlL (List.mem_singleton.mp h)
  · rintro i v m₁ news₁ s₁ own ⟨hh', tk', rfl⟩ hin hP hJ hoff hown _ hfp hst' F₁ N₁
    obtain ⟨⟨oI, hoI, _⟩, _⟩ := hst'
    have hIown : (s.heap.objs.size, oI) ∈ own := hfp _ (.head _) hI0 _ hoI
    have hsep : OwnOff own (news₁.map (·.1)) := by
      intro p hp b hb e
      obtain ⟨q, hq, rfl⟩ := List.mem_map.mp hb
      have h9 := hown p hp
      rw [e] at h9
      rcases List.mem_cons.mp h9 with h9 | h9
      · exact hoff q hq (by rw [h9]; exact .head _)
      · exact hJl _ _ _ hJ q hq (List.mem_singleton.mp h9)
    have N₂ : News h₀ env.locals hh' (news₁ ++ own) := fun p hp => N₁ p ((List.mem_append.mp hp).elim (fun h => List.mem_append.mpr (.inr h)) fun h => List.mem_append.mpr (.inl h))
    refine wpAny_mono (turn i v m₁ news₁ hh' tk' own hP hsep hJ F₁ N₂) (fun f s₂ p => ?_) fun _ _ e => e
    have fin : InvEndG h₀ env.locals (J (i + 1)) own { s with heap := hh', toks := tk' } s₂ → LoopStepU h₀ env.locals [s.heap.objs.size] own (J (i + 1)) { s with heap := hh', toks := tk' } .next s₂ := by
      rintro ⟨h', tk, m', news', nx, e, F', N', hn, ho, ha, hm⟩
      refine ⟨rfl, h', tk, m', nx, e, F', fun p hp => N' p ((List.mem_append.mp hp).elim (ho p) (hn p)), fun p hp hq => ?_, hm⟩
      exact ha _ hIown p.1 (List.mem_map.mpr ⟨p, hp, rfl⟩) (List.mem_singleton.mp hq).symm
    cases f with
    | ret v => exact .ret p
    | brk => exact .brk p
    | next => exact .next (fin p)
    | cont => exact .cont (fin p)
  · rintro h' tk m' news' F' N' _ hJ
    exact done m' news' h' tk (by simpa using hJ) F' N'
noncomputable abbrev lawA (dp un : Nat) (gd : Option (List Code)) (L fa : Addr) (ccd : Value) (ci cm ct cd : Addr) (outer : List Env) : Around := ktrTop dp un gd (Str.ofString "law") lawScope L fa ccd (lawCells ci cm ct cd) outer
noncomputable abbrev lawE (L fa : Addr) (ccd : Value) (ci cm ct cd : Addr) : Env := envX (Str.ofString "law") lawScope L fa ccd (lawCells ci cm ct cd)
def LeadOk (lead mark : Str) (last : Nat) (n6 : Int) : Prop :=
  17 ≤ lead.length ∧ lead.length ≤ 20 ∧ (∀ c ∈ lead.cps.toList, c = 32 ∨ c = 9) ∧ 2 ≤ last ∧ last ≤ 5 ∧ (mark = Str.ofString "" ∨ mark = Str.ofString ".") ∧ 0 ≤ n6 ∧ n6 < 1000000
def P5 (h₀ : Heap) (L ci cm ct cd : Addr) (lead mark : Str) (last : Nat) (n6 : Int) (h : Heap) : Prop :=
  ∃ u rn nnn n0 n1 n2 n3 n4 n5 t0 t1 t2 t3 t4 t5 t6 oi om ot od tl tt tm vi,
    Fr h₀ L h (kstB u [(Str.ofString "numbers", Value.ref rn)]) ∧
    News h₀ L h [(rn, listOf #[Value.int n0 t0, Value.int n1 t1, Value.int n2 t2, Value.int n3 t3, Value.int n4 t4, Value.int n5 t5, Value.int n6 t6] nnn), (ci, oi), (cm, om), (ct, ot), (cd, od)] ∧
    oi.data = Data.cell vi ∧ om.data = Data.cell (some (Value.str mark tm)) ∧ ot.data = Data.cell (some (Value.int last tt)) ∧ od.data = Data.cell (some (Value.str lead tl)) ∧
    @Ne Nat ci rn ∧ @Ne Nat cm rn ∧ @Ne Nat ct rn ∧ @Ne Nat cd rn
def P10 (h₀ : Heap) (L ci cm ct cd : Addr) (lead left mark : Str) (last : Nat) (h : Heap) : Prop :=
  ∃ u oi om ot od tl tt tm vi tf,
    Fr h₀ L h (kstB u [(Str.ofString "left", Value.str left tf)]) ∧
    News h₀ L h [(ci, oi), (cm, om), (ct, ot), (cd, od)] ∧
    oi.data = Data.cell vi ∧ om.data = Data.cell (some (Value.str mark tm)) ∧ ot.data = Data.cell (some (Value.int last tt)) ∧ od.data = Data.cell (some (Value.str lead tl))
end
end
section
section
variable {prog p : Program} {loose : List Str} {w : World} {mean : ExcName → Option Value} {mg mb : Str → Option Value}
  {dp un : Nat} {gd : Option (List Code)} {fa : Addr} {ccd : Value} {outer : List Env} {A₀ : Around} {base h₀ : Heap} {L : Addr} {m : Str → Option Value} {s : Shared} {E : Value → Shared → Prop} {Q : Flow → Shared → Prop}
theorem cut_eq {n5 : Int} (h : 0 ≤ n5 ∧ n5 < 1000000) : 20 - (n5.fdiv 4).fmod 4 = ((20 - n5.toNat / 4 % 4 : Nat) : Int) := by
  rw [Int.fdiv_eq_ediv_of_nonneg _ (by decide), Int.fmod_eq_emod_of_nonneg _ (by decide)]
  omega
theorem last_eq {n5 : Int} (h : 0 ≤ n5 ∧ n5 < 1000000) : ((2 + n5.toNat % 4 : Nat) : Int) = 2 + n5.fmod 4 := by
  rw [Int.fmod_eq_emod_of_nonneg _ (by decide)]
  omega
theorem lead_toList {n5 : Int} {x : Str} (h : 0 ≤ n5 ∧ n5 < 1000000) (hx : x.length = 20) : (Txt.slice x none (some (20 - (n5.fdiv 4).fmod 4))).cps.toList = x.cps.toList.take (20 - n5.toNat / 4 % 4) := by
  rw [cut_eq h, slice_to (by omega) (by rw [hx]; omega)]; simp
theorem lead_len {n5 : Int} {x : Str} (h : 0 ≤ n5 ∧ n5 < 1000000) (hx : x.length = 20) : 17 ≤ (Txt.slice x none (some (20 - (n5.fdiv 4).fmod 4))).length ∧ (Txt.slice x none (some (20 - (n5.fdiv 4).fmod 4))).length ≤ 20 := by
  have e := congrArg List.length (lead_toList h hx)
  have e2 : x.cps.toList.length = 20 := by simpa [PySem.Str.length] using hx
  rw [List.length_take, e2, Array.length_toList] at e
  show 17 ≤ Array.size _ ∧ Array.size _ ≤ 20
  omega
theorem lead_all {n5 : Int} {x : Str} {ls : List Nat} (h : 0 ≤ n5 ∧ n5 < 1000000) (hx : x.length = 20) (e : x.cps.toList = ls) (hs : ∀ d ∈ ls, d = 32 ∨ d = 9) : ∀ c ∈ (Txt.slice x none (some (20 - (n5.fdiv 4).fmod 4))).cps.toList, c = 32 ∨ c = 9 := by
  rw [lead_toList h hx, e]
  exact fun c hc => hs c (List.mem_of_mem_take hc)
set_option maxHeartbeats 4000000 in
theorem law1 {ci cm ct cd l : Addr} {oi om ot od : Obj} {vs : List Value} {ns : List Int} (B : Below A₀ base outer h₀) (F : Fr h₀ L s.heap (kstB m [(Str.ofString "script", .ref l)])) (X : (hd.heap_39 w.params).In h₀) (T : Top p loose mean mg mb h₀)
   (N : News h₀ L s.heap [(ci, oi), (cm, om), (ct, ot), (cd, od)]) (hoi : oi.data = .cell none) (hom : om.data = .cell none) (hot : ot.data = .cell none) (hod : od.data = .cell none)
   (hne : cd < ct ∧ ct < cm ∧ cm < ci) (hdp : dp + 20 < recursionLimit) (hl : h₀.IsList l vs.toArray) (hv : IntsAre vs ns) (hn : ns.length ≤ 63)
   (hN : ∀ h' tk lead mark last n6, LeadOk lead mark last n6 → P5 h₀ L ci cm ct cd lead mark last n6 h' → wpAny (model prog w) (ktrTop dp un gd (Str.ofString "law") lawScope L fa ccd (lawCells ci cm ct cd) outer) (execs (lawBody.drop 5) (envX (Str.ofString "law") lawScope L fa ccd (lawCells ci cm ct cd))) Q E {s with heap := h', toks := tk}) :
   wpAny (model prog w) (ktrTop dp un gd (Str.ofString "law") lawScope L fa ccd (lawCells ci cm ct cd) outer) (execs lawBody (envX (Str.ofString "law") lawScope L fa ccd (lawCells ci cm ct cd))) Q E s := by
  dsimp only [lawBody, lawScope, PySem.Challenge.pw_rs0092_01]
  have hne1 := ltN hne.1
  have hne2 := ltN hne.2.1
  have hne3 := ltN hne.2.2
  clear hne
  k_steps
  refine numbers_call B F X T rfl (by ktr_room) (hl.at fun o e => F.keep _ o e) hv hn ?_
  intro rn vn n7 nnn h1 tk1 hE1 hr1 hr0 hI7 hlen7 hbd7
  obtain ⟨n0, n1, n2, n3, n4, n5, n6, t0, t1, t2, t3, t4, t5, t6, rfl, rfl⟩ := ints7 hI7 hlen7
  have hd1 := News.neNew N hr0 (.head _)
  have hd2 := News.neNew N hr0 (.tail _ (.head _))
  have hd3 := News.neNew N hr0 (.tail _ (.tail _ (.head _)))
  have hd4 := News.neNew N hr0 (.tail _ (.tail _ (.tail _ (.head _))))
  have N1 := News.app (News.new F hr0 hr1) (News.grown N hE1)
  have F1 := Fr.keeps F hE1
  clear F N hE1 hr1 hr0
  dsimp only [List.cons_append, List.nil_append] at N1
  k_steps
  refine nested_comp (cl := []) (by with_unfolding_all rfl) rfl (by decide) ?_
  k_steps
  walk1
  k_steps
  rename Fr _ _ _ _ => F2
  rename News _ _ _ _ => N2
  unfold NestAt
  refine nested_block (n := 4) (G := SgnG) rfl (by decide) rfl rfl rfl (by decide) (News.isList N2 (.head _)) (by rw [sizeLine_eq]; simp) (by decide) (by decide) (fun _ _ => by rfl) ?_ ?_ ?_
  · intro C s₂ E' hk
    have F3 := Fr.keeps F2 hk
    have N3 := News.grown N2 hk
    clear F2 N2
    refine wpAny_mono (Q := fun xv s₃ => Hold ((∃ r t u v, xv = Value.ref r ∧ IsRange s₃.heap r 0 ((4 : Nat) : Int) 1 t u v) ∧ Keeps s₂ s₃)) ?_ (fun _ _ h => h) (fun _ _ h => h)
    k_steps
    exact Hold.mk ⟨⟨_, _, _, _, rfl, by assumption⟩, _, _, rfl, by assumption⟩
  · intro C vx i t s₂ m₂ E' hvx hi hns hk hx
    obtain ⟨x, tx, rfl⟩ : ∃ x tx, vx = Value.int x tx := by
      simp at hvx
      rcases hvx with rfl | rfl | rfl | rfl | rfl <;> exact ⟨_, _, rfl⟩
    clear F2 N2
    refine wpAny_mono (Q := fun y s₃ => Hold (SgnG (.int x tx) i y ∧ Keeps s₂ s₃)) ?_ (fun _ _ h => h) (fun _ _ h => h)
    k_steps
    rw [sgn_item]
    exact Hold.mk ⟨fun x1 t1 e => by cases e; exact ⟨_, rfl⟩, _, _, rfl, fun _ _ e => e⟩
  · intro D h3 tk3 zs hD hpl hch hE3
    obtain ⟨ls, hls, hlss, hzs⟩ := chunks_sgn (by
      intro v hv
      simp at hv
      rcases hv with rfl | rfl | rfl | rfl | rfl <;> exact ⟨_, _, rfl⟩) hch
    obtain ⟨nz, hpl⟩ := hpl
    have hz1 := hzs.length
    simp at hls
    have N3 := News.app (News.new F2 hD hpl) (News.sub (News.grown N2 hE3) (fun p hp => .tail _ hp))
    have F3 := Fr.keeps F2 hE3
    clear F2 N2 hE3 hpl hch
    dsimp only [List.cons_append, List.nil_append] at N3
    k_steps
    refine join_list (News.isList N3 (.head _)) hzs (by rw [List.length_map, show (Str.ofString "").length = 0 from by decide +kernel, hls]; simp [ls_len]; omega) (fun tj kj => ?_)
    generalize hj : Txt.join (Str.ofString "") (ls.map oneS) = lead0
    have hj1 : lead0.cps.toList = ls := by rw [← hj]; exact join_ones ls
    have hj2 : lead0.length = 20 := by
      show lead0.cps.size = 20
      rw [← Array.length_toList, hj1]; exact hls
    have N4 := News.sub (news := [(rn, _), (ci, oi), (cm, om), (ct, ot), (cd, od)]) N3 (fun p hp => .tail _ hp)
    clear hzs hj N3
    have hb5 := hbd7 n5 (by simp)
    have hb6 := hbd7 n6 (by simp)
    clear hbd7 hlen7 hI7 hD hz1
    k_steps
    · rename Fr _ _ _ _ => F5
      rename News _ _ _ _ => N5
      refine hN _ _ _ _ (2 + n5.toNat % 4) n6 ⟨(lead_len hb5 hj2).1, (lead_len hb5 hj2).2, lead_all hb5 hj2 hj1 hlss, by omega, by omega, .inl rfl, hb6.1, hb6.2⟩ ⟨_, rn, nnn, n0, n1, n2, n3, n4, n5, t0, t1, t2, t3, t4, t5, t6, _, _, _, _, _, _, _, _, Fr.has ⟨rfl, trivial⟩ F5, News.sub N5 (fun p hp => .tail _ hp), by assumption, by assumption, (by rw [last_eq hb5]; assumption), by assumption, hd1, hd2, hd3, hd4⟩
    · k_steps
      rename Fr _ _ _ _ => F5
      rename News _ _ _ _ => N5
      refine hN _ _ _ _ (2 + n5.toNat % 4) n6 ⟨(lead_len hb5 hj2).1, (lead_len hb5 hj2).2, lead_all hb5 hj2 hj1 hlss, by omega, by omega, .inr rfl, hb6.1, hb6.2⟩ ⟨_, rn, nnn, n0, n1, n2, n3, n4, n5, t0, t1, t2, t3, t4, t5, t6, _, _, _, _, _, _, _, _, Fr.has ⟨rfl, trivial⟩ F5, News.sub N5 (fun p hp => .tail _ hp), by assumption, by assumption, (by rw [last_eq hb5]; assumption), by assumption, hd1, hd2, hd3, hd4⟩
end
end
section
open PySem.Builtin.Str (strSub)
theorem drop_tw (p : Nat → Bool) : ∀ l : List Nat, l.drop (l.takeWhile p).length = l.dropWhile p
  | [] => rfl
  | c :: r => by
    cases hc : p c
    · rw [List.takeWhile_cons_of_neg (by simp [hc]), List.dropWhile_cons_of_neg (by simp [hc])]; rfl
    · rw [List.takeWhile_cons_of_pos hc, List.dropWhile_cons_of_pos hc]; exact drop_tw p r
theorem lstrip_list (x : Str) : (Txt.lstrip x).cps.toList = x.cps.toList.dropWhile Unicode.isSpace := by
  rw [Txt.lstrip, PyProof.Rows.stripBy_eq, StrLaws.strSub_toList]
  simp only [stripLo, stripHi, if_true]
  have e : x.length = x.cps.toList.length := by simp [PySem.Str.length]
  have h : ∀ l : List Nat, (l.drop (l.takeWhile Unicode.isSpace).length).take (l.length - (l.takeWhile Unicode.isSpace).length) = l.dropWhile Unicode.isSpace := by
    intro l
    rw [List.take_of_length_le (by simp), drop_tw]
  simpa [e] using h x.cps.toList
theorem sp32 : Unicode.isSpace 32 = true := by decide +kernel
theorem sp9 : Unicode.isSpace 9 = true := by decide +kernel
theorem sp120 : Unicode.isSpace 120 = false := by decide +kernel
theorem sp121 : Unicode.isSpace 121 = false := by decide +kernel
theorem drop_white : ∀ {l r : List Nat}, (∀ c ∈ l, c = 32 ∨ c = 9) → (l ++ r).dropWhile Unicode.isSpace = r.dropWhile Unicode.isSpace
  | [], _, _ => rfl
  | c :: l, r, h => by
    have h1 : Unicode.isSpace c = true := by
      rcases h c (.head _) with rfl | rfl
      · exact sp32
      · exact sp9
    rw [List.cons_append, List.dropWhile_cons_of_pos h1]
    exact drop_white fun d hd => h d (.tail _ hd)
theorem str_ext {a b : Str} (h : a.cps.toList = b.cps.toList) : a = b := PySem.Str.ext' (Array.toList_inj.mp h)
theorem lstrip_word {lead : Str} (h : ∀ c ∈ lead.cps.toList, c = 32 ∨ c = 9) {c : Nat} (hc : Unicode.isSpace c = false) : Txt.lstrip (lead ++ ⟨#[c]⟩) = ⟨#[c]⟩ := by
  apply str_ext
  rw [lstrip_list, PySem.Str.cps_append, Array.toList_append, drop_white h, List.dropWhile_cons_of_neg (by simp [hc])]
theorem eX : Str.ofString "x" = oneS 120 := by decide +kernel
theorem eY : Str.ofString "y" = oneS 121 := by decide +kernel
theorem strs_reads {h : Heap} : ∀ {vs : List Value} {xs : List Str}, StrsAre vs xs → ∃ as, ReadsAll h vs (xs.map PyData.str) as
  | _, _, .nil => ⟨_, .nil⟩
  | _, _, .cons y t r => by
    obtain ⟨as, ih⟩ := strs_reads (h := h) r
    exact ⟨_, .cons (.str y t) ih⟩
theorem canLay_strs : ∀ {xs : List Str}, (∀ x ∈ xs, ∀ c ∈ x.cps.toList, c < 1114112) → PyData.canLayAll0 (xs.map PyData.str) = true
  | [], _ => rfl
  | x :: r, h => by
    show (PyData.canLay0 (.str x) && PyData.canLayAll0 (r.map PyData.str)) = true
    rw [canLay_strs fun y hy => h y (.tail _ hy), Bool.and_true]
    show (x.cps.all fun c => decide (c < 0x110000)) = true
    rw [Array.all_eq_true]
    intro i hi
    exact decide_eq_true (h x (.head _) _ (by simp))
theorem depth_strs : ∀ xs : List Str, PyData.depthAll (xs.map PyData.str) = 0
  | [] => rfl
  | x :: r => by
    show max (PyData.depth (.str x)) (PyData.depthAll (r.map PyData.str)) = 0
    rw [depth_strs r]; rfl
theorem ne_same {prog : Program} {w : World} {A : Around} {E : Value → Shared → Prop} {s : Shared} {a b : Value} {d : PyData} {as bs : List Addr} {Q : Value → Shared → Prop} (ra : Reads s.heap a d as) (rb : Reads s.heap b d bs) (h1 : d.canLay0 = true) (h2 : d.depth ≤ 64)
    (hu : A.units + 64 < cLine) (h : Q (.bool false) s) : wpAny (model prog w) A (compareOp .NotEq a b) Q E s := by
  have hs : SeqAt.shaped d = true := by
    show (d.canLay0 && decide (d.depth ≤ 64)) = true
    rw [h1, decide_eq_true h2]; rfl
  refine SeqAt.compareNe_shaped ra rb hs hs hu ?_
  rw [SeqAt.eqv_refl d h1]
  exact h
theorem ne_strs {prog : Program} {w : World} {A : Around} {E : Value → Shared → Prop} {s : Shared} {Q : Value → Shared → Prop} {l1 l2 : Addr} {vs ws : List Value} {n1 n2 : Nat} {xs : List Str} (g1 : s.heap.get? l1 = some (listOf vs.toArray n1)) (g2 : s.heap.get? l2 = some (listOf ws.toArray n2))
    (hv : StrsAre vs xs) (hw : StrsAre ws xs) (hx : ∀ x ∈ xs, ∀ c ∈ x.cps.toList, c < 1114112) (hu : A.units + 64 < cLine) (h : Q (.bool false) s) : wpAny (model prog w) A (compareOp .NotEq (.ref l1) (.ref l2)) Q E s := by
  obtain ⟨as, r1⟩ := strs_reads (h := s.heap) hv
  obtain ⟨bs, r2⟩ := strs_reads (h := s.heap) hw
  refine ne_same (d := .list (xs.map PyData.str)) (.list g1 rfl rfl (by simpa using r1)) (.list g2 rfl rfl (by simpa using r2)) (canLay_strs hx) ?_ hu h
  show PyData.depthAll (xs.map PyData.str) + 1 ≤ 64
  rw [depth_strs]; decide
theorem upd_head {h₀ h h' : Heap} {L r : Addr} {m : Str → Option Value} {o o' : Obj} {rest : List (Addr × Obj)} (F : Fr h₀ L h m) (N : News h₀ L h ((r, o) :: rest)) (hr : ∀ p ∈ rest, @Ne Nat p.1 r)
    (hk : ∀ b o, b ≠ r → h.get? b = some o → h'.get? b = some o) (hn : h'.get? r = some o') : Fr h₀ L h' m ∧ News h₀ L h' ((r, o') :: rest) := by
  have h1 := N _ (.head _)
  have hk' : ∀ b o, b ∉ [r] → h.get? b = some o → h'.get? b = some o := fun b o hb e => hk b o (fun q => hb (by rw [q]; exact .head _)) e
  refine ⟨Fr.but F hk' (fun q => h1.2.1 (List.mem_singleton.mp q).symm) (fun b hb => by rw [List.mem_singleton.mp hb]; exact h1.2.2), fun p hp => ?_⟩
  rcases List.mem_cons.mp hp with rfl | hp
  · exact ⟨hn, h1.2⟩
  · have h2 := N p (.tail _ hp)
    exact ⟨hk _ _ (hr p hp) h2.1, h2.2⟩
theorem own_ne {own : List (Addr × Obj)} {l : List Addr} {r : Addr} (h : OwnOff own l) (hr : r ∈ l) : ∀ p ∈ own, @Ne Nat p.1 r := fun p hp e => h p hp r hr e
theorem all_ne5 {own : List (Addr × Obj)} {r a b c d e : Addr} {oa ob oc od oe : Obj} (h1 : @Ne Nat a r) (h2 : @Ne Nat b r) (h3 : @Ne Nat c r) (h4 : @Ne Nat d r) (h5 : @Ne Nat e r) (ho : ∀ p ∈ own, @Ne Nat p.1 r) : ∀ p ∈ (a, oa) :: (b, ob) :: (c, oc) :: (d, od) :: (e, oe) :: own, @Ne Nat p.1 r := by
  intro p hp
  simp only [List.mem_cons] at hp
  rcases hp with rfl | rfl | rfl | rfl | rfl | hp
  · exact h1
  · exact h2
  · exact h3
  · exact h4
  · exact h5
  · exact ho p hp
end
section
section
variable {prog p : Program} {loose : List Str} {w : World} {mean : ExcName → Option Value} {mg mb : Str → Option Value}
  {dp un : Nat} {gd : Option (List Code)} {fa : Addr} {ccd : Value} {outer : List Env} {A₀ : Around} {base h₀ : Heap} {L : Addr} {m : Str → Option Value} {s : Shared} {E : Value → Shared → Prop} {Q : Flow → Shared → Prop}
set_option maxHeartbeats 4000000 in
theorem law2 {ci cm ct cd : Addr} {lead mark : Str} {last : Nat} {n6 : Int} (B : Below A₀ base outer h₀) (X : (hd.heap_39 w.params).In h₀) (T : Top p loose mean mg mb h₀)
   (hne : cd < ct ∧ ct < cm ∧ cm < ci) (hdp : dp + 20 < recursionLimit) (hun : un + 64 < cLine) (hE : PassesOwn (model prog w) (lawA dp un gd L fa ccd ci cm ct cd outer) (lawE L fa ccd ci cm ct cd) E) (hok : LeadOk lead mark last n6) (hp : P5 h₀ L ci cm ct cd lead mark last n6 s.heap)
   (hN : ∀ h' tk, P5 h₀ L ci cm ct cd lead mark last n6 h' → wpAny (model prog w) (lawA dp un gd L fa ccd ci cm ct cd outer) (execs (lawBody.drop 8) (lawE L fa ccd ci cm ct cd)) Q E {s with heap := h', toks := tk}) :
   wpAny (model prog w) (lawA dp un gd L fa ccd ci cm ct cd outer) (execs (lawBody.drop 5) (lawE L fa ccd ci cm ct cd)) Q E s := by
  have hne1 := ltN hne.1
  have hne2 := ltN hne.2.1
  have hne3 := ltN hne.2.2
  clear hne
  obtain ⟨u, rn, nnn, n0, n1, n2, n3, n4, n5, t0, t1, t2, t3, t4, t5, t6, oi, om, ot, od, tl, tt, tm, vi, F, N, hoi, hom, hot, hod, hd1, hd2, hd3, hd4⟩ := hp
  obtain ⟨ok1, ok2, ok3, ok4, ok5, ok6, ok7, ok8⟩ := id hok
  dsimp only [lawBody, lawScope, PySem.Challenge.pw_rs0092_01, List.drop]
  walk1
  k_steps
  rename Fr _ _ _ _ => F1
  refine For_invVF F1 rfl rfl ?_ (hE := hE)
  k_steps
  rename Fr _ _ _ _ => F2
  rename News _ _ _ _ => N2
  rename_i lb _ l1a _ lw _ l1b
  have hl2 := News.isList N2 (.head _)
  have hw0 := (N2 _ (.head _)).2
  generalize hon : listOf #[Value.int n0 t0, Value.int n1 t1, Value.int n2 t2, Value.int n3 t3, Value.int n4 t4, Value.int n5 t5, Value.int n6 t6] nnn = on at N2
  refine listLoop (items := [_, _]) (fun i m news => ∃ vb nb, StrsAre vb (([oneS 120, oneS 121] : List Str).take i) ∧ news = [(lb, listOf vb.toArray nb), (rn, on), (ci, oi), (cm, om), (ct, ot), (cd, od)] ∧ Has m [(Str.ofString "bare", .ref lb), (Str.ofString "numbers", .ref rn)]) rfl hl2 hw0.2 (fun e => hw0.1 e.symm) F2 (News.sub N2 (fun p hp => .tail _ hp)) ⟨[], 0, .nil, rfl, rfl, rfl, trivial⟩ ?_ ?_ ?_
  · rintro i m₁ n₁ ⟨vb, nb, _, rfl, _⟩ p hp
    simp only [List.mem_cons, List.mem_nil_iff, or_false] at hp
    rcases hp with rfl | rfl | rfl | rfl | rfl | rfl <;> dsimp only <;> omega
  · rintro i v m₁ news₁ h tk own hv hoff ⟨vb, nb, hvb, rfl, hm⟩ F3 N3
    clear F2 N2 hl2 hw0
    replace F3 : Fr h₀ L h _ := Fr.hasX hm F3
    replace N3 : News h₀ L h _ := N3
    obtain ⟨c, tc, rfl, hc, hstr⟩ : ∃ c tc, v = Value.str (oneS c) tc ∧ Unicode.isSpace c = false ∧ ([oneS 120, oneS 121] : List Str).take (i + 1) = ([oneS 120, oneS 121] : List Str).take i ++ [oneS c] := by
      match i, hv with
      | 0, hv => exact ⟨120, _, by rw [← eX]; simpa using hv.symm, sp120, rfl⟩
      | 1, hv => exact ⟨121, _, by rw [← eY]; simpa using hv.symm, sp121, rfl⟩
    have hxl : (lead ++ oneS c).length ≤ 1000 := by
      rw [PySem.Str.length_append]; show _ + 1 ≤ _; omega
    k_steps
    rename Fr _ _ _ _ => F4
    rename News _ _ _ _ => N4
    have hb0 : ∀ y ∈ ([oneS 120, oneS 121] : List Str).take i, y = oneS 120 ∨ y = oneS 121 := fun y hy => by
      have := List.mem_of_mem_take hy
      simpa using this
    have hvl : vb.length ≤ 2 := by
      rw [hvb.length, List.length_take]; exact Nat.min_le_right _ _
    refine append_call B F4 X T rfl (News.sub N4 (fun p hp => by rw [List.mem_singleton.mp hp]; exact .head _)) hvb (by omega) (by ktr_room) (lead ++ oneS c) (Str.ofString "") 0 _ _ 196 hxl (by decide +kernel) (fun y hy => by rcases hb0 y hy with rfl | rfl <;> exact (by decide : (1 : Nat) ≤ 1000)) (.inl rfl) (.inr ⟨rfl, rfl, rfl⟩) ?_
    intro vs' n' h5 tk5 hs5 hk5 hr5
    have hma : maxApp (([oneS 120, oneS 121] : List Str).take i) (lead ++ oneS c) 0 (Str.ofString "") = ([oneS 120, oneS 121] : List Str).take (i + 1) := by
      rw [hstr, maxApp, show Txt.lstrip (lead ++ oneS c) = oneS c from lstrip_word ok3 hc]
      cases hg : (([oneS 120, oneS 121] : List Str).take i).getLast? with
      | none => rw [List.getLast?_eq_none_iff.mp hg]; rfl
      | some y =>
        dsimp only
        rw [if_neg]
        rw [PySem.Str.length_append]
        have : (oneS c).length = 1 := rfl
        omega
    rw [hma] at hs5
    obtain ⟨F5, N5⟩ := upd_head F4 N4 (all_ne5 (by omega) (by omega) (by omega) (by omega) (by omega) (own_ne hoff (.head _))) hk5 hr5
    clear F4 N4 hk5 hr5
    k_steps
    exact endG _ (by assumption) (by assumption) ⟨_, _, hs5, rfl, rfl, rfl, trivial⟩ hoff (fun p hp => List.mem_append_left _ hp) (fun p hp => List.mem_append_right _ hp)
  · rintro m₁ news₁ h tk ⟨vb, nb, hvb, rfl, hm⟩ F3 N3
    clear F2 N2 hl2 hw0
    replace F3 : Fr h₀ L h _ := Fr.has hm F3
    replace N3 : News h₀ L h _ := N3
    obtain ⟨tx, ty, rfl⟩ : ∃ tx ty, vb = [Value.str (oneS 120) tx, Value.str (oneS 121) ty] := by
      cases hvb with
      | cons _ t1 h => cases h with
        | cons _ t2 h => cases h; exact ⟨t1, t2, rfl⟩
    k_steps
    walk1
    k_steps
    rename News _ _ _ _ => N4
    refine hN _ _ ⟨_, rn, nnn, n0, n1, n2, n3, n4, n5, t0, t1, t2, t3, t4, t5, t6, _, _, _, _, _, _, _, _, Fr.has ⟨rfl, trivial⟩ (by assumption), News.sub N4 (fun p hp => ?_), hoi, hom, hot, hod, hd1, hd2, hd3, hd4⟩
    rw [hon] at hp
    exact .tail _ (.tail _ hp)
end
end
section
open PySem.Builtin.Str (strSub occurrences partsBetween)
open PySem.StrLaws (At ChainG partsFrom)
/-- the rows of the text -/
def rowS (ink mark : Str) (e : List Nat) : Str := e.foldl (fun r c => r ++ (mark ++ (oneS c ++ ink))) ink
def chunkAt (n : Nat) (l : List Nat) (q : Nat) : List Nat := (l.drop (q * n + 1)).take (n - 1)
def cntOf (n : Nat) (l : List Nat) : Nat := (l.length + n - 1) / n
def dueRows (ink mark : Str) (n : Nat) (l : List Nat) : List Str := (List.range (cntOf n l)).map fun q => rowS ink mark (chunkAt n l q)
def strike (n : Nat) (l : List Nat) : List Nat := ((List.range (cntOf n l)).map (chunkAt n l)).flatten
def strikes : Nat → List Nat → List Nat
  | 0, l => l
  | i + 1, l => strike (i + 2) (strikes i l)
theorem rowS_snoc (ink mark : Str) (e : List Nat) (c : Nat) : rowS ink mark (e ++ [c]) = rowS ink mark e ++ (mark ++ (oneS c ++ ink)) := by
  simp [rowS, List.foldl_append]
theorem rowF_len (ink mark : Str) : ∀ (e : List Nat) (r : Str), (e.foldl (fun r c => r ++ (mark ++ (oneS c ++ ink))) r).length = r.length + e.length * (1 + ink.length + mark.length)
  | [], r => by simp
  | c :: e, r => by
    rw [List.foldl_cons, rowF_len ink mark e, PySem.Str.length_append, PySem.Str.length_append, PySem.Str.length_append, List.length_cons, Nat.add_mul]
    have : (oneS c).length = 1 := rfl
    rw [this]; omega
theorem rowS_len (ink mark : Str) (e : List Nat) : (rowS ink mark e).length = ink.length + e.length * (1 + ink.length + mark.length) := rowF_len ink mark e ink
theorem rowF_list (ink mark : Str) : ∀ (e : List Nat) (r : Str), (e.foldl (fun r c => r ++ (mark ++ (oneS c ++ ink))) r).cps.toList = r.cps.toList ++ (e.map fun c => mark.cps.toList ++ c :: ink.cps.toList).flatten
  | [], r => by simp
  | c :: e, r => by
    rw [List.foldl_cons, rowF_list ink mark e, PySem.Str.cps_append, Array.toList_append, PySem.Str.cps_append, Array.toList_append, PySem.Str.cps_append, Array.toList_append]
    simp
theorem rowS_list (ink mark : Str) (e : List Nat) : (rowS ink mark e).cps.toList = ink.cps.toList ++ (e.map fun c => mark.cps.toList ++ c :: ink.cps.toList).flatten := rowF_list ink mark e ink
theorem chunk_snoc_lt {n : Nat} (l : List Nat) (c : Nat) {q : Nat} (hq : (q + 1) * n ≤ l.length) (hn : 1 ≤ n) : chunkAt n (l ++ [c]) q = chunkAt n l q := by
  rw [Nat.add_mul] at hq
  unfold chunkAt
  rw [List.drop_append_of_le_length (by omega), List.take_append_of_le_length (by rw [List.length_drop]; omega)]
theorem map_range_congr {α : Type} {f g : Nat → α} : ∀ {n : Nat}, (∀ q, q < n → f q = g q) → (List.range n).map f = (List.range n).map g := fun {n} h =>
  List.map_congr_left fun q hq => h q (List.mem_range.mp hq)
theorem due_full {ink mark : Str} {n : Nat} (hn : 1 ≤ n) (l : List Nat) (c : Nat) (h : l.length % n = 0) : dueRows ink mark n (l ++ [c]) = dueRows ink mark n l ++ [ink] := by
  have hd := Nat.div_add_mod l.length n
  rw [h, Nat.add_zero] at hd
  have e1 : cntOf n l = l.length / n := by
    unfold cntOf
    have : l.length + n - 1 = n * (l.length / n) + (n - 1) := by omega
    rw [this, Nat.mul_add_div (by omega), Nat.div_eq_of_lt (by omega : n - 1 < n)]; rfl
  have e2 : cntOf n (l ++ [c]) = l.length / n + 1 := by
    unfold cntOf
    have : (l ++ [c]).length + n - 1 = n * (l.length / n + 1) := by rw [List.length_append, Nat.mul_add]; simp; omega
    rw [this, Nat.mul_div_cancel_left _ (by omega)]
  unfold dueRows
  rw [e1, e2, List.range_succ, List.map_append]
  congr 1
  · refine map_range_congr fun q hq => ?_
    rw [chunk_snoc_lt l c ?_ hn]
    have : (q + 1) * n ≤ (l.length / n) * n := Nat.mul_le_mul_right _ hq
    rw [Nat.mul_comm (l.length / n)] at this
    omega
  · have : chunkAt n (l ++ [c]) (l.length / n) = [] := by
      unfold chunkAt
      rw [List.drop_of_length_le (by rw [Nat.mul_comm, hd]; simp), List.take_nil]
    simp only [List.map_cons, List.map_nil, this]
    rfl
theorem due_part {ink mark : Str} {n : Nat} (hn : 1 ≤ n) (l : List Nat) (c : Nat) (h : l.length % n ≠ 0) :
    ∃ A, dueRows ink mark n l = A ++ [rowS ink mark (chunkAt n l (l.length / n))] ∧ dueRows ink mark n (l ++ [c]) = A ++ [rowS ink mark (chunkAt n l (l.length / n)) ++ (mark ++ (oneS c ++ ink))] ∧ (chunkAt n l (l.length / n)).length + 1 = l.length % n := by
  have hd := Nat.div_add_mod l.length n
  have hm := Nat.mod_lt l.length (show 0 < n by omega)
  have e1 : cntOf n l = l.length / n + 1 := by
    unfold cntOf
    have : l.length + n - 1 = n * (l.length / n + 1) + (l.length % n - 1) := by rw [Nat.mul_add]; omega
    rw [this, Nat.mul_add_div (by omega), Nat.div_eq_of_lt (by omega : l.length % n - 1 < n)]
  have e2 : cntOf n (l ++ [c]) = l.length / n + 1 := by
    unfold cntOf
    have : (l ++ [c]).length + n - 1 = n * (l.length / n + 1) + l.length % n := by rw [List.length_append, Nat.mul_add]; simp; omega
    rw [this, Nat.mul_add_div (by omega), Nat.div_eq_of_lt hm]
  have hq : (l.length / n) * n + 1 ≤ l.length := by rw [Nat.mul_comm]; omega
  have hlen : (chunkAt n l (l.length / n)).length + 1 = l.length % n := by
    unfold chunkAt
    rw [List.length_take, List.length_drop]
    rw [Nat.mul_comm] at hq ⊢
    omega
  have hck : chunkAt n (l ++ [c]) (l.length / n) = chunkAt n l (l.length / n) ++ [c] := by
    unfold chunkAt
    rw [List.drop_append_of_le_length hq, List.take_of_length_le, List.take_of_length_le]
    · rw [List.length_drop]; rw [Nat.mul_comm] at hq ⊢; omega
    · rw [List.length_append, List.length_drop]; rw [Nat.mul_comm] at hq ⊢; simp; omega
  refine ⟨(List.range (l.length / n)).map fun q => rowS ink mark (chunkAt n l q), ?_, ?_, hlen⟩
  · unfold dueRows
    rw [e1, List.range_succ, List.map_append]; rfl
  · unfold dueRows
    rw [e2, List.range_succ, List.map_append]
    congr 1
    · refine map_range_congr fun q hq => ?_
      rw [chunk_snoc_lt l c ?_ hn]
      have : (q + 1) * n ≤ (l.length / n) * n := Nat.mul_le_mul_right _ hq
      rw [Nat.mul_comm (l.length / n)] at this
      omega
    · simp only [List.map_cons, List.map_nil, hck, rowS_snoc]
def InkOk (ink : Str) : Prop := ink = Str.ofString "x " ∨ ink = Str.ofString ""
theorem lstrip_ink {ink : Str} (h : InkOk ink) {c : Nat} (hc : c = 32 ∨ c = 9) : Txt.lstrip (oneS c ++ ink) = ink := by
  apply str_ext
  rw [lstrip_list, PySem.Str.cps_append, Array.toList_append, drop_white (by intro d hd; simp at hd; omega)]
  rcases h with rfl | rfl
  · rw [show (Str.ofString "x ").cps.toList = [120, 32] from by decide +kernel]; exact List.dropWhile_cons_of_neg (by simp [sp120])
  · rw [show (Str.ofString "").cps.toList = [] from by decide +kernel]; rfl
theorem sieve_step {ink mark : Str} {n x : Nat} (hi : InkOk ink) (hn : 2 ≤ n) (hx : x < 1 + ink.length + mark.length) (l : List Nat) {c : Nat} (hc : c = 32 ∨ c = 9) :
    maxApp (dueRows ink mark n l) (oneS c ++ ink) ((2 * ink.length + 1 + (n - 2) * (1 + ink.length + mark.length) + x : Nat) : Int) mark = dueRows ink mark n (l ++ [c]) := by
  have hxl : (oneS c ++ ink).length = 1 + ink.length := by rw [PySem.Str.length_append]; rfl
  by_cases h : l.length % n = 0
  · rw [due_full (by omega) l c h, maxApp, lstrip_ink hi hc]
    cases hg : (dueRows ink mark n l).getLast? with
    | none => rw [List.getLast?_eq_none_iff.mp hg]; rfl
    | some y =>
      dsimp only
      refine if_neg fun hle => ?_
      obtain ⟨A, hA⟩ := List.getLast?_eq_some_iff.mp hg
      have hd := Nat.div_add_mod l.length n
      rw [h, Nat.add_zero] at hd
      have e1 : cntOf n l = l.length / n := by
        unfold cntOf
        have : l.length + n - 1 = n * (l.length / n) + (n - 1) := by omega
        rw [this, Nat.mul_add_div (by omega), Nat.div_eq_of_lt (by omega : n - 1 < n)]; rfl
      have hy : y.length = ink.length + (n - 1) * (1 + ink.length + mark.length) := by
        have hpos : 0 < l.length / n := by
          rcases Nat.eq_zero_or_pos (l.length / n) with h0 | h0
          · exfalso
            unfold dueRows at hA
            rw [e1, h0] at hA
            simp at hA
          · exact h0
        obtain ⟨q, hq⟩ : ∃ q, l.length / n = q + 1 := ⟨l.length / n - 1, by omega⟩
        unfold dueRows at hA
        rw [e1, hq, List.range_succ, List.map_append] at hA
        have := (List.append_inj' hA rfl).2
        simp only [List.map_cons, List.map_nil, List.cons.injEq, and_true] at this
        rw [← this, rowS_len]
        congr 2
        unfold chunkAt
        rw [List.length_take, List.length_drop]
        rw [hq, Nat.mul_add, Nat.mul_one, Nat.mul_comm] at hd
        omega
      rw [hxl, hy] at hle
      have e3 : (n - 1) * (1 + ink.length + mark.length) = (n - 2) * (1 + ink.length + mark.length) + (1 + ink.length + mark.length) := by
        rw [show n - 1 = (n - 2) + 1 from by omega, Nat.add_mul, Nat.one_mul]
      rw [e3] at hle
      omega
  · obtain ⟨A, h1, h2, h3⟩ := due_part (ink := ink) (mark := mark) (by omega) l c h
    rw [h1, h2, maxApp]
    simp only [List.getLast?_append, List.getLast?_singleton, Option.some_or, List.dropLast_concat]
    rw [if_pos]
    rw [hxl, rowS_len]
    have hm := Nat.mod_lt l.length (show 0 < n by omega)
    have e4 : (chunkAt n l (l.length / n)).length * (1 + ink.length + mark.length) ≤ (n - 2) * (1 + ink.length + mark.length) := Nat.mul_le_mul_right _ (by omega)
    omega
end
section
open PySem.Builtin.Str (strSub occurrences partsBetween)
open PySem.StrLaws (At ChainG partsFrom)
def remX : List Nat → List Nat
  | [] => []
  | [a] => if a = 120 then [] else [a]
  | a :: b :: r => if a = 120 then remX r else a :: remX (b :: r)
theorem remX_cons {c : Nat} (h : c ≠ 120) (l : List Nat) : remX (c :: l) = c :: remX l := by
  cases l with
  | nil => simp [remX, h]
  | cons b r => simp [remX, h]
theorem remX_free : ∀ {p : List Nat} (l : List Nat), 120 ∉ p → remX (p ++ l) = p ++ remX l
  | [], _, _ => rfl
  | c :: p, l, h => by
    rw [List.cons_append, remX_cons (fun e => h (e ▸ .head _)), remX_free l (fun m => h (.tail _ m))]; rfl
theorem remX_join : ∀ parts : List Str, (∀ p ∈ parts, 120 ∉ p.cps.toList) → remX (Str.join ⟨#[120, 32]⟩ parts).cps.toList = (Str.join ⟨#[]⟩ parts).cps.toList
  | [], _ => rfl
  | [p], h => by
    have := remX_free [] (h p (.head _))
    simpa [Str.join, remX] using this
  | p :: q :: r, h => by
    have ih := remX_join (q :: r) fun a ha => h a (.tail _ ha)
    show remX (p ++ ⟨#[120, 32]⟩ ++ Str.join ⟨#[120, 32]⟩ (q :: r)).cps.toList = (p ++ ⟨#[]⟩ ++ Str.join ⟨#[]⟩ (q :: r)).cps.toList
    simp only [Str.cps_append, Array.toList_append, List.append_assoc]
    rw [remX_free _ (h p (.head _)), ← ih]
    rfl
theorem part_freeX (x y : Str) (c a b : Nat) (hc : ∀ k, x.cps.toList[k]? = some c → At x y x.length k) (hn : ∀ k, a ≤ k → k < b → ¬ At x y x.length k) : c ∉ (strSub x a b).cps.toList := by
  intro hm
  rw [StrLaws.strSub_toList] at hm
  obtain ⟨j, hj⟩ := List.getElem?_of_mem hm
  have hlt : j < b - a := by
    have h1 : j < ((x.cps.toList.drop a).take (b - a)).length := (List.getElem?_eq_some_iff.mp hj).1
    rw [List.length_take] at h1
    omega
  rw [List.getElem?_take_of_lt hlt, List.getElem?_drop] at hj
  exact hn (a + j) (by omega) (by omega) (hc _ hj)
theorem parts_freeX (x y : Str) (c : Nat) (hc : ∀ k, x.cps.toList[k]? = some c → At x y x.length k) : ∀ (cuts : List Nat) (a f : Nat), ChainG x y x.length a cuts f → (∀ k, f ≤ k → ¬ At x y x.length k) → ∀ p ∈ partsFrom x y.length a cuts, c ∉ p.cps.toList
  | [], a, f, h, hn, p, hp => by
    have e : f = a := h
    subst e
    rw [List.mem_singleton.mp hp]
    exact part_freeX x y c f x.length hc fun k h1 _ => hn k h1
  | d :: r, a, f, h, hn, p, hp => by
    rcases List.mem_cons.mp hp with rfl | hp'
    · exact part_freeX x y c a d hc h.2.2.1
    · exact parts_freeX x y c hc r _ f h.2.2.2 hn p hp'
def GoodX (l : List Nat) : Prop := ∀ k, l[k]? = some 120 → l[k + 1]? = some 32
theorem GoodX.app {a b : List Nat} (ha : GoodX a) (hb : GoodX b) : GoodX (a ++ b) := fun k h => by
  rcases Nat.lt_or_ge k a.length with hk | hk
  · rw [List.getElem?_append_left hk] at h
    have h1 := ha k h
    have h2 : k + 1 < a.length := (List.getElem?_eq_some_iff.mp h1).1
    rw [List.getElem?_append_left h2]; exact h1
  · rw [List.getElem?_append_right hk] at h
    rw [List.getElem?_append_right (by omega), show k + 1 - a.length = k - a.length + 1 from by omega]
    exact hb _ h
theorem GoodX.free {a : List Nat} (h : 120 ∉ a) : GoodX a := fun k e => absurd (List.mem_of_getElem? e) h
theorem goodX_ink : GoodX [120, 32] := fun k h => by
  match k, h with
  | 0, _ => rfl
  | 1, h => simp at h
  | k + 2, h => simp at h
theorem GoodX.flat : ∀ {ls : List (List Nat)}, (∀ l ∈ ls, GoodX l) → GoodX ls.flatten
  | [], _ => fun k h => by simp at h
  | l :: ls, h => by
    rw [List.flatten_cons]
    exact (h l (.head _)).app (GoodX.flat fun m hm => h m (.tail _ hm))
theorem replace_x {x : Str} (h : GoodX x.cps.toList) : (Txt.replace x ⟨#[120, 32]⟩ ⟨#[]⟩).cps.toList = remX x.cps.toList := by
  have hA : ∀ k, x.cps.toList[k]? = some 120 → At x ⟨#[120, 32]⟩ x.length k := fun k hk => by
    have h1 := h k hk
    have h2 : k + 1 < x.cps.toList.length := (List.getElem?_eq_some_iff.mp h1).1
    have e : x.length = x.cps.toList.length := by simp [PySem.Str.length]
    refine ⟨by rw [e]; show k + 2 ≤ _; omega, ?_⟩
    rw [StrLaws.subAt_eq]
    show (List.take 2 (List.drop k x.cps.toList) == [120, 32]) = true
    have e3 : List.take 2 (List.drop k x.cps.toList) = [120, 32] := by
      have hd : List.drop k x.cps.toList = 120 :: 32 :: List.drop (k + 2) x.cps.toList := by
        have g1 := (List.getElem?_eq_some_iff.mp hk).2
        have g2 := (List.getElem?_eq_some_iff.mp h1).2
        rw [List.drop_eq_getElem_cons (by omega : k < _), List.drop_eq_getElem_cons h2, g1, g2]
      rw [hd]; rfl
    rw [e3]; rfl
  obtain ⟨f, hG, hn⟩ := StrLaws.occ_tight x ⟨#[120, 32]⟩ (by decide)
  have hp := parts_freeX x ⟨#[120, 32]⟩ 120 hA _ 0 f hG hn
  obtain ⟨f', hC⟩ := StrLaws.occ_chain x ⟨#[120, 32]⟩ (x.length + 1)
  have hj := StrLaws.join_partsFrom x ⟨#[120, 32]⟩ _ 0 f' hC
  rw [StrLaws.sub_whole] at hj
  have key : remX x.cps.toList = (Str.join ⟨#[]⟩ (partsFrom x (⟨#[120, 32]⟩ : Str).length 0 (occurrences x ⟨#[120, 32]⟩ 0 x.length (x.length + 1)))).cps.toList := by
    rw [← remX_join _ hp, hj]
  unfold Txt.replace
  split
  · rename_i he
    have he' : (occurrences x ⟨#[120, 32]⟩ 0 x.length (x.length + 1)).isEmpty = true := by
      rw [Bool.or_eq_true] at he
      rcases he with he | he
      · exact he
      · exact absurd he (by decide)
    rw [List.isEmpty_iff.mp he'] at key
    rw [key]
    show _ = (strSub x 0 x.length).cps.toList
    rw [StrLaws.sub_whole]
  · rw [StrLaws.glued_eq_join, StrLaws.partsBetween_eq, key]
theorem inkL {ink : Str} (h : InkOk ink) : ink.cps.toList = [120, 32] ∨ ink.cps.toList = [] := by
  rcases h with rfl | rfl
  · exact .inl (by decide +kernel)
  · exact .inr (by decide +kernel)
theorem remX_ink {ink : Str} (h : InkOk ink) (l : List Nat) : remX (ink.cps.toList ++ l) = remX l := by
  rcases inkL h with e | e <;> rw [e] <;> rfl
theorem remX_signs {ink : Str} (h : InkOk ink) : ∀ {e : List Nat} (l : List Nat), (∀ c ∈ e, c = 32 ∨ c = 9) → remX ((e.map fun c => c :: ink.cps.toList).flatten ++ l) = e ++ remX l
  | [], _, _ => rfl
  | c :: e, l, hc => by
    have h1 : c ≠ 120 := by rcases hc c (.head _) with h | h <;> omega
    rw [List.map_cons, List.flatten_cons, List.append_assoc, List.cons_append, remX_cons h1, remX_ink h, remX_signs h l (fun d hd => hc d (.tail _ hd))]; rfl
theorem remX_rows {ink : Str} (h : InkOk ink) : ∀ {es : List (List Nat)}, (∀ e ∈ es, ∀ c ∈ e, c = 32 ∨ c = 9) → remX (es.map fun e => ink.cps.toList ++ (e.map fun c => c :: ink.cps.toList).flatten).flatten = es.flatten
  | [], _ => rfl
  | e :: es, hc => by
    rw [List.map_cons, List.flatten_cons, List.append_assoc, remX_ink h, remX_signs h _ (hc e (.head _)), remX_rows h (fun e he => hc e (.tail _ he))]; rfl
theorem filter_row {ink mark : Str} (hi : InkOk ink) (hm : mark = Str.ofString "" ∨ mark = Str.ofString ".") {e : List Nat} (hc : ∀ c ∈ e, c = 32 ∨ c = 9) :
    (ink.cps.toList ++ (e.map fun c => mark.cps.toList ++ c :: ink.cps.toList).flatten).filter (· != 46) = ink.cps.toList ++ (e.map fun c => c :: ink.cps.toList).flatten := by
  have hink : ink.cps.toList.filter (· != 46) = ink.cps.toList := by rcases inkL hi with e | e <;> rw [e] <;> rfl
  have hmk : mark.cps.toList.filter (· != 46) = [] := by rcases hm with rfl | rfl <;> decide +kernel
  rw [List.filter_append, hink]
  congr 1
  induction e with
  | nil => rfl
  | cons c e ih =>
    have h1 : (c != 46) = true := by rcases hc c (.head _) with rfl | rfl <;> rfl
    rw [List.map_cons, List.flatten_cons, List.filter_append, ih (fun d hd => hc d (.tail _ hd)), List.filter_append, hmk, List.nil_append, List.filter_cons_of_pos (p := fun x => x != 46) h1, hink]
    rfl
theorem filter_rows {ink mark : Str} (hi : InkOk ink) (hm : mark = Str.ofString "" ∨ mark = Str.ofString ".") : ∀ {es : List (List Nat)}, (∀ e ∈ es, ∀ c ∈ e, c = 32 ∨ c = 9) →
    (es.map fun e => ink.cps.toList ++ (e.map fun c => mark.cps.toList ++ c :: ink.cps.toList).flatten).flatten.filter (· != 46) = (es.map fun e => ink.cps.toList ++ (e.map fun c => c :: ink.cps.toList).flatten).flatten
  | [], _ => rfl
  | e :: es, hc => by
    rw [List.map_cons, List.flatten_cons, List.filter_append, filter_row hi hm (hc e (.head _)), filter_rows hi hm (fun e he => hc e (.tail _ he))]; rfl
theorem chunk_mem {n q : Nat} {l : List Nat} : ∀ c ∈ chunkAt n l q, c ∈ l := fun _ h => List.mem_of_mem_drop (List.mem_of_mem_take h)
theorem strike_text {ink mark : Str} (hi : InkOk ink) (hm : mark = Str.ofString "" ∨ mark = Str.ofString ".") (n : Nat) {l : List Nat} (hl : ∀ c ∈ l, c = 32 ∨ c = 9) :
    (Txt.replace (Txt.replace (Txt.join (Str.ofString "") (dueRows ink mark n l)) (Str.ofString ".") (Str.ofString "")) (Str.ofString "x ") (Str.ofString "")).cps.toList = strike n l := by
  have e1 : Str.ofString "." = ⟨#[46]⟩ := by decide +kernel
  have e2 : Str.ofString "" = ⟨#[]⟩ := by decide +kernel
  have e3 : Str.ofString "x " = ⟨#[120, 32]⟩ := by decide +kernel
  have hes : ∀ e ∈ (List.range (cntOf n l)).map (chunkAt n l), ∀ c ∈ e, c = 32 ∨ c = 9 := fun e he c hc => by
    obtain ⟨q, _, rfl⟩ := List.mem_map.mp he
    exact hl c (chunk_mem c hc)
  have h1 : (Txt.replace (Txt.join (Str.ofString "") (dueRows ink mark n l)) (Str.ofString ".") (Str.ofString "")).cps.toList = (((List.range (cntOf n l)).map (chunkAt n l)).map fun e => ink.cps.toList ++ (e.map fun c => c :: ink.cps.toList).flatten).flatten := by
    rw [e1, e2, replace_strikes, ← e2, joinT_cat, ← filter_rows hi hm hes]
    unfold dueRows
    rw [List.map_map, List.map_map]
    congr 2
    refine List.map_congr_left fun q _ => ?_
    exact rowS_list _ _ _
  generalize Txt.replace (Txt.join (Str.ofString "") (dueRows ink mark n l)) (Str.ofString ".") (Str.ofString "") = y at *
  rw [e3, e2, replace_x, h1, remX_rows hi hes]; rfl
  rw [h1]
  refine GoodX.flat fun a ha => ?_
  obtain ⟨e, he, rfl⟩ := List.mem_map.mp ha
  have gi : GoodX ink.cps.toList := by
    rcases inkL hi with h | h <;> rw [h]
    · exact goodX_ink
    · exact GoodX.free (by simp)
  refine gi.app (GoodX.flat fun b hb => ?_)
  obtain ⟨c, hc, rfl⟩ := List.mem_map.mp hb
  refine GoodX.app (a := [c]) (GoodX.free ?_) gi
  have := hes e he c hc
  simp; omega
theorem strike_map (n : Nat) (f : Nat → Nat) (l : List Nat) : strike n (l.map f) = (strike n l).map f := by
  unfold strike
  have e : cntOf n (l.map f) = cntOf n l := by simp [cntOf]
  rw [e, List.map_flatten, List.map_map]
  congr 1
  refine List.map_congr_left fun q _ => ?_
  show chunkAt n (l.map f) q = (chunkAt n l q).map f
  simp [chunkAt, List.map_drop, List.map_take]
theorem strikes_map (f : Nat → Nat) (l : List Nat) : ∀ i, strikes i (l.map f) = (strikes i l).map f
  | 0 => rfl
  | i + 1 => by rw [strikes, strikes_map f l i, strike_map]; rfl
theorem strikes_mem {l : List Nat} : ∀ {i c : Nat}, c ∈ strikes i l → c ∈ l
  | 0, _, h => h
  | i + 1, c, h => by
    obtain ⟨a, ha, hc⟩ := List.mem_flatten.mp h
    obtain ⟨q, _, rfl⟩ := List.mem_map.mp ha
    exact strikes_mem (chunk_mem c hc)
theorem idx_map (l : List Nat) : l = (List.range l.length).map fun i => l.getD i 0 := by
  refine List.ext_getElem? fun i => ?_
  rw [List.getElem?_map]
  rcases Nat.lt_or_ge i l.length with h | h
  · rw [List.getElem?_range h]; simp [List.getD, List.getElem?_eq_getElem h]
  · rw [List.getElem?_eq_none h, List.getElem?_eq_none (by simpa using h)]; rfl
def placesOf (last len : Nat) : List Nat := (List.range (len / last)).map fun q => placeOf (q + 1) last
theorem sieve_places : ∀ a < 4, ∀ b < 4, strikes (b + 1) (List.range (a + 17)) = ((placesOf (b + 2) (a + 17)).filter (· ≤ a + 17)).map (· - 1) := by decide +kernel
theorem strikes_len : ∀ a < 4, ∀ b < 5, (strikes b (List.range (a + 17))).length ≤ 20 := by decide +kernel
theorem strikes_places {l : List Nat} {last : Nat} (h1 : 17 ≤ l.length) (h2 : l.length ≤ 20) (h3 : 2 ≤ last) (h4 : last ≤ 5) :
    strikes (last - 1) l = ((placesOf last l.length).filter (· ≤ l.length)).map fun p => l.getD (p - 1) 0 := by
  have h := sieve_places (l.length - 17) (by omega) (last - 2) (by omega)
  rw [show l.length - 17 + 17 = l.length from by omega, show last - 2 + 1 = last - 1 from by omega, show last - 2 + 2 = last from by omega] at h
  conv => lhs; rw [idx_map l, strikes_map, h, List.map_map]
  rfl
theorem strikes_length {l : List Nat} {i : Nat} (h1 : 17 ≤ l.length) (h2 : l.length ≤ 20) (h3 : i ≤ 4) : (strikes i l).length ≤ 20 := by
  have h := strikes_len (l.length - 17) (by omega) i (by omega)
  rw [show l.length - 17 + 17 = l.length from by omega] at h
  rw [idx_map l, strikes_map, List.length_map]
  exact h
end
section
section
variable {prog p : Program} {loose : List Str} {w : World} {mean : ExcName → Option Value} {mg mb : Str → Option Value}
  {dp un : Nat} {gd : Option (List Code)} {fa : Addr} {ccd : Value} {outer : List Env} {A₀ : Around} {base h₀ : Heap} {L : Addr} {m : Str → Option Value} {s : Shared} {E : Value → Shared → Prop} {Q : Flow → Shared → Prop}
noncomputable def sieveBody : List Stmt := match lawBody.drop 9 with
  | (.For _ _ b _ _) :: _ => b
  | _ => []
noncomputable def signFor : Stmt := match sieveBody with
  | [_, _, _, _, f, _, _, _, _] => f
  | _ => .Pass ⟨0, 0, 0, 0⟩
noncomputable def dueFor : Stmt := match sieveBody with
  | [_, _, _, _, _, _, f, _, _] => f
  | _ => .Pass ⟨0, 0, 0, 0⟩
theorem due_nil (ink mark : Str) {n : Nat} (hn : 2 ≤ n) : dueRows ink mark n [] = [] := by
  have : cntOf n [] = 0 := by
    unfold cntOf
    exact Nat.div_eq_of_lt (by simp; omega)
  rw [dueRows, this]; rfl
theorem due_bound {ink mark : Str} {n : Nat} {l : List Nat} (hn : 2 ≤ n) (hn5 : n ≤ 5) (h1 : ink.length ≤ 2) (h2 : mark.length ≤ 1) : ∀ y ∈ dueRows ink mark n l, y.length ≤ 1000 := by
  intro y hy
  obtain ⟨q, _, rfl⟩ := List.mem_map.mp hy
  rw [rowS_len]
  have h3 : (chunkAt n l q).length ≤ 4 := by
    unfold chunkAt
    rw [List.length_take]; omega
  have : (chunkAt n l q).length * (1 + ink.length + mark.length) ≤ 4 * 4 := Nat.mul_le_mul h3 (by omega)
  omega
theorem due_count {ink mark : Str} {n : Nat} {l : List Nat} (hn : 2 ≤ n) (hl : l.length ≤ 20) : (dueRows ink mark n l).length ≤ 20 := by
  rw [dueRows, List.length_map, List.length_range, cntOf]
  have := Nat.div_le_self (l.length + n - 1) n
  rcases Nat.eq_zero_or_pos l.length with h | h
  · rw [h, Nat.div_eq_of_lt (by omega)]; omega
  · have h2 : (l.length + n - 1) / n ≤ l.length := by
      apply Nat.div_le_of_le_mul
      have : n - 1 + l.length ≤ n * l.length := by
        obtain ⟨a, rfl⟩ : ∃ a, n = a + 1 := ⟨n - 1, by omega⟩
        obtain ⟨b, hb⟩ : ∃ b, l.length = b + 1 := ⟨l.length - 1, by omega⟩
        rw [hb, Nat.mul_add, Nat.mul_one, Nat.add_mul, Nat.one_mul]
        omega
      omega
    omega
theorem inkLen {ink : Str} (h : InkOk ink) : ink.length ≤ 2 := by
  rcases h with rfl | rfl <;> decide +kernel
theorem markLen {mark : Str} (h : mark = Str.ofString "" ∨ mark = Str.ofString ".") : mark.length ≤ 1 := by
  rcases h with rfl | rfl <;> decide +kernel
set_option maxHeartbeats 4000000 in
theorem sign_loop {ci cm ct cd lr rn : Addr} {oi om : Obj} {more : List (Addr × Obj)} {ink mark left : Str} {n x : Nat} {tf ti tm tr tz : Tok} {room : Int} {nr : Nat} (B : Below A₀ base outer h₀) (X : (hd.heap_39 w.params).In h₀) (T : Top p loose mean mg mb h₀)
   (hdp : dp + 20 < recursionLimit) (hE : PassesOwn (model prog w) (lawA dp un gd L fa ccd ci cm ct cd outer) (lawE L fa ccd ci cm ct cd) E)
   (F : Fr h₀ L s.heap (kstB m [(Str.ofString "rows", .ref lr), (Str.ofString "room", .int room tr), (Str.ofString "size", .int (n : Nat) tz), (Str.ofString "left", .str left tf), (Str.ofString "numbers", .ref rn)]))
   (N : News h₀ L s.heap ((lr, listOf #[] nr) :: (ci, oi) :: (cm, om) :: more)) (hnl : ∀ p ∈ (ci, oi) :: (cm, om) :: more, @Ne Nat p.1 lr)
   (hoi : oi.data = .cell (some (.str ink ti))) (hom : om.data = .cell (some (.str mark tm))) (hink : InkOk ink) (hmark : mark = Str.ofString "" ∨ mark = Str.ofString ".") (hn : 2 ≤ n) (hn5 : n ≤ 5)
   (hx : x < 1 + ink.length + mark.length) (hroom : room = ((2 * ink.length + 1 + (n - 2) * (1 + ink.length + mark.length) + x : Nat) : Int)) (hll : left.length ≤ 20) (hlc : ∀ c ∈ left.cps.toList, c = 32 ∨ c = 9)
   (hQ : ∀ vr nr h' tk m', StrsAre vr (dueRows ink mark n left.cps.toList) → Fr h₀ L h' (kstB m' [(Str.ofString "rows", .ref lr), (Str.ofString "size", .int (n : Nat) tz), (Str.ofString "left", .str left tf), (Str.ofString "numbers", .ref rn)]) →
      News h₀ L h' ((lr, listOf vr.toArray nr) :: (ci, oi) :: (cm, om) :: more) → Q .next {s with heap := h', toks := tk}) :
   wpAny (model prog w) (lawA dp un gd L fa ccd ci cm ct cd outer) (exec signFor (lawE L fa ccd ci cm ct cd)) Q E s := by
  dsimp only [signFor, sieveBody, lawBody, lawScope, PySem.Challenge.pw_rs0092_01, List.drop]
  refine For_invVF F rfl rfl ?_ (hE := hE)
  k_steps
  rename Fr _ _ _ _ => F2
  rename News _ _ _ _ => N2
  refine strLoop (fun i m news => ∃ vr nr, StrsAre vr (dueRows ink mark n (left.cps.toList.take i)) ∧ news = (lr, listOf vr.toArray nr) :: (ci, oi) :: (cm, om) :: more ∧ Has m [(Str.ofString "rows", .ref lr), (Str.ofString "room", .int room tr), (Str.ofString "size", .int (n : Nat) tz), (Str.ofString "left", .str left tf), (Str.ofString "numbers", .ref rn)])
    rfl F2 N2 ⟨[], nr, by rw [List.take_zero, due_nil _ _ hn]; exact .nil, rfl, rfl, rfl, rfl, rfl, rfl, trivial⟩ ?_ ?_
  · rintro i c t m₁ news₁ h tk own hc hex hoff ⟨vr, nr, hvr, rfl, hm⟩ F3 N3
    clear F2 N2
    replace F3 : Fr h₀ L h _ := Fr.hasX hm F3
    replace N3 : News h₀ L h _ := N3
    have hnew := take_snoc hc
    have hcc : c = 32 ∨ c = 9 := hlc c (by
      have : left.cps.toList[i]? = some c := by simpa using hc
      exact List.mem_of_getElem? this)
    have hst := sieve_step (x := x) hink hn hx (left.cps.toList.take i) hcc
    rw [← hnew, ← hroom] at hst
    rw [← hst]
    have hbd := due_bound (ink := ink) (mark := mark) (l := left.cps.toList.take i) hn hn5 (inkLen hink) (markLen hmark)
    have hct := due_count (ink := ink) (mark := mark) (n := n) (l := left.cps.toList.take i) hn (by rw [List.length_take]; have : left.cps.toList.length = left.length := by { simp [PySem.Str.length] }; omega)
    have hvl := hvr.length
    generalize dueRows ink mark n (left.cps.toList.take i) = D at *
    have hmk := markLen hmark
    have hik := inkLen hink
    have hsx : (oneS c ++ ink).length ≤ 1000 := by rw [PySem.Str.length_append]; show 1 + _ ≤ _; omega
    have hnl' : ∀ p ∈ ((ci, oi) :: (cm, om) :: more) ++ own, @Ne Nat p.1 lr := fun p hp => (List.mem_append.mp hp).elim (hnl p) (own_ne hoff (.head _) p)
    clear hnew hst hx hroom
    rcases hink with rfl | rfl
    · k_steps
      rename Fr _ _ _ _ => F4
      rename News _ _ _ _ => N4
      refine append_call B F4 X T rfl (News.sub N4 (fun p hp => by rw [List.mem_singleton.mp hp]; exact .head _)) hvr (by omega) (by ktr_room) (oneS c ++ Str.ofString "x ") mark room _ _ _ (hsx) (by omega) hbd (.inl rfl) (.inl rfl) ?_
      intro vs' n' h5 tk5 hs5 hk5 hr5
      obtain ⟨F5, N5⟩ := upd_head F4 N4 hnl' hk5 hr5
      clear F4 N4 hk5 hr5
      k_steps
      exact endG _ (by assumption) (by assumption) ⟨vs', n', hs5, rfl, rfl, rfl, rfl, rfl, rfl, trivial⟩ hoff (fun p hp => List.mem_append_left _ hp) (fun p hp => List.mem_append_right _ hp)
    · k_steps
      rename Fr _ _ _ _ => F4
      rename News _ _ _ _ => N4
      refine append_call B F4 X T rfl (News.sub N4 (fun p hp => by rw [List.mem_singleton.mp hp]; exact .head _)) hvr (by omega) (by ktr_room) (oneS c) mark room _ _ _ ((by decide : (1 : Nat) ≤ 1000)) (by omega) hbd (.inr ⟨c, by omega, rfl, rfl⟩) (.inl rfl) ?_
      intro vs' n' h5 tk5 hs5 hk5 hr5
      obtain ⟨F5, N5⟩ := upd_head F4 N4 hnl' hk5 hr5
      clear F4 N4 hk5 hr5
      k_steps
      exact endG _ (by assumption) (by assumption) ⟨vs', n', (by rw [show oneS c ++ Str.ofString "" = oneS c from PySem.Str.append_empty _]; exact hs5), rfl, rfl, rfl, rfl, rfl, rfl, trivial⟩ hoff (fun p hp => List.mem_append_left _ hp) (fun p hp => List.mem_append_right _ hp)
  · rintro m₁ news₁ h tk ⟨vr, nr, hvr, rfl, hm⟩ F3 N3
    rw [List.take_of_length_le (by simp)] at hvr
    exact hQ vr nr h tk m₁ hvr (Fr.has ⟨hm.1, hm.2.2.1, hm.2.2.2.1, hm.2.2.2.2.1, trivial⟩ F3) N3
end
end
section
section
variable {prog p : Program} {loose : List Str} {w : World} {mean : ExcName → Option Value} {mg mb : Str → Option Value}
  {dp un : Nat} {gd : Option (List Code)} {fa : Addr} {ccd : Value} {outer : List Env} {A₀ : Around} {base h₀ : Heap} {L : Addr} {m : Str → Option Value} {s : Shared} {E : Value → Shared → Prop} {Q : Flow → Shared → Prop}
theorem signs_paired {f : Nat → Str} : ∀ (l : List Nat) (vs ys : List Value), vs.length = l.length → (∀ (j : Nat) (v : Value), vs[j]? = some v → ∃ (c : Nat) (u : Tok), l[j]? = some c ∧ v = Value.str (oneS c) u) →
    Paired (fun v y => ∀ c t, v = .str (oneS c) t → ∃ t', y = Value.str (f c) t') vs ys → StrsAre ys (l.map f)
  | [], [], _, _, _, hp => by cases hp; exact .nil
  | [], _ :: _, _, h, _, _ => by simp at h
  | _ :: _, [], _, h, _, _ => by simp at h
  | c :: l, v :: vs, ys, h, hv, hp => by
    cases hp with
    | cons hF hr =>
      obtain ⟨c', u, hc, rfl⟩ := hv 0 v rfl
      obtain ⟨t', rfl⟩ := hF c' u rfl
      have e : c = c' := by simpa using hc
      subst e
      exact .cons _ _ (signs_paired l vs _ (by simpa using h) (fun j v e => by
        have := hv (j + 1) v (by simpa using e)
        simpa using this) hr)
theorem rowS_join (ink mark : Str) (e : List Nat) : ink ++ Txt.join (Str.ofString "") (e.map fun c => mark ++ oneS c ++ ink) = rowS ink mark e := by
  apply str_ext
  rw [PySem.Str.cps_append, Array.toList_append, joinT_cat, rowS_list, List.map_map]
  congr 2
  refine List.map_congr_left fun c _ => ?_
  simp [PySem.Str.cps_append, Function.comp]
theorem due_small : ∀ a < 21, ∀ b < 4, Builtin.Range.small 0 ((a : Nat) : Int) ((b + 2 : Nat) : Int) = true ∧ Builtin.Range.rangeSize 0 ((a : Nat) : Int) ((b + 2 : Nat) : Int) = (((a + (b + 2) - 1) / (b + 2) : Nat) : Int) := by decide +kernel
theorem due_range {n : Nat} {l : List Nat} (h1 : 2 ≤ n) (h2 : n ≤ 5) (h3 : l.length ≤ 20) : Builtin.Range.small 0 (l.length : Int) (n : Int) = true ∧ Builtin.Range.rangeSize 0 (l.length : Int) (n : Int) = (cntOf n l : Int) := by
  have := due_small l.length (by omega) (n - 2) (by omega)
  rw [show n - 2 + 2 = n from by omega] at this
  exact this
set_option maxHeartbeats 4000000 in
theorem due_loop {ci cm ct cd lr rn ld : Addr} {oi om : Obj} {more : List (Addr × Obj)} {ink mark left : Str} {n : Nat} {tf ti tm tz : Tok} {nr : Nat} (B : Below A₀ base outer h₀) (X : (hd.heap_39 w.params).In h₀) (T : Top p loose mean mg mb h₀)
   (hdp : dp + 20 < recursionLimit) (hE : PassesOwn (model prog w) (lawA dp un gd L fa ccd ci cm ct cd outer) (lawE L fa ccd ci cm ct cd) E)
   (F : Fr h₀ L s.heap (kstB m [(Str.ofString "due", .ref ld), (Str.ofString "rows", .ref lr), (Str.ofString "size", .int (n : Nat) tz), (Str.ofString "left", .str left tf), (Str.ofString "numbers", .ref rn)]))
   (N : News h₀ L s.heap ((ld, listOf #[] nr) :: (ci, oi) :: (cm, om) :: more)) (hnl : ∀ p ∈ (ci, oi) :: (cm, om) :: more, @Ne Nat p.1 ld)
   (hoi : oi.data = .cell (some (.str ink ti))) (hom : om.data = .cell (some (.str mark tm))) (hink : InkOk ink) (hmark : mark = Str.ofString "" ∨ mark = Str.ofString ".") (hn : Hold (2 ≤ n ∧ n ≤ 5))
   (hll : Hold (left.length ≤ 20)) (hlc : ∀ c ∈ left.cps.toList, c = 32 ∨ c = 9)
   (hQ : ∀ vr nr h' tk m', StrsAre vr (dueRows ink mark n left.cps.toList) → Fr h₀ L h' (kstB m' [(Str.ofString "due", .ref ld), (Str.ofString "rows", .ref lr), (Str.ofString "left", .str left tf), (Str.ofString "numbers", .ref rn)]) →
      News h₀ L h' ((ld, listOf vr.toArray nr) :: (ci, oi) :: (cm, om) :: more) → Q .next {s with heap := h', toks := tk}) :
   wpAny (model prog w) (lawA dp un gd L fa ccd ci cm ct cd outer) (exec dueFor (lawE L fa ccd ci cm ct cd)) Q E s := by
  dsimp only [dueFor, sieveBody, lawBody, lawScope, PySem.Challenge.pw_rs0092_01, List.drop]
  have hb1 : left.length ≤ 1000 := Nat.le_trans hll.out (by decide)
  have hb2 : 1 ≤ n := Nat.le_trans (by decide) hn.out.1
  have hb3 : n ≤ 1000 := Nat.le_trans hn.out.2 (by decide)
  refine For_invVF F rfl rfl ?_ (hE := hE)
  k_steps
  rename Fr _ _ _ _ => F2
  rename News _ _ _ _ => N2
  rename IsRange _ _ _ _ _ _ _ _ => R2
  have hlen : left.cps.toList.length = left.length := by simp [PySem.Str.length]
  have hrs := due_range (l := left.cps.toList) hn.out.1 hn.out.2 (hlen ▸ hll.out)
  rw [hlen] at hrs
  refine rangeLoop (n := cntOf n left.cps.toList) (fun i m news => ∃ vr nr, StrsAre vr ((List.range i).map fun q => rowS ink mark (chunkAt n left.cps.toList q)) ∧ news = (ld, listOf vr.toArray nr) :: (ci, oi) :: (cm, om) :: more ∧ Has m [(Str.ofString "due", .ref ld), (Str.ofString "rows", .ref lr), (Str.ofString "size", .int (n : Nat) tz), (Str.ofString "left", .str left tf), (Str.ofString "numbers", .ref rn)])
    rfl R2 hrs.1 hrs.2 F2 N2 ⟨[], nr, .nil, rfl, rfl, rfl, rfl, rfl, rfl, trivial⟩ ?_ ?_
  · rintro i k t m₁ news₁ h tk own hi rfl hex hoff ⟨vr, nr, hvr, rfl, hm⟩ F3 N3
    clear F2 N2 R2 hrs
    replace F3 : Fr h₀ L h _ := Fr.hasX hm F3
    replace N3 : News h₀ L h _ := N3
    obtain ⟨hn2, hn5⟩ := hn.out
    have hll' := hll.out
    have hct := due_count (ink := ink) (mark := mark) (n := n) (l := left.cps.toList) hn2 (hlen ▸ hll')
    rw [dueRows, List.length_map, List.length_range] at hct
    have hvl := hvr.length
    rw [List.length_map, List.length_range] at hvl
    have hst : (0 : Int) + (i : Int) * (n : Int) = ((i * n : Nat) : Int) := by rw [Int.zero_add, Int.natCast_mul]
    rw [hst] at F3
    have hin : i * n ≤ 20 * 5 := Nat.mul_le_mul (by omega) hn5
    have hchunk : (Txt.slice left (some (((i * n : Nat) : Int) + 1)) (some (((i * n : Nat) : Int) + (n : Int)))).cps.toList = chunkAt n left.cps.toList i := by
      rw [slice_cut (by omega) (by omega), chunkAt]
      congr 1
      omega
    generalize i * n = st at *
    rename Fr h₀ L s.heap _ => Fx
    rename News h₀ L s.heap _ => Nx
    clear Fx Nx
    k_steps
    refine listComp_own (fun _ => true) (fun v y => ∀ c t, v = .str (oneS c) t → ∃ t', y = .str (mark ++ oneS c ++ ink) t') (by with_unfolding_all rfl) (by decide) rfl (by decide) rfl ?_
    k_steps
    rename Fr _ _ _ _ => F4
    rename News _ _ _ _ => N4
    generalize hsl : Txt.slice left (some ((st : Int) + 1)) (some ((st : Int) + (n : Int))) = part at *
    have hmk := markLen hmark
    have hik := inkLen hink
    have hpl : part.length ≤ 20 := by
      have := congrArg List.length hchunk
      rw [chunkAt, List.length_take, List.length_drop] at this
      have e : part.cps.toList.length = part.length := by simp [PySem.Str.length]
      omega
    refine compStr rfl (by rw [sizeLine_eq]; exact Nat.le_trans hpl (by decide)) ⟨?_, ?_⟩ ?_
    · intro C j v s₃ m₃ E' hC hP hn hm hk
      exact wpAny_tests_nil ⟨rfl, s₃.heap, s₃.toks, rfl, fun _ _ e => e⟩
    · intro C j v s₃ m₃ E' hC hP _ hn' hm' hk
      obtain ⟨c, tc, hc, rfl⟩ := hP
      clear F4
      replace N4 := News.grown N4 hk
      refine wpAny_mono (Q := fun y s₄ => Hold ((∀ c_1 t_1, Value.str (oneS c) tc = Value.str (oneS c_1) t_1 → ∃ t', y = Value.str (mark ++ oneS c_1 ++ ink) t') ∧ Keeps s₃ s₄)) ?_ (fun _ _ h => h) (fun _ _ h => h)
      k_steps
      exact Hold.mk ⟨fun c1 t1 e => by cases e; exact ⟨_, rfl⟩, _, _, rfl, fun _ _ e => e⟩
    · intro D h2 tk2 ys vs hD hpl2 hlen2 hvs hF hk
      rw [List.filter_eq_self.mpr (fun _ _ => rfl)] at hF
      have hst := signs_paired (f := fun c => mark ++ oneS c ++ ink) part.cps.toList vs ys.toList (by simpa using hlen2) (fun j v e => by
        obtain ⟨c, u, hc, rfl⟩ := hvs j v e
        exact ⟨c, u, by simpa using hc, rfl⟩) hF
      have F5 := Fr.keeps F4 hk
      have N5 := News.grown N4 hk
      obtain ⟨nd, hpl2⟩ := hpl2
      clear F4 N4 hk hF hvs
      have hls : h2.IsList D ys := PySem.IsL.isList hpl2
      have hnl' : ∀ p ∈ (ci, oi) :: (cm, om) :: more ++ own, @Ne Nat p.1 ld := fun p hp => (List.mem_append.mp hp).elim (hnl p) (own_ne hoff (.head _) p)
      have hrow := rowS_join ink mark part.cps.toList
      rw [hchunk] at hrow hst
      have hcl : (chunkAt n left.cps.toList i).length ≤ 20 := by
        rw [← hchunk]; simpa [PySem.Str.length] using hpl
      k_steps
      refine join_list hls hst ?_ (fun t4 k4 => ?_)
      · have h1 := StrLaws.sumLen_le (B := 4) ((chunkAt n left.cps.toList i).map fun c => mark ++ oneS c ++ ink) (fun y hy => by
          obtain ⟨c, _, rfl⟩ := List.mem_map.mp hy
          rw [PySem.Str.length_append, PySem.Str.length_append]
          have : (oneS c).length = 1 := rfl
          omega)
        rw [List.length_map] at h1 ⊢
        rw [show (Str.ofString "").length = 0 from by decide +kernel]
        omega
      have hrl := rowS_len ink mark (chunkAt n left.cps.toList i)
      rw [← hrow, PySem.Str.length_append] at hrl
      have hmul : (chunkAt n left.cps.toList i).length * (1 + ink.length + mark.length) ≤ 20 * 4 := Nat.mul_le_mul hcl (by omega)
      have hnew : ∀ jt, ink ++ jt = rowS ink mark (chunkAt n left.cps.toList i) → ∀ tj, StrsAre (vr ++ [Value.str (ink ++ jt) tj]) ((List.range (i + 1)).map fun q => rowS ink mark (chunkAt n left.cps.toList q)) := fun jt e tj => by
        rw [List.range_succ, List.map_append, e]
        exact hvr.append' (.cons _ _ .nil)
      generalize Txt.join (Str.ofString "") ((chunkAt n left.cps.toList i).map fun c => mark ++ oneS c ++ ink) = jt at *
      have hjt : jt.length ≤ 80 := by omega
      have hnew2 := hnew jt hrow
      clear hls hst hpl2 hD hrl hmul hnew hrow hvr
      rename Fr h₀ L h _ => Fx
      rename News h₀ L h _ => Nx
      clear Fx Nx
      k_steps
      refine append_K F5 N5 (.head hnl') (fun h6 F6 N6 => ?_) (by rw [sizeLine_eq, List.size_toArray, hvl]; omega)
      rw [List.push_toArray] at N6
      clear F5 N5
      k_steps
      exact endG _ (by assumption) (by assumption) ⟨_, _, hnew2 _, rfl, rfl, rfl, rfl, rfl, rfl, trivial⟩ hoff (fun p hp => List.mem_append_left _ hp) (fun p hp => List.mem_append_right _ hp)
  · rintro m₁ news₁ h tk ⟨vr, nr, hvr, rfl, hm⟩ F3 N3
    exact hQ vr nr h tk m₁ hvr (Fr.has ⟨hm.1, hm.2.1, hm.2.2.2.1, hm.2.2.2.2.1, trivial⟩ F3) N3
end
end
section
section
variable {prog p : Program} {loose : List Str} {w : World} {mean : ExcName → Option Value} {mg mb : Str → Option Value}
  {dp un : Nat} {gd : Option (List Code)} {fa : Addr} {ccd : Value} {outer : List Env} {A₀ : Around} {base h₀ : Heap} {L : Addr} {m : Str → Option Value} {s : Shared} {E : Value → Shared → Prop} {Q : Flow → Shared → Prop}
theorem post_joinG {s : Shared} {sep : Str} {Q : Value → Shared → Prop} : ∀ (l : List (Str × Tok)), ((Txt.join sep (l.map (·.1))).length ≤ sizeLine ∧ ∀ t' k, s.toks ≤ k → Q (.str (Txt.join sep (l.map (·.1))) t') { s with toks := k }) → (joinMade sep l).post Q s
  | [], h => ⟨h.1, h.2 _ _ (Nat.le_succ _)⟩
  | [p], h => h.2 p.2 s.toks (Nat.le_refl _)
  | _ :: _ :: _, h => ⟨h.1, h.2 _ _ (Nat.le_succ _)⟩
theorem join_listG {A : Around} {E : Value → Shared → Prop} {s : Shared} {x : Str} {t : Tok} {Q : Value → Shared → Prop} {D : Addr} {items : Array Value} {ys : List Str} (hl : s.heap.IsList D items) (hi : StrsAre items.toList ys) (hok : (ys.map (·.length)).sum + ys.length * x.length ≤ 16777216)
    (h : ∀ t' k, s.toks ≤ k → Q (.str (Txt.join x ys) t') { s with toks := k }) : wpAny (model prog w) A (call (.builtin "str.join") [.str x t, .ref D]) Q E s := by
  obtain ⟨l, hv, ht⟩ := strsAre_values hi
  have e : items = (strValues l).toArray := by rw [← hv]
  subst e
  subst ht
  have hok' := joinOk_of hok
  unfold JoinOk at hok'
  rw [Bool.not_eq_true'] at hok'
  exact call_meets F.slot_str_join (typeIs_str _ _ _) F.entry_str_join (F.args_str_join_2 _ _) (meets_str_join_list x t D l hok') ⟨hl, post_joinG l ⟨joinFit_length hok', h⟩⟩
theorem replaceG {A : Around} {E : Value → Shared → Prop} {s : Shared} {x y z : Str} {t u v : Tok} {Q : Value → Shared → Prop} (hu : u ≠ 0) (hv : v ≠ 0) (huv : u ≠ v) (hyz : (y == z) = false) (hb : x.length + (x.length + 1) * z.length ≤ 16777216)
    (hq : ∀ t' k, s.toks ≤ k → Q (.str (Txt.replace x y z) t') { s with toks := k }) :
    wpAny (model prog w) A (call (.builtin "str.replace") [.str x t, .str y u, .str z v]) Q E s := by
  have e : (2 : Nat) ^ 24 = 16777216 := by decide
  have hl : PySem.Builtin.Str.tooLong (x.length + (PySem.Builtin.Str.occurrences x y 0 x.length (x.length + 1)).length * z.length) = false := by
    have h1 := StrLaws.occ_length_le x y 0 x.length (x.length + 1)
    have h2 : (PySem.Builtin.Str.occurrences x y 0 x.length (x.length + 1)).length * z.length ≤ (x.length + 1) * z.length := Nat.mul_le_mul_right _ h1
    unfold PySem.Builtin.Str.tooLong sizeLine
    exact decide_eq_false (by omega)
  refine call_gives F.slot_str_replace (typeIs_str _ _ _) F.entry_str_replace (F.args_str_replace_3 _ _ _)
    (gives_str_replace x y z t u v fun _ => ⟨by simp [hu, hv], by simp [huv], hyz, hl⟩) ?_
  have hq' := hq
  unfold Txt.replace at hq'
  cases hc : ((PySem.Builtin.Str.occurrences x y 0 x.length (x.length + 1)).isEmpty || (y.length == 0 && z.length == 0))
  · rw [hc] at hq'
    simp only [Bool.false_eq_true, if_false] at hq' ⊢
    exact ⟨fits_replaced y hb, hq' _ _ (Nat.le_succ _)⟩
  · rw [hc] at hq'
    simp only [if_true] at hq' ⊢
    exact hq' t s.toks (Nat.le_refl _)
theorem sub_at {value slice : PySem.Expr} {A : Around} {E : Value → Shared → Prop} {s : Shared} {l : Addr} {us : List Value} {v : Value} {n : Nat} {k : Int} {u : Tok} {Q : Value → Shared → Prop} (ho : s.heap.get? l = some (listOf us.toArray n)) (h0 : 0 ≤ k) (h1 : k < 2 ^ 63) (hv : us[k.toNat]? = some v) (h : Q v s)
    (hs : subscripted slice false (.ref l) (.int k u) = operate [.ref l, .int k u] (getItem (.ref l) (.int k u)) := by with_unfolding_all rfl) :
    wpAny (model prog w) A (subscriptTail value slice (.ref l) (.int k u)) Q E s := by
  have hl : s.heap.IsList l us.toArray := PySem.IsL.isList ho
  exact tail_any hl.typeIs slot_list_getitem.lookup (wpAny_getItem_list hl h0 h1 (by simpa using hv) h) hs
theorem ink_pick (n : Nat) (a b : Value) : ([a, b] : List Value)[(((n : Nat) : Int).fmod 2).toNat]? = some (if n % 2 = 0 then a else b) ∧ 0 ≤ ((n : Nat) : Int).fmod 2 ∧ ((n : Nat) : Int).fmod 2 < 2 ^ 63 := by
  rw [Int.fmod_eq_emod_of_nonneg _ (by decide)]
  have : n % 2 = 0 ∨ n % 2 = 1 := by omega
  rcases this with h | h
  · have e : (((n : Nat) : Int) % 2) = 0 := by omega
    rw [e, if_pos h]; exact ⟨rfl, by decide, by decide⟩
  · have e : (((n : Nat) : Int) % 2) = 1 := by omega
    rw [e, if_neg (by omega)]; exact ⟨rfl, by decide, by decide⟩
theorem room_eq {il ml n : Nat} {n6 : Int} (h : 0 ≤ n6 ∧ n6 < 1000000) (hn : 2 ≤ n) : 2 * (il : Int) + 1 + ((n : Int) - 2) * (1 + (il : Int) + (ml : Int)) + (n6.fdiv 2).fmod (1 + (il : Int) + (ml : Int)) =
    ((2 * il + 1 + (n - 2) * (1 + il + ml) + n6.toNat / 2 % (1 + il + ml) : Nat) : Int) := by
  rw [Int.fdiv_eq_ediv_of_nonneg _ (by decide), Int.fmod_eq_emod_of_nonneg _ (by omega)]
  have e1 : n6 / 2 = ((n6.toNat / 2 : Nat) : Int) := by omega
  have e2 : (1 + (il : Int) + (ml : Int)) = ((1 + il + ml : Nat) : Int) := by omega
  have e3 : ((n : Int) - 2) = ((n - 2 : Nat) : Int) := by omega
  rw [e1, e2, e3, ← Int.natCast_emod, ← Int.natCast_mul]
  omega
theorem lts3 {a b c r : Addr} {oa ob oc : Obj} {more : List (Addr × Obj)} (h : @LT.lt Nat _ a r ∧ @LT.lt Nat _ b r ∧ @LT.lt Nat _ c r ∧ AllLt r more) : ∀ p ∈ (a, oa) :: (b, ob) :: (c, oc) :: more, @Ne Nat p.1 r := by
  intro p hp
  simp only [List.mem_cons] at hp
  rcases hp with rfl | rfl | rfl | hp
  · exact Nat.ne_of_lt h.1
  · exact Nat.ne_of_lt h.2.1
  · exact Nat.ne_of_lt h.2.2.1
  · exact Nat.ne_of_lt (allLt_to h.2.2.2 p hp)
theorem lts4 {a b c d r : Addr} {oa ob oc od : Obj} {more : List (Addr × Obj)} (h : @LT.lt Nat _ d r ∧ @LT.lt Nat _ a r ∧ @LT.lt Nat _ b r ∧ @LT.lt Nat _ c r ∧ AllLt r more) : ∀ p ∈ (a, oa) :: (b, ob) :: (d, od) :: (c, oc) :: more, @Ne Nat p.1 r := by
  intro p hp
  simp only [List.mem_cons] at hp
  rcases hp with rfl | rfl | rfl | rfl | hp
  · exact Nat.ne_of_lt h.2.1
  · exact Nat.ne_of_lt h.2.2.1
  · exact Nat.ne_of_lt h.1
  · exact Nat.ne_of_lt h.2.2.2.1
  · exact Nat.ne_of_lt (allLt_to h.2.2.2.2 p hp)
theorem news_swap {h₀ h : Heap} {L x a b d : Addr} {ox oa ob od : Obj} {more : List (Addr × Obj)} (N : News h₀ L h ((x, ox) :: (d, od) :: (a, oa) :: (b, ob) :: more)) : News h₀ L h ((x, ox) :: (a, oa) :: (b, ob) :: (d, od) :: more) :=
  News.sub N fun p hp => by
    simp only [List.mem_cons] at hp ⊢
    rcases hp with h | h | h | h | h
    · exact .inl h
    · exact .inr (.inr (.inl h))
    · exact .inr (.inr (.inr (.inl h)))
    · exact .inr (.inl h)
    · exact .inr (.inr (.inr (.inr h)))
theorem due_codes {ink mark : Str} (hi : InkOk ink) (hm : mark = Str.ofString "" ∨ mark = Str.ofString ".") {n : Nat} {l : List Nat} (hl : ∀ c ∈ l, c = 32 ∨ c = 9) : ∀ x ∈ dueRows ink mark n l, ∀ c ∈ x.cps.toList, c < 1114112 := by
  intro x hx c hc
  obtain ⟨q, _, rfl⟩ := List.mem_map.mp hx
  rw [rowS_list] at hc
  have hik : ∀ d ∈ ink.cps.toList, d < 1114112 := fun d hd => by
    rcases inkL hi with e | e <;> rw [e] at hd <;> simp at hd
    omega
  have hmk : ∀ d ∈ mark.cps.toList, d < 1114112 := fun d hd => by
    rcases hm with rfl | rfl
    · rw [show (Str.ofString "").cps.toList = [] from by decide +kernel] at hd; cases hd
    · rw [show (Str.ofString ".").cps.toList = [46] from by decide +kernel] at hd; simp at hd; omega
  rcases List.mem_append.mp hc with h | h
  · exact hik c h
  · obtain ⟨a, ha, hca⟩ := List.mem_flatten.mp h
    obtain ⟨d, hd, rfl⟩ := List.mem_map.mp ha
    rcases List.mem_append.mp hca with h | h
    · exact hmk c h
    · rcases List.mem_cons.mp h with rfl | h
      · rcases hl c (chunk_mem c hd) with h | h <;> omega
      · exact hik c h
theorem due_sum {ink mark : Str} {n : Nat} {l : List Nat} (h1 : ∀ y ∈ dueRows ink mark n l, y.length ≤ 1000) (h2 : (dueRows ink mark n l).length ≤ 20) : ((dueRows ink mark n l).map (·.length)).sum ≤ 20000 := by
  have := StrLaws.sumLen_le (B := 1000) _ h1
  omega
theorem sub_ink {value slice : PySem.Expr} {A : Around} {E : Value → Shared → Prop} {s : Shared} {l : Addr} {n nl : Nat} {ta tb : Tok} {u : Tok} {Q : Value → Shared → Prop} (ho : s.heap.get? l = some (listOf #[.str (Str.ofString "x ") ta, .str (Str.ofString "") tb] nl)) (h : ∀ ink ti, InkOk ink → Q (.str ink ti) s)
    (hs : subscripted slice false (.ref l) (.int (((n : Nat) : Int).fmod 2) u) = operate [.ref l, .int (((n : Nat) : Int).fmod 2) u] (getItem (.ref l) (.int (((n : Nat) : Int).fmod 2) u)) := by with_unfolding_all rfl) :
    wpAny (model prog w) A (subscriptTail value slice (.ref l) (.int (((n : Nat) : Int).fmod 2) u)) Q E s := by
  have hp := ink_pick n (.str (Str.ofString "x ") ta) (.str (Str.ofString "") tb)
  refine sub_at (us := [.str (Str.ofString "x ") ta, .str (Str.ofString "") tb]) ho hp.2.1 hp.2.2 hp.1 ?_ hs
  split
  · exact h _ _ (.inl rfl)
  · exact h _ _ (.inr rfl)
set_option maxHeartbeats 4000000 in
theorem sieve_turn {ci cm ct cd rn : Addr} {oi om : Obj} {more : List (Addr × Obj)} {mark left : Str} {n : Nat} {tf tm tz : Tok} {vi : Option Value} {n0 n1 n2 n3 n4 n5 n6 : Int} {t0 t1 t2 t3 t4 t5 t6 : Tok} {nnn : Nat} (B : Below A₀ base outer h₀) (X : (hd.heap_39 w.params).In h₀) (T : Top p loose mean mg mb h₀)
   (hdp : dp + 20 < recursionLimit) (hun : un + 64 < cLine) (hE : PassesOwn (model prog w) (lawA dp un gd L fa ccd ci cm ct cd outer) (lawE L fa ccd ci cm ct cd) E)
   (F : Fr h₀ L s.heap (kstB m [(Str.ofString "size", .int (n : Nat) tz), (Str.ofString "left", .str left tf), (Str.ofString "numbers", .ref rn)]))
   (N : News h₀ L s.heap ((ci, oi) :: (cm, om) :: (rn, listOf #[Value.int n0 t0, Value.int n1 t1, Value.int n2 t2, Value.int n3 t3, Value.int n4 t4, Value.int n5 t5, Value.int n6 t6] nnn) :: more))
   (hci : ∀ p ∈ (cm, om) :: (rn, listOf #[Value.int n0 t0, Value.int n1 t1, Value.int n2 t2, Value.int n3 t3, Value.int n4 t4, Value.int n5 t5, Value.int n6 t6] nnn) :: more, @Ne Nat p.1 ci)
   (hoi : oi.data = .cell vi) (hom : om.data = .cell (some (.str mark tm))) (hmark : mark = Str.ofString "" ∨ mark = Str.ofString ".") (hn : Hold (2 ≤ n ∧ n ≤ 5)) (hn6 : 0 ≤ n6 ∧ n6 < 1000000)
   (hll : Hold (left.length ≤ 20)) (hlc : ∀ c ∈ left.cps.toList, c = 32 ∨ c = 9)
   (hQ : ∀ h' tk m' left' tf' oi' vi', left'.cps.toList = strike n left.cps.toList → oi'.data = .cell vi' → Fr h₀ L h' (kstB m' [(Str.ofString "left", .str left' tf'), (Str.ofString "numbers", .ref rn)]) →
      News h₀ L h' ((ci, oi') :: (cm, om) :: (rn, listOf #[Value.int n0 t0, Value.int n1 t1, Value.int n2 t2, Value.int n3 t3, Value.int n4 t4, Value.int n5 t5, Value.int n6 t6] nnn) :: more) → Q .next {s with heap := h', toks := tk}) :
   wpAny (model prog w) (lawA dp un gd L fa ccd ci cm ct cd outer) (execs sieveBody (lawE L fa ccd ci cm ct cd)) Q E s := by
  dsimp only [sieveBody, lawBody, lawScope, PySem.Challenge.pw_rs0092_01, List.drop]
  have hb1 : left.length ≤ 1000 := Nat.le_trans hll.out (by decide)
  have hb2 : 2 ≤ n := hn.out.1
  have hb3 : n ≤ 1000 := Nat.le_trans hn.out.2 (by decide)
  have hb4 := markLen hmark
  k_steps
  rename Fr _ _ _ _ => F1
  rename News _ _ _ _ => N1
  refine sub_ink (News.get N1 (.head _)) (fun ink ti hink => ?_)
  replace N1 := News.sub N1 (fun p hp => .tail _ hp)
  have hb5 := inkLen hink
  dsimp only
  k_steps
  refine storeX_C F1 N1 rfl (.head hci) hoi (fun h2 oi2 F2 N2 hoi2 => ?_) rfl rfl
  clear F1 N1 hci hoi
  k_steps
  rename Fr _ _ _ _ => F3
  rename News _ _ _ _ => N3
  rename_i lr _ l1r _
  refine sign_loop (x := n6.toNat / 2 % (1 + ink.length + mark.length)) B X T hdp hE (Fr.has ⟨rfl, rfl, rfl, rfl, rfl, trivial⟩ F3) N3 (fun p hp => ?_) hoi2 hom hink hmark hb2 hn.out.2 (Nat.mod_lt _ (by omega)) (room_eq hn6 hb2) hll.out hlc ?_
  · exact lts3 l1r p hp
  intro vr nr h4 tk4 m4 hvr F4 N4
  clear F3 N3
  dsimp only
  k_steps
  rename Fr _ _ _ _ => F5
  rename News _ _ _ _ => N5
  rename_i ld _ l1d _
  refine due_loop B X T hdp hE (Fr.has ⟨rfl, rfl, rfl, rfl, rfl, trivial⟩ F5) (news_swap N5) (lts4 l1d) hoi2 hom hink hmark hn hll hlc ?_
  intro vd nd h6 tk6 m6 hvd F6 N6
  clear F5 N5
  dsimp only
  k_steps
  dsimp only
  have hct := due_count (ink := ink) (mark := mark) (l := left.cps.toList) hb2 (by simpa [PySem.Str.length] using hll.out)
  have hbd := due_bound (ink := ink) (mark := mark) (l := left.cps.toList) hb2 hn.out.2 hb5 hb4
  have hsum := due_sum hbd hct
  have hstk := strike_text hink hmark n hlc
  have hcod := due_codes hink hmark (n := n) hlc
  generalize hD : dueRows ink mark n left.cps.toList = D at *
  refine ne_strs (vs := vr) (ws := vd) (n1 := nr) (n2 := nd) (xs := D) (News.get N6 (.tail _ (.tail _ (.tail _ (.head _))))) (News.get N6 (.head _)) hvr hvd hcod (by exact hun) ?_
  try dsimp only
  have N7 := News.sub (news := [(lr, listOf vr.toArray nr)]) N6 (fun p hp => by rw [List.mem_singleton.mp hp]; exact .tail _ (.tail _ (.tail _ (.head _))))
  k_steps
  have e0 : (Str.ofString "").length = 0 := by decide +kernel
  refine join_listG (News.isList N7 (.head _)) hvr (by rw [e0]; omega) (fun tj kj hkj => ?_)
  have hjl : (Txt.join (Str.ofString "") D).length ≤ 20000 := by
    have := StrLaws.join_length_le (Str.ofString "") D
    rw [e0] at this
    rw [show Txt.join (Str.ofString "") D = Str.join (Str.ofString "") D from StrLaws.glued_eq_join _ _]
    omega
  clear N7 hvr hvd hct hbd hsum hcod hD
  generalize Txt.join (Str.ofString "") D = jt at *
  dsimp only at hkj
  have hkj0 : kj ≠ 0 := by omega
  k_steps
  refine replaceG hkj0 (Nat.succ_ne_zero _) (Nat.ne_of_lt (Nat.lt_succ_self _)) (by decide +kernel) (by rw [e0]; omega) (fun t8 k8 hk8 => ?_)
  dsimp only at hk8
  have hk80 : k8 ≠ 0 := by omega
  have hrl : (Txt.replace jt (Str.ofString ".") (Str.ofString "")).length ≤ 20000 := by
    have h1 := congrArg List.length (replace_strikes jt 46)
    rw [← show Str.ofString "." = ⟨#[46]⟩ from by decide +kernel, ← show Str.ofString "" = ⟨#[]⟩ from by decide +kernel] at h1
    have h2 := List.length_filter_le (fun x => x != 46) jt.cps.toList
    rw [← h1] at h2
    simp only [Array.length_toList] at h2
    exact Nat.le_trans h2 hjl
  generalize Txt.replace jt (Str.ofString ".") (Str.ofString "") = jt2 at *
  k_steps
  refine replaceG hk80 (Nat.succ_ne_zero _) (Nat.ne_of_lt (Nat.lt_succ_self _)) (by decide +kernel) (by rw [e0]; omega) (fun t9 k9 hk9 => ?_)
  k_steps
  rename Fr _ _ _ _ => F9
  rename News _ _ _ _ => N9
  refine hQ _ _ _ _ _ oi2 _ hstk hoi2 (Fr.has ⟨rfl, rfl, trivial⟩ F9) (News.sub N9 (fun p hp => ?_))
  simp only [List.mem_cons] at hp ⊢
  rcases hp with h | h | h | h
  · exact .inr (.inl h)
  · exact .inr (.inr (.inl h))
  · exact .inr (.inr (.inr (.inr (.inl h))))
  · exact .inr (.inr (.inr (.inr (.inr h))))
end
end
section
section
variable {prog p : Program} {loose : List Str} {w : World} {mean : ExcName → Option Value} {mg mb : Str → Option Value}
  {dp un : Nat} {gd : Option (List Code)} {fa : Addr} {ccd : Value} {outer : List Env} {A₀ : Around} {base h₀ : Heap} {L : Addr} {m : Str → Option Value} {s : Shared} {E : Value → Shared → Prop} {Q : Flow → Shared → Prop}
theorem up_small {last : Nat} (h3 : 2 ≤ last) (h4 : last ≤ 5) : Builtin.Range.small 2 ((last : Int) + 1) 1 = true ∧ Builtin.Range.rangeSize 2 ((last : Int) + 1) 1 = ((last - 1 : Nat) : Int) := by
  have : last = 2 ∨ last = 3 ∨ last = 4 ∨ last = 5 := by omega
  rcases this with rfl | rfl | rfl | rfl <;> exact ⟨by decide, by decide⟩
set_option maxHeartbeats 4000000 in
theorem law3 {ci cm ct cd : Addr} {lead mark : Str} {last : Nat} {n6 : Int} (B : Below A₀ base outer h₀) (X : (hd.heap_39 w.params).In h₀) (T : Top p loose mean mg mb h₀)
   (hne : cd < ct ∧ ct < cm ∧ cm < ci) (hdp : dp + 20 < recursionLimit) (hun : un + 64 < cLine) (hE : PassesOwn (model prog w) (lawA dp un gd L fa ccd ci cm ct cd outer) (lawE L fa ccd ci cm ct cd) E) (hok : LeadOk lead mark last n6) (hp : P5 h₀ L ci cm ct cd lead mark last n6 s.heap)
   (hN : ∀ h' tk left, left.cps.toList = strikes (last - 1) lead.cps.toList → P10 h₀ L ci cm ct cd lead left mark last h' → wpAny (model prog w) (lawA dp un gd L fa ccd ci cm ct cd outer) (execs (lawBody.drop 10) (lawE L fa ccd ci cm ct cd)) Q E {s with heap := h', toks := tk}) :
   wpAny (model prog w) (lawA dp un gd L fa ccd ci cm ct cd outer) (execs (lawBody.drop 8) (lawE L fa ccd ci cm ct cd)) Q E s := by
  have hne1 := ltN hne.1
  have hne2 := ltN hne.2.1
  have hne3 := ltN hne.2.2
  clear hne
  obtain ⟨u, rn, nnn, n0, n1, n2, n3, n4, n5, t0, t1, t2, t3, t4, t5, t6, oi, om, ot, od, tl, tt, tm, vi, F, N, hoi, hom, hot, hod, hd1, hd2, hd3, hd4⟩ := hp
  obtain ⟨ok1, ok2, ok3, ok4, ok5, ok6, ok7, ok8⟩ := id hok
  have ok45 := Hold.mk (And.intro ok4 ok5)
  clear ok4 ok5
  dsimp only [lawBody, lawScope, PySem.Challenge.pw_rs0092_01, List.drop]
  walk1
  k_steps
  rename Fr _ _ _ _ => F1
  refine For_invVF F1 rfl rfl ?_ (hE := hE)
  k_steps
  rename Fr _ _ _ _ => F2
  rename News _ _ _ _ => N2
  rename IsRange _ _ _ _ _ _ _ _ => R2
  have hrs := up_small ok45.out.1 ok45.out.2
  refine rangeLoop (n := last - 1) (fun i m news => ∃ left tf oi vi, left.cps.toList = strikes i lead.cps.toList ∧ oi.data = Data.cell vi ∧ news = [(rn, listOf #[Value.int n0 t0, Value.int n1 t1, Value.int n2 t2, Value.int n3 t3, Value.int n4 t4, Value.int n5 t5, Value.int n6 t6] nnn), (ci, oi), (cm, om), (ct, ot), (cd, od)] ∧ Has m [(Str.ofString "left", .str left tf), (Str.ofString "numbers", .ref rn)]) rfl R2 hrs.1 hrs.2 F2 N2 ⟨lead, tl, oi, vi, rfl, hoi, rfl, rfl, rfl, trivial⟩ ?_ ?_
  · rintro i k t m₁ news₁ h tk own hi rfl hex hoff ⟨left, tf, oi, vi, hleft, hoi, rfl, hm⟩ F3 N3
    clear F2 N2 R2 hrs
    replace F3 : Fr h₀ L h _ := Fr.hasX hm F3
    replace N3 : News h₀ L h _ := N3
    have ek : (2 : Int) + (i : Int) * 1 = ((i + 2 : Nat) : Int) := by omega
    rw [ek] at F3
    have hll : left.length ≤ 20 := by
      have := strikes_length (l := lead.cps.toList) (i := i) (by simpa [PySem.Str.length] using ok1) (by simpa [PySem.Str.length] using ok2) (by have := ok45.out; omega)
      rw [← hleft] at this
      simpa [PySem.Str.length] using this
    have hlc : ∀ c ∈ left.cps.toList, c = 32 ∨ c = 9 := fun c hc => ok3 c (strikes_mem (hleft ▸ hc))
    have N4 : News h₀ L h ((ci, oi) :: (cm, om) :: (rn, listOf #[Value.int n0 t0, Value.int n1 t1, Value.int n2 t2, Value.int n3 t3, Value.int n4 t4, Value.int n5 t5, Value.int n6 t6] nnn) :: (ct, ot) :: (cd, od) :: own) := News.sub N3 (fun p hp => by
      simp only [List.mem_cons, List.mem_append, List.cons_append, List.nil_append] at hp ⊢
      rcases hp with h | h | h | h
      · exact .inr (.inl h)
      · exact .inr (.inr (.inl h))
      · exact .inl h
      · exact .inr (.inr (.inr h)))
    refine sieve_turn B X T hdp hun hE F3 N4 (fun p hp => ?_) hoi hom ok6 (Hold.mk ⟨by omega, by have := ok45.out; omega⟩) ⟨ok7, ok8⟩ (Hold.mk hll) hlc ?_
    · simp only [List.mem_cons] at hp
      rcases hp with rfl | rfl | rfl | rfl | hp
      · dsimp only; omega
      · dsimp only; omega
      · dsimp only; omega
      · dsimp only; omega
      · exact own_ne hoff (.tail _ (.head _)) p hp
    · intro h' tk' m' left' tf' oi' vi' hs' hoi' F5 N5
      refine endG [(rn, _), (ci, oi'), (cm, om), (ct, ot), (cd, od)] F5 N5 ⟨left', tf', oi', vi', ?_, hoi', rfl, rfl, rfl, trivial⟩ hoff (fun p hp => ?_) (fun p hp => ?_)
      · rw [hs', hleft]; rfl
      · simp only [List.mem_cons, List.mem_nil_iff, or_false] at hp ⊢
        rcases hp with h | h | h | h | h
        · exact .inr (.inr (.inl h))
        · exact .inl h
        · exact .inr (.inl h)
        · exact .inr (.inr (.inr (.inl h)))
        · exact .inr (.inr (.inr (.inr (.inl h))))
      · simp only [List.mem_cons]
        exact .inr (.inr (.inr (.inr (.inr hp))))
  · rintro m₁ news₁ h tk ⟨left, tf, oi, vi, hleft, hoi, rfl, hm⟩ F3 N3
    clear F2 N2 R2 hrs
    replace F3 : Fr h₀ L h _ := Fr.has hm F3
    replace N3 : News h₀ L h _ := N3
    exact hN _ _ left hleft ⟨_, _, _, _, _, _, _, _, _, tf, Fr.has ⟨rfl, trivial⟩ F3, News.sub N3 (fun p hp => .tail _ hp), hoi, hom, hot, hod⟩
end
end
section
section
variable {prog p : Program} {loose : List Str} {w : World} {mean : ExcName → Option Value} {mg mb : Str → Option Value}
  {dp un : Nat} {gd : Option (List Code)} {fa : Addr} {ccd : Value} {outer : List Env} {A₀ : Around} {base h₀ : Heap} {L : Addr} {m : Str → Option Value} {s : Shared} {E : Value → Shared → Prop} {Q : Flow → Shared → Prop}
theorem place_small : ∀ a < 4, ∀ b < 4, Builtin.Range.small 1 (((a + 17 : Nat) : Int).fdiv ((b + 2 : Nat) : Int) + 1) 1 = true ∧ Builtin.Range.rangeSize 1 (((a + 17 : Nat) : Int).fdiv ((b + 2 : Nat) : Int) + 1) 1 = (((a + 17) / (b + 2) : Nat) : Int) := by decide +kernel
theorem place_range {len last : Nat} (h1 : 17 ≤ len ∧ len ≤ 20) (h2 : 2 ≤ last ∧ last ≤ 5) : Builtin.Range.small 1 ((len : Int).fdiv (last : Int) + 1) 1 = true ∧ Builtin.Range.rangeSize 1 ((len : Int).fdiv (last : Int) + 1) 1 = ((len / last : Nat) : Int) := by
  have := place_small (len - 17) (by omega) (last - 2) (by omega)
  rw [show len - 17 + 17 = len from by omega, show last - 2 + 2 = last from by omega] at this
  exact this
theorem div_le10 {len last : Nat} (h1 : 17 ≤ len ∧ len ≤ 20) (h2 : 2 ≤ last ∧ last ≤ 5) : len / last ≤ 10 :=
  Nat.div_le_of_le_mul (by have : 2 * 10 ≤ last * 10 := Nat.mul_le_mul_right _ h2.1; omega)
theorem places_paired {f : Nat → Nat} : ∀ (n k : Nat) (vs ys : List Value), vs.length = n → (∀ (j : Nat) (v : Value), vs[j]? = some v → ∃ t, v = Value.int ((k : Int) + (j : Int)) t) →
    Paired (fun v y => ∀ k t, v = .int k t → ∃ t', y = Value.int (f k.toNat : Nat) t') vs ys → IntsAre ys ((List.range n).map fun q => ((f (k + q) : Nat) : Int))
  | 0, _, [], _, _, _, hp => by cases hp; exact .nil
  | 0, _, _ :: _, _, h, _, _ => by simp at h
  | _ + 1, _, [], _, h, _, _ => by simp at h
  | n + 1, k, v :: vs, ys, h, hv, hp => by
    cases hp with
    | cons hF hr =>
      obtain ⟨t, rfl⟩ := hv 0 v rfl
      obtain ⟨t', rfl⟩ := hF _ t rfl
      have ih := places_paired (f := f) n (k + 1) vs _ (by simpa using h) (fun j v e => by
        obtain ⟨t, e⟩ := hv (j + 1) v (by simpa using e)
        exact ⟨t, by rw [e]; congr 1; omega⟩) hr
      rw [List.range_succ_eq_map, List.map_cons, List.map_map]
      have e0 : ((k : Int) + ((0 : Nat) : Int)).toNat = k + 0 := by omega
      rw [e0]
      have e1 : ((fun q => ((f (k + q) : Nat) : Int)) ∘ Nat.succ) = fun q => ((f (k + 1 + q) : Nat) : Int) := by
        funext q
        show ((f (k + (q + 1)) : Nat) : Int) = _
        rw [show k + (q + 1) = k + 1 + q from by omega]
      rw [e1]
      exact .cons _ _ ih
theorem ints_at {vs : List Value} {ns : List Int} (h : IntsAre vs ns) {i : Nat} {k : Int} {t : Tok} (e : vs[i]? = some (.int k t)) : ns[i]? = some k := by
  induction h generalizing i with
  | nil => simp at e
  | cons k' t' _ ih =>
    cases i with
    | zero => simp at e; rw [e.1]; rfl
    | succ i => exact ih (by simpa using e)
theorem place_pos {len last j : Nat} {k : Int} (h1 : 17 ≤ len ∧ len ≤ 20) (h2 : 2 ≤ last ∧ last ≤ 5) (e : ((List.range (len / last)).map fun q => ((placeOf (1 + q) last : Nat) : Int))[j]? = some k) : 1 ≤ k := by
  rw [List.getElem?_map] at e
  have h10 := div_le10 h1 h2
  rcases Nat.lt_or_ge j (len / last) with h | h
  · rw [List.getElem?_range h] at e
    simp only [Option.map_some, Option.some.injEq] at e
    have := (placeIt_le (number := 1 + j) (last := last) (by omega) (by omega) h2.1 h2.2 (last - 1) (Nat.le_refl _)).1
    rw [← e, placeOf]
    omega
  · rw [List.getElem?_eq_none (by simpa using h)] at e
    simp at e
theorem item_at (x : Str) {k : Int} (h1 : 1 ≤ k) (h2 : k ≤ (x.length : Int)) : Txt.item x (k - 1) = oneS (x.cps.toList.getD (k.toNat - 1) 0) := by
  have e : seqIndex? (k - 1) x.length = some (k.toNat - 1) := by
    have h3 : k - 1 = ((k.toNat - 1 : Nat) : Int) := by omega
    rw [h3]
    unfold seqIndex?
    have h4 : ¬ (((k.toNat - 1 : Nat) : Int) < 0) := by omega
    simp [h4]
    omega
  rw [Txt.item, Txt.charAt, e]
  simp [List.getD, oneS]
def leP (len : Nat) (v : Value) : Bool := match v with | .int k _ => decide (k ≤ (len : Int)) | _ => false
def PickF (l : List Nat) (v y : Value) : Prop := ∀ k t, v = .int k t → ∃ t', y = Value.str (oneS (l.getD (k.toNat - 1) 0)) t'
theorem pick_paired {l : List Nat} {len : Nat} : ∀ {qs : List Nat} {vs ys : List Value}, IntsAre vs (qs.map fun q : Nat => (q : Int)) → Paired (PickF l) (vs.filter (leP len)) ys → StrsAre ys (((qs.filter (· ≤ len)).map fun q => l.getD (q - 1) 0).map oneS)
  | [], _, _, h, hp => by
    cases h; cases hp; exact .nil
  | q :: qs, _, ys, h, hp => by
    cases h with
    | cons _ t r =>
      by_cases hq : q ≤ len
      · have e : leP len (.int (q : Int) t) = true := decide_eq_true (by omega)
        rw [List.filter_cons_of_pos e] at hp
        rw [List.filter_cons_of_pos (by simpa using hq)]
        cases hp with
        | cons hF hr =>
          obtain ⟨t', rfl⟩ := hF _ _ rfl
          have e2 : ((q : Int).toNat) = q := by omega
          rw [e2]
          exact .cons _ _ (pick_paired r hr)
      · have e : ¬ leP len (.int (q : Int) t) = true := fun h => hq (by have : (q : Int) ≤ len := of_decide_eq_true (p := (q : Int) ≤ len) h; omega)
        rw [List.filter_cons_of_neg e] at hp
        rw [List.filter_cons_of_neg (by simpa using hq)]
        exact pick_paired r hp
set_option maxHeartbeats 4000000 in
theorem law4 {ci cm ct cd : Addr} {lead left mark : Str} {last : Nat} {n6 : Int} (B : Below A₀ base outer h₀) (X : (hd.heap_39 w.params).In h₀) (T : Top p loose mean mg mb h₀)
   (hdp : dp + 20 < recursionLimit) (hok : LeadOk lead mark last n6) (hleft : left.cps.toList = strikes (last - 1) lead.cps.toList) (hp : P10 h₀ L ci cm ct cd lead left mark last s.heap)
   (hN : ∀ h' tk, P10 h₀ L ci cm ct cd lead left mark last h' → wpAny (model prog w) (lawA dp un gd L fa ccd ci cm ct cd outer) (execs (lawBody.drop 12) (lawE L fa ccd ci cm ct cd)) Q E {s with heap := h', toks := tk}) :
   wpAny (model prog w) (lawA dp un gd L fa ccd ci cm ct cd outer) (execs (lawBody.drop 10) (lawE L fa ccd ci cm ct cd)) Q E s := by
  obtain ⟨u, oi, om, ot, od, tl, tt, tm, vi, tf, F, N, hoi, hom, hot, hod⟩ := hp
  obtain ⟨ok1, ok2, ok3, ok4, ok5, ok6, ok7, ok8⟩ := id hok
  have ok45 := Hold.mk (And.intro ok4 ok5)
  have ok12 := Hold.mk (And.intro ok1 ok2)
  have hb1 : lead.length ≤ 1000 := by omega
  have hb2 : 2 ≤ last := ok4
  have hb3 : last ≤ 1000 := by omega
  clear ok4 ok5 ok1 ok2
  dsimp only [lawBody, lawScope, PySem.Challenge.pw_rs0092_01, List.drop]
  walk1
  refine assignComp_own (fun _ => true) (fun v y => ∀ k t, v = .int k t → ∃ t', y = .int (placeOf k.toNat last : Nat) t') (by with_unfolding_all rfl) (by with_unfolding_all rfl) (by decide) rfl (by decide) rfl rfl rfl ?_
  k_steps
  rename Fr _ _ _ _ => F2
  rename News _ _ _ _ => N2
  rename IsRange _ _ _ _ _ _ _ _ => R2
  have hrs := place_range ok12.out ok45.out
  have h10 := div_le10 ok12.out ok45.out
  refine compRangeA rfl R2 hrs.1 hrs.2 (by rw [sizeLine_eq]; omega) ⟨?_, ?_⟩ F2 N2 ?_
  · intro C j v s₃ m₃ E' hC hP hn hm hk
    exact wpAny_tests_nil ⟨rfl, s₃.heap, s₃.toks, rfl, fun _ _ e => e⟩
  · intro C j v s₃ m₃ E' hC hP _ hn' hm' hk
    obtain ⟨hj, tj, rfl⟩ := hP
    have ej : (1 : Int) + (j : Int) * 1 = ((j + 1 : Nat) : Int) := by omega
    rw [ej] at hm' ⊢
    replace F2 := Fr.keeps F2 hk
    replace N2 := News.grown N2 hk
    refine wpAny_mono (Q := fun y s₄ => Hold ((∀ k t, Value.int ((j + 1 : Nat) : Int) tj = Value.int k t → ∃ t', y = Value.int (placeOf k.toNat last : Nat) t') ∧ Keeps s₃ s₄)) ?_ (fun _ _ h => h) (fun _ _ h => h)
    k_steps
    refine place_call B F2 X T rfl (by ktr_room) (j + 1) last (by omega) (by omega) ok45.out.1 ok45.out.2 _ _ (fun t9 h9 tk9 hE9 => ?_)
    exact Hold.mk ⟨fun k t e => by cases e; exact ⟨_, rfl⟩, _, _, rfl, hE9⟩
  · intro D h3 tk3 ys vs hD hpl hvl hvs hPF F3 N3
    rw [List.filter_eq_self.mpr (fun _ _ => rfl)] at hPF
    have hI3 := places_paired (f := fun q => placeOf q last) _ 1 vs ys.toList hvl (fun j v e => by
      obtain ⟨t, e⟩ := hvs j v e
      exact ⟨t, by rw [e]; congr 1; omega⟩) hPF
    obtain ⟨nd, hpl⟩ := hpl
    have N4 := News.app (News.new F2 hD hpl) N3
    dsimp only [List.cons_append, List.nil_append] at N4
    clear N3 F2 N2 R2 hPF hvs hpl hD
    rename Fr h₀ L s.heap _ => Fx
    rename News h₀ L s.heap _ => Nx
    clear Fx Nx hrs
    replace F3 : Fr h₀ L h3 _ := Fr.has (ps := [(Str.ofString "places", Value.ref D), (Str.ofString "left", Value.str left tf)]) ⟨rfl, rfl, trivial⟩ F3
    dsimp only
    k_steps
    refine listComp_own (leP lead.length) (PickF lead.cps.toList) (by with_unfolding_all rfl) (by decide) rfl (by decide) rfl ?_
    k_steps
    have hyl := hI3.length
    rw [List.length_map, List.length_range] at hyl
    rename Fr _ _ _ _ => F5
    rename News _ _ _ _ => N5
    refine compList (items := ys.toList) rfl (by simpa using News.isList N5 (.head _)) (by rw [sizeLine_eq]; omega) ⟨?_, ?_⟩ ?_
    · intro C j v s₃ m₃ E' hC hP hn hm hk
      obtain ⟨k, tk, rfl⟩ := ints_item hI3 hP
      replace F5 := Fr.keeps F5 hk
      replace N5 := News.grown N5 hk
      refine wpAny_tests_one ?_
      refine wpAny_mono (Q := fun ok s₄ => Hold (ok = decide (k ≤ (lead.length : Int)) ∧ Keeps s₃ s₄)) ?_ (fun _ _ h => h) (fun _ _ h => h)
      k_steps
      exact Hold.mk ⟨rfl, _, _, rfl, fun _ _ e => e⟩
    · intro C j v s₃ m₃ E' hC hP hpv hn' hm' hk
      obtain ⟨k, tk, rfl⟩ := ints_item hI3 hP
      have hk1 : k ≤ (lead.length : Int) := of_decide_eq_true hpv
      have hk0 : 1 ≤ k := place_pos ok12.out ok45.out (ints_at hI3 hP)
      replace F5 := Fr.keeps F5 hk
      replace N5 := News.grown N5 hk
      refine wpAny_mono (Q := fun y s₄ => Hold ((∀ k' t', Value.int k tk = Value.int k' t' → ∃ t'', y = Value.str (oneS (lead.cps.toList.getD (k'.toNat - 1) 0)) t'') ∧ Keeps s₃ s₄)) ?_ (fun _ _ h => h) (fun _ _ h => h)
      k_steps
      rw [item_at lead hk0 hk1]
      exact Hold.mk ⟨fun k' t' e => by cases e; exact ⟨_, rfl⟩, _, _, rfl, fun _ _ e => e⟩
    · intro D2 h4 tk4 zs hD2 hpl2 hPF hk
      have hI4 : IntsAre ys.toList ((placesOf last lead.length).map fun q : Nat => (q : Int)) := by
        have e : (placesOf last lead.length).map (fun q : Nat => (q : Int)) = (List.range (lead.length / last)).map fun q => ((placeOf (1 + q) last : Nat) : Int) := by
          rw [placesOf, List.map_map]
          refine List.map_congr_left fun q _ => ?_
          show ((placeOf (q + 1) last : Nat) : Int) = _
          rw [Nat.add_comm q 1]
        rw [e]; exact hI3
      have hst := pick_paired hI4 hPF
      have hjoin : Txt.join (Str.ofString "") ((((placesOf last lead.length).filter (· ≤ lead.length)).map fun q => lead.cps.toList.getD (q - 1) 0).map oneS) = left := by
        apply str_ext
        rw [join_ones, hleft, strikes_places (by simpa [PySem.Str.length] using ok12.out.1) (by simpa [PySem.Str.length] using ok12.out.2) ok45.out.1 ok45.out.2, show lead.cps.toList.length = lead.length from by simp [PySem.Str.length]]
      have hlen : (((placesOf last lead.length).filter (· ≤ lead.length)).map fun q => lead.cps.toList.getD (q - 1) 0).length ≤ 10 := by
        rw [List.length_map]
        refine Nat.le_trans (List.length_filter_le _ _) ?_
        rw [placesOf, List.length_map, List.length_range]; exact h10
      obtain ⟨nz, hpl2⟩ := hpl2
      have hls : h4.IsList D2 zs := PySem.IsL.isList hpl2
      replace F5 := Fr.keeps F5 hk
      replace N5 := News.grown N5 hk
      k_steps
      refine join_list hls hst ?_ (fun tj kj => ?_)
      · rw [show (Str.ofString "").length = 0 from by decide +kernel, List.map_map]
        have := ls_len (((placesOf last lead.length).filter (· ≤ lead.length)).map fun q => lead.cps.toList.getD (q - 1) 0)
        omega
      rw [hjoin]
      clear hst hjoin hlen hls hpl2 hPF hI4
      k_steps
      rw [if_neg (by simp)]
      k_steps
      rename Fr _ _ _ _ => F9
      rename News _ _ _ _ => N9
      exact hN _ _ ⟨_, oi, om, ot, od, tl, tt, tm, vi, tf, Fr.has ⟨rfl, trivial⟩ F9, News.sub N9 (fun p hp => .tail _ hp), hoi, hom, hot, hod⟩
end
end
section
def lvT (step : Nat) (cnt : List Int) : Nat → Int
  | 0 => 0
  | k + 1 => lvT step cnt k + ((k / step : Nat) : Int) * cnt.getD k 0
theorem lvT_small {step : Nat} {cnt : List Int} : ∀ {k : Nat}, k ≤ step → lvT step cnt k = 0
  | 0, _ => rfl
  | k + 1, h => by
    rw [lvT, lvT_small (by omega), Nat.div_eq_of_lt (by omega)]; simp
theorem lvT_sum {step : Nat} {cnt : List Int} : ∀ k, lvT step cnt (step + k) = lvSum step cnt k
  | 0 => lvT_small (Nat.le_refl _)
  | k + 1 => by
    show lvT step cnt (step + k) + _ = _
    rw [lvT_sum k]; rfl
theorem lvT_len (step : Nat) (cnt : List Int) : lvSum step cnt (cnt.length - step) = lvT step cnt cnt.length := by
  rcases Nat.le_total cnt.length step with h | h
  · rw [lvT_small h, Nat.sub_eq_zero_of_le h]; rfl
  · conv => rhs; rw [show cnt.length = step + (cnt.length - step) from by omega]
    exact (lvT_sum _).symm
theorem lvT_far {step : Nat} {cnt : List Int} : ∀ k, lvT step cnt (cnt.length + k) = lvT step cnt cnt.length
  | 0 => rfl
  | k + 1 => by
    show lvT step cnt (cnt.length + k) + (((cnt.length + k) / step : Nat) : Int) * cnt.getD (cnt.length + k) 0 = _
    rw [lvT_far k]
    have : cnt.getD (cnt.length + k) 0 = 0 := by
      rw [List.getD_eq_getElem?_getD, List.getElem?_eq_none (by omega)]; rfl
    rw [this]; simp
theorem lvT_at {step b : Nat} {cnt cnt' : List Int} (h : ∀ i, cnt'.getD i 0 = cnt.getD i 0 + if i = b then 1 else 0) : ∀ k, lvT step cnt' k = lvT step cnt k + if b < k then ((b / step : Nat) : Int) else 0
  | 0 => by simp [lvT]
  | k + 1 => by
    rw [lvT, lvT, lvT_at h k, h k]
    by_cases hb : k = b
    · subst hb
      rw [if_neg (by omega), if_pos rfl, if_pos (by omega), Int.mul_add]; omega
    · rw [if_neg hb]
      by_cases hk : b < k
      · rw [if_pos hk, if_pos (by omega)]; simp; omega
      · rw [if_neg hk, if_neg (by omega)]; simp
theorem grow_len (cnt : List Int) (b : Nat) : (wsGrow cnt b).length = max cnt.length (b + 1) := by
  unfold wsGrow
  split
  · simp; omega
  · omega
theorem grow_get (cnt : List Int) (b i : Nat) : (wsGrow cnt b).getD i 0 = cnt.getD i 0 := by
  unfold wsGrow
  split
  · rw [List.getD_eq_getElem?_getD, List.getD_eq_getElem?_getD]
    rcases Nat.lt_or_ge i cnt.length with h | h
    · rw [List.getElem?_append_left h]
    · rw [List.getElem?_append_right h, List.getElem?_eq_none h, List.getElem?_replicate]
      split <;> rfl
  · rfl
theorem set_get (l : List Int) (b i : Nat) (v : Int) (hb : b < l.length) : (l.set b v).getD i 0 = if i = b then v else l.getD i 0 := by
  rw [List.getD_eq_getElem?_getD, List.getElem?_set]
  by_cases h : b = i
  · subst h; simp [hb]
  · rw [if_neg h, if_neg (fun e => h e.symm), List.getD_eq_getElem?_getD]
theorem level_tab (st : WsS) (step : Nat) (c : Nat) (hc : c ≠ 32) : levelOf (wsStep st c) step = (step : Int) * (lvSum step st.cnt (st.cnt.length - step) + ((st.b / step : Nat) : Int) + st.nt + 1) := by
  have hb : st.b < (wsGrow st.cnt st.b).length := by rw [grow_len]; omega
  have hg : ∀ i, ((wsGrow st.cnt st.b).set st.b ((wsGrow st.cnt st.b).getD st.b 0 + 1)).getD i 0 = st.cnt.getD i 0 + if i = st.b then 1 else 0 := by
    intro i
    rw [set_get _ _ _ _ hb]
    by_cases h : i = st.b
    · rw [if_pos h, if_pos h, grow_get, h]
    · rw [if_neg h, if_neg h, grow_get, Int.add_zero]
  have e : wsStep st c = ⟨(wsGrow st.cnt st.b).set st.b ((wsGrow st.cnt st.b).getD st.b 0 + 1), 0, st.n + 1, st.nt + 1⟩ := by
    unfold wsStep; rw [if_neg hc]
  rw [e, levelOf]
  dsimp only
  rw [lvT_len, lvT_at hg, List.length_set, if_pos hb, lvT_len, grow_len]
  have e2 : max st.cnt.length (st.b + 1) = st.cnt.length + (max st.cnt.length (st.b + 1) - st.cnt.length) := by omega
  rw [e2, lvT_far]
  push_cast
  simp only [Int.zero_add]
  congr 1
  omega
theorem colStep_level (st : WsS) {step : Nat} (hs : 1 ≤ step) {c : Nat} (hc : c = 32 ∨ c = 9) : colStep step (levelOf st step) c = levelOf (wsStep st c) step := by
  rcases hc with rfl | rfl
  · unfold colStep
    rw [if_neg (by decide)]
    show _ = levelOf { st with b := st.b + 1, n := st.n + 1 } step
    unfold levelOf
    dsimp only
    push_cast
    omega
  · unfold colStep
    rw [if_pos rfl, level_tab st step 9 (by decide)]
    unfold levelOf
    generalize lvSum step st.cnt (st.cnt.length - step) = S
    have h1 : (((st.b : Int) + (step : Int) * (S + (st.nt : Int))).fmod (step : Int)) = ((st.b % step : Nat) : Int) := by
      rw [Int.fmod_eq_emod_of_nonneg _ (by omega), Int.add_mul_emod_self_left]
      rfl
    rw [h1]
    have h2 := Nat.div_add_mod st.b step
    have h3 : ((step * (st.b / step) : Nat) : Int) = (step : Int) * ((st.b / step : Nat) : Int) := by push_cast; rfl
    rw [Int.mul_add, Int.mul_add, Int.mul_add, Int.mul_add, ← h3, Int.mul_one]
    omega
theorem level_fold {step : Nat} (hs : 1 ≤ step) : ∀ {l : List Nat} (st : WsS), (∀ c ∈ l, c = 32 ∨ c = 9) → l.foldl (colStep step) (levelOf st step) = levelOf (l.foldl wsStep st) step
  | [], _, _ => rfl
  | c :: l, st, h => by
    rw [List.foldl_cons, List.foldl_cons, colStep_level st hs (h c (.head _)), level_fold hs _ (fun d hd => h d (.tail _ hd))]
theorem level_col {step : Nat} (hs : 1 ≤ step) {l : List Nat} (h : ∀ c ∈ l, c = 32 ∨ c = 9) : levelOf (wsOf l) step = colOf step l := by
  have := level_fold hs ⟨[], 0, 0, 0⟩ h
  have e : levelOf ⟨[], 0, 0, 0⟩ step = 0 := by simp [levelOf, lvSum]
  rw [e] at this
  exact this.symm
end
section
theorem colStep_tab (step : Nat) (hs : 1 ≤ step) (c : Int) : colStep step c 9 = (step : Int) * (c / (step : Int) + 1) := by
  unfold colStep
  rw [if_pos rfl, Int.fmod_eq_emod_of_nonneg _ (by omega)]
  have := Int.mul_ediv_add_emod c step
  rw [Int.mul_add, Int.mul_one]
  omega
theorem colStep_mono {step : Nat} (hs : 1 ≤ step) {c c' : Int} (h : c ≤ c') (x : Nat) (hx : x = 32 ∨ x = 9) : colStep step c x ≤ colStep step c' x := by
  rcases hx with rfl | rfl
  · unfold colStep
    rw [if_neg (by decide), if_neg (by decide)]; omega
  · rw [colStep_tab step hs, colStep_tab step hs]
    have := Int.ediv_le_ediv (a := c) (b := c') (c := step) (by omega) h
    exact Int.mul_le_mul_of_nonneg_left (by omega) (by omega)
theorem colStep_up {step : Nat} (hs : 1 ≤ step) (c : Int) (x : Nat) (hx : x = 32 ∨ x = 9) : c ≤ colStep step c x := by
  rcases hx with rfl | rfl
  · unfold colStep
    rw [if_neg (by decide)]; omega
  · unfold colStep
    rw [if_pos rfl]
    have := Int.fmod_lt_of_pos c (show (0 : Int) < step by omega)
    omega
theorem col_sub {step : Nat} (hs : 1 ≤ step) {a b : List Nat} (h : List.Sublist a b) : ∀ {c c' : Int}, (∀ x ∈ b, x = 32 ∨ x = 9) → c ≤ c' → a.foldl (colStep step) c ≤ b.foldl (colStep step) c' := by
  induction h with
  | slnil => intro c c' _ h; exact h
  | cons x _ ih =>
    intro c c' hb hc
    rw [List.foldl_cons]
    exact ih (fun y hy => hb y (.tail _ hy)) (Int.le_trans hc (colStep_up hs c' x (hb x (.head _))))
  | cons_cons x _ ih =>
    intro c c' hb hc
    rw [List.foldl_cons, List.foldl_cons]
    exact ih (fun y hy => hb y (.tail _ hy)) (colStep_mono hs hc x (hb x (.head _)))
theorem col_le {step : Nat} (hs : 1 ≤ step) {a b : List Nat} (h : List.Sublist a b) (hb : ∀ x ∈ b, x = 32 ∨ x = 9) : colOf step a ≤ colOf step b := col_sub hs h hb (Int.le_refl _)
theorem col_one : ∀ (l : List Nat) (c : Int), l.foldl (colStep 1) c = c + l.length
  | [], c => by simp
  | x :: l, c => by
    rw [List.foldl_cons, col_one l]
    have : colStep 1 c x = c + 1 := by
      unfold colStep
      split
      · rw [Int.fmod_eq_emod_of_nonneg _ (by decide)]; omega
      · rfl
    rw [this, List.length_cons]; push_cast; omega
theorem col_one' (l : List Nat) : colOf 1 l = l.length := by rw [colOf, col_one]; simp
theorem sieve_sub : ∀ a < 4, ∀ b < 4, (strikes (b + 1) (List.range (a + 17))).isSublist (List.range (a + 17)) = true ∧ (strikes (b + 1) (List.range (a + 17))).length < a + 17 := by decide +kernel
theorem strikes_sub {l : List Nat} {last : Nat} (h1 : 17 ≤ l.length) (h2 : l.length ≤ 20) (h3 : 2 ≤ last) (h4 : last ≤ 5) : List.Sublist (strikes (last - 1) l) l ∧ (strikes (last - 1) l).length < l.length := by
  have h := sieve_sub (l.length - 17) (by omega) (last - 2) (by omega)
  rw [show l.length - 17 + 17 = l.length from by omega, show last - 2 + 1 = last - 1 from by omega] at h
  have e : strikes (last - 1) l = (strikes (last - 1) (List.range l.length)).map fun i => l.getD i 0 := by
    conv => lhs; rw [idx_map l, strikes_map]
  refine ⟨?_, by rw [e, List.length_map]; exact h.2⟩
  rw [e]
  conv => rhs; rw [idx_map l]
  exact (List.isSublist_iff_sublist.mp h.1).map _
/-- what the two leads have in common -/
structure Two (lead left : List Nat) : Prop where
  w1 : ∀ c ∈ lead, c = 32 ∨ c = 9
  w2 : ∀ c ∈ left, c = 32 ∨ c = 9
  sub : List.Sublist left lead
  lt : left.length < lead.length
  le : lead.length ≤ 20
theorem Two.level {lead left : List Nat} (h : Two lead left) {step : Nat} (hs : 1 ≤ step) : levelOf (wsOf left) step ≤ levelOf (wsOf lead) step := by
  rw [level_col hs h.w1, level_col hs h.w2]; exact col_le hs h.sub h.w1
theorem Two.level1 {lead left : List Nat} (h : Two lead left) : levelOf (wsOf left) 1 < levelOf (wsOf lead) 1 := by
  rw [level_col (Nat.le_refl 1) h.w1, level_col (Nat.le_refl 1) h.w2]
  show colOf 1 left < colOf 1 lead
  rw [col_one', col_one']; have := h.lt; omega
/-- the table, and the rows at which both columns are the same -/
def tableOf (lead left : List Nat) : Nat → List (Int × Int × Int)
  | 0 => []
  | k + 1 => tableOf lead left k ++ [(((k + 1 : Nat) : Int), colOf (k + 1 : Nat) lead, colOf (k + 1 : Nat) left)]
def sameOf (rs : List (Int × Int × Int)) : List (Int × Int × Int) := (rs.filter fun r => r.2.1 == r.2.2).map fun r => (r.1, r.2.2, r.2.1)
theorem Two.table {lead left : List Nat} (h : Two lead left) : ∀ k, nlwRows (wsOf lead) (wsOf left) k = tableOf lead left k
  | 0 => rfl
  | k + 1 => by
    rw [nlwRows, h.table k, tableOf, nlwRow, if_pos (h.level (by omega)), level_col (by omega) h.w1, level_col (by omega) h.w2]
theorem Two.same {lead left : List Nat} (h : Two lead left) : ∀ k, nlwRows (wsOf left) (wsOf lead) k = sameOf (tableOf lead left k)
  | 0 => rfl
  | k + 1 => by
    rw [nlwRows, h.same k, tableOf, nlwRow]
    unfold sameOf
    rw [List.filter_append, List.map_append]
    congr 1
    have hl := h.level (step := k + 1) (by omega)
    rw [level_col (by omega) h.w1, level_col (by omega) h.w2] at hl ⊢
    by_cases he : colOf ((k + 1 : Nat) : Int) lead = colOf ((k + 1 : Nat) : Int) left
    · rw [if_pos (by omega), List.filter_cons_of_pos (by simp only [beq_iff_eq]; exact he)]; rfl
    · rw [if_neg (by omega), List.filter_cons_of_neg (by simp only [beq_iff_eq]; exact he)]; rfl
end
section
theorem sameOf_nil {lead left : List Nat} (h : Two lead left) : ∀ k, sameOf (tableOf lead left k) = [] ↔ ∀ i, i < k → levelOf (wsOf left) (i + 1) < levelOf (wsOf lead) (i + 1)
  | 0 => ⟨fun _ i hi => by omega, fun _ => rfl⟩
  | k + 1 => by
    have ih := sameOf_nil h k
    rw [← h.same] at ih ⊢
    rw [nlwRows, List.append_eq_nil_iff, ih, nlwRow]
    have hl := h.level (step := k + 1) (by omega)
    constructor
    · rintro ⟨h1, h2⟩ i hi
      rcases Nat.lt_or_eq_of_le (Nat.le_of_lt_succ hi) with h3 | rfl
      · exact h1 i h3
      · refine Int.lt_of_not_ge fun h4 => ?_
        rw [if_pos h4] at h2
        cases h2
    · intro h1
      refine ⟨fun i hi => h1 i (by omega), if_neg ?_⟩
      have := h1 k (by omega)
      omega
theorem allLess_iff (st su : WsS) : ∀ k, allLess st su k = true ↔ ∀ i, i < k → levelOf st (i + 2) < levelOf su (i + 2)
  | 0 => ⟨fun _ i hi => by omega, fun _ => rfl⟩
  | k + 1 => by
    rw [allLess, Bool.and_eq_true, allLess_iff st su k, decide_eq_true_eq]
    constructor
    · rintro ⟨h1, h2⟩ i hi
      rcases Nat.lt_or_eq_of_le (Nat.le_of_lt_succ hi) with h3 | rfl
      · exact h1 i h3
      · exact h2
    · intro h1
      exact ⟨fun i hi => h1 i (by omega), h1 k (by omega)⟩
theorem nt_fold : ∀ (l : List Nat) (st : WsS), (l.foldl wsStep st).nt = st.nt + (l.filter (· != 32)).length
  | [], st => rfl
  | c :: l, st => by
    rw [List.foldl_cons, nt_fold l]
    unfold wsStep
    by_cases h : c = 32
    · rw [if_pos h, List.filter_cons_of_neg (by simp [h])]
    · rw [if_neg h, List.filter_cons_of_pos (p := fun x => x != 32) (by simp [h]), List.length_cons]
      dsimp only
      omega
theorem nt_of (l : List Nat) : (wsOf l).nt = (l.filter (· != 32)).length := by rw [wsOf, nt_fold]; simp
theorem Two.nt {lead left : List Nat} (h : Two lead left) : (wsOf left).nt ≤ (wsOf lead).nt := by
  rw [nt_of, nt_of]
  exact (h.sub.filter _).length_le
/-- tabs and blanks: n = nt + what the blanks make -/
theorem level_simple {st : WsS} (h : st.cnt.length ≤ 1) {step : Nat} (hs : 1 ≤ step) : levelOf st step = (st.b : Int) + (step : Int) * (st.nt : Int) := by
  unfold levelOf
  rw [show st.cnt.length - step = 0 from by omega]
  simp [lvSum]
theorem lessOf_two {lead left : List Nat} (h : Two lead left) : lessOf (wsOf left) (wsOf lead) = decide (sameOf (tableOf lead left (stopOf (wsOf left) (wsOf lead))) = []) := by
  have hn1 := (wsOf_bound lead).2.1
  have hn2 := (wsOf_bound left).2.1
  have hlt := h.lt
  unfold lessOf
  rw [if_neg (by omega)]
  rw [Bool.eq_iff_iff, decide_eq_true_eq, sameOf_nil h]
  split
  · rename_i hs
    rw [decide_eq_true_eq]
    refine ⟨fun _ i _ => ?_, fun _ => h.nt⟩
    rw [level_simple hs.1 (by omega), level_simple hs.2 (by omega)]
    have h1 := h.level1
    rw [level_simple hs.1 (by omega), level_simple hs.2 (by omega)] at h1
    have h2 := h.nt
    obtain ⟨d, hd⟩ : ∃ d, (wsOf lead).nt = (wsOf left).nt + d := ⟨(wsOf lead).nt - (wsOf left).nt, by omega⟩
    rw [hd] at h1 ⊢
    push_cast at h1 ⊢
    rw [Int.mul_add]
    have h3 : ((i : Int) + 1) * (d : Int) = (i : Int) * d + d := by rw [Int.add_mul, Int.one_mul]
    have h4 : 0 ≤ (i : Int) * d := Int.mul_nonneg (by omega) (by omega)
    omega
  · rw [allLess_iff]
    constructor
    · intro h1 i hi
      rcases Nat.eq_zero_or_pos i with rfl | h2
      · exact h.level1
      · have := h1 (i - 1) (by omega)
        rwa [show i - 1 + 2 = i + 1 from by omega] at this
    · intro h1 i hi
      exact h1 (i + 1) (by omega)
theorem lessOf_back {lead left : List Nat} (h : Two lead left) : lessOf (wsOf lead) (wsOf left) = false := by
  have hn1 := (wsOf_bound lead).2.1
  have hn2 := (wsOf_bound left).2.1
  have hlt := h.lt
  unfold lessOf
  rw [if_pos (by omega)]
theorem ws_blanks (k : Nat) : wsOf (List.replicate k 32) = ⟨[], k, k, 0⟩ := by rw [wsOf, wsFold_blanks]; simp
theorem lvSum_nonneg {step : Nat} {cnt : List Int} (h : ∀ v ∈ cnt, 0 ≤ v) : ∀ k, 0 ≤ lvSum step cnt k
  | 0 => Int.le_refl _
  | k + 1 => by
    rw [lvSum]
    have h1 := lvSum_nonneg (step := step) h k
    have h2 : 0 ≤ cnt.getD (step + k) 0 := by
      rw [List.getD_eq_getElem?_getD]
      cases e : cnt[step + k]? with
      | none => exact Int.le_refl _
      | some v => exact h v (List.mem_of_getElem? e)
    have := Int.mul_nonneg (Int.natCast_nonneg ((step + k) / step)) h2
    omega
theorem no_tab {l : List Nat} (h : ∀ c ∈ l, c = 32 ∨ c = 9) : (wsOf l).nt = 0 ↔ 9 ∉ l := by
  rw [nt_of, List.length_eq_zero_iff, List.filter_eq_nil_iff]
  constructor
  · intro h1 h2
    have := h1 9 h2
    simp at this
  · intro h1 c hc
    rcases h c hc with rfl | rfl
    · simp
    · exact absurd hc h1
theorem cnt_nil : ∀ (l : List Nat) (st : WsS), (l.foldl wsStep st).nt = st.nt → (l.foldl wsStep st).cnt = st.cnt
  | [], _, _ => rfl
  | c :: l, st, h => by
    rw [List.foldl_cons] at h ⊢
    have h1 := nt_fold l (wsStep st c)
    by_cases hc : c = 32
    · have e1 : (wsStep st c).nt = st.nt := by unfold wsStep; rw [if_pos hc]
      have e2 : (wsStep st c).cnt = st.cnt := by unfold wsStep; rw [if_pos hc]
      rw [cnt_nil l _ (by rw [h, e1]), e2]
    · have e1 : (wsStep st c).nt = st.nt + 1 := by unfold wsStep; rw [if_neg hc]
      omega
theorem lessOf_21 {l : List Nat} (h : ∀ c ∈ l, c = 32 ∨ c = 9) (hl : l.length ≤ 20) : lessOf (wsOf l) (wsOf (List.replicate 21 32)) = decide (9 ∉ l) := by
  have hb := wsOf_bound l
  rw [ws_blanks]
  unfold lessOf
  dsimp only
  rw [if_neg (by omega)]
  rw [Bool.eq_iff_iff, decide_eq_true_eq, ← no_tab h]
  split
  · rw [decide_eq_true_eq]; omega
  · rename_i hs
    have hnt : (wsOf l).nt ≠ 0 := fun e => hs ⟨by
      have := cnt_nil l ⟨[], 0, 0, 0⟩ (by rw [← wsOf, e])
      rw [wsOf, this]; simp, by simp⟩
    refine ⟨fun h1 => ?_, fun h1 => absurd h1 hnt⟩
    exfalso
    have hst : stopOf (wsOf l) ⟨[], 21, 21, 0⟩ = 22 := by
      unfold stopOf longOf
      dsimp only
      simp only [List.length_nil]
      omega
    rw [hst] at h1
    have h2 := (allLess_iff _ _ _).mp h1 20 (by omega)
    have hok := wsOk_of (l := l) (by omega)
    have h3 := lvSum_nonneg (step := 22) (fun v hv => (hok.1 v hv).1) ((wsOf l).cnt.length - 22)
    have h4 : levelOf ⟨[], 21, 21, 0⟩ (20 + 2) = 21 := by simp [levelOf, lvSum]
    rw [h4] at h2
    unfold levelOf at h2
    push_cast at h2
    have h5 : (1 : Int) ≤ (wsOf l).nt := by omega
    have h6 : (22 : Int) * 1 ≤ 22 * (lvSum 22 (wsOf l).cnt ((wsOf l).cnt.length - 22) + (wsOf l).nt) := Int.mul_le_mul_of_nonneg_left (by omega) (by decide)
    omega
end
section
def mxL : List Str → Nat
  | [] => 0
  | p :: r => max p.length (mxL r)
theorem mxL_le : ∀ {ps : List Str} {p : Str}, p ∈ ps → p.length ≤ mxL ps
  | q :: r, p, h => by
    show _ ≤ max q.length (mxL r)
    rcases List.mem_cons.mp h with rfl | h
    · omega
    · have := mxL_le h; omega
theorem mxL_mem : ∀ {ps : List Str}, ps ≠ [] → ∃ p ∈ ps, p.length = mxL ps
  | [], h => absurd rfl h
  | [p], _ => ⟨p, .head _, by simp [mxL]⟩
  | p :: q :: r, _ => by
    obtain ⟨a, ha, e⟩ := mxL_mem (ps := q :: r) (by simp)
    rcases Nat.le_total (mxL (q :: r)) p.length with h | h
    · exact ⟨p, .head _, by rw [mxL]; omega⟩
    · exact ⟨a, .tail _ ha, by rw [mxL]; omega⟩
theorem max_pred (a b : Nat) : max a (b + 1) - 1 = max (a - 1) b := by
  cases a with
  | zero => simp
  | succ a => rw [Nat.add_max_add_right]; rfl
theorem long_tab (st : WsS) {c : Nat} (hc : c ≠ 32) : longOf (wsStep st c) = longOf st ∧ (wsStep st c).b = 0 := by
  have e : wsStep st c = ⟨(wsGrow st.cnt st.b).set st.b ((wsGrow st.cnt st.b).getD st.b 0 + 1), 0, st.n + 1, st.nt + 1⟩ := by
    unfold wsStep; rw [if_neg hc]
  rw [e]
  refine ⟨?_, rfl⟩
  show max ((List.set _ _ _).length - 1) 0 = max (st.cnt.length - 1) st.b
  rw [List.length_set, grow_len, Nat.max_zero]
  exact max_pred _ _
theorem long_join : ∀ (ps : List Str) (st : WsS), ps ≠ [] → st.b = 0 → (∀ p ∈ ps, ∀ c ∈ p.cps.toList, c = 32) → longOf ((Str.join ⟨#[9]⟩ ps).cps.toList.foldl wsStep st) = max (longOf st) (mxL ps)
  | [], _, h, _, _ => absurd rfl h
  | [p], st, _, hb, hp => by
    have e : p.cps.toList = List.replicate p.length 32 := by
      have := List.eq_replicate_of_mem (hp p (.head _))
      simpa [PySem.Str.length] using this
    show longOf (p.cps.toList.foldl wsStep st) = _
    rw [e, wsFold_blanks]
    show max (st.cnt.length - 1) (st.b + p.length) = max (max (st.cnt.length - 1) st.b) (max p.length 0)
    rw [hb, Nat.zero_add, Nat.max_zero, Nat.max_zero]
  | p :: q :: r, st, _, hb, hp => by
    have e : p.cps.toList = List.replicate p.length 32 := by
      have := List.eq_replicate_of_mem (hp p (.head _))
      simpa [PySem.Str.length] using this
    show longOf ((p ++ ⟨#[9]⟩ ++ Str.join ⟨#[9]⟩ (q :: r)).cps.toList.foldl wsStep st) = _
    rw [PySem.Str.cps_append, Array.toList_append, PySem.Str.cps_append, Array.toList_append, List.foldl_append, List.foldl_append, e, wsFold_blanks]
    have h1 := long_tab ⟨st.cnt, st.b + p.length, st.n + p.length, st.nt⟩ (c := 9) (by decide)
    show longOf ((Str.join ⟨#[9]⟩ (q :: r)).cps.toList.foldl wsStep (wsStep ⟨st.cnt, st.b + p.length, st.n + p.length, st.nt⟩ 9)) = _
    rw [long_join (q :: r) _ (by simp) h1.2 (fun a ha => hp a (.tail _ ha)), h1.1]
    show max (max (st.cnt.length - 1) (st.b + p.length)) (mxL (q :: r)) = max (max (st.cnt.length - 1) st.b) (max p.length (mxL (q :: r)))
    rw [hb, Nat.zero_add, Nat.max_zero, Nat.max_assoc]
abbrev tabS : Str := ⟨#[9]⟩
theorem eTab : Str.ofString "\t" = tabS := by decide +kernel
theorem split_ne (x y : Str) : Txt.split x y ≠ [] := by
  unfold Txt.split
  split
  · simp
  · split
    · simp
    · intro h
      have := length_partsBetween x (PySem.Builtin.Str.occurrences x y 0 x.length (x.length + 1)) y.length
      rw [h] at this
      simp at this
theorem join_mem {c : Nat} : ∀ {ps : List Str} {p : Str}, p ∈ ps → c ∈ p.cps.toList → c ∈ (Str.join tabS ps).cps.toList
  | [q], p, h, hc => by
    rw [List.mem_singleton.mp h] at hc; exact hc
  | q :: q' :: r, p, h, hc => by
    show c ∈ (q ++ tabS ++ Str.join tabS (q' :: r)).cps.toList
    rw [PySem.Str.cps_append, Array.toList_append, PySem.Str.cps_append, Array.toList_append]
    rcases List.mem_cons.mp h with rfl | h
    · exact List.mem_append_left _ (List.mem_append_left _ hc)
    · exact List.mem_append_right _ (join_mem h hc)
theorem split_long {x : Str} (h : ∀ c ∈ x.cps.toList, c = 32 ∨ c = 9) : mxL (Txt.split x tabS) = longOf (wsOf x.cps.toList) := by
  have hj := StrLaws.join_split x tabS
  have hf := StrLaws.split_free x 9
  have h1 := long_join (Txt.split x tabS) ⟨[], 0, 0, 0⟩ (split_ne _ _) rfl (fun p hp c hc => by
    have hm := join_mem hp hc
    rw [hj] at hm
    rcases h c hm with h2 | h2
    · exact h2
    · exact absurd (h2 ▸ hc) (hf p hp))
  rw [show Str.join ⟨#[9]⟩ (Txt.split x tabS) = x from hj] at h1
  have h2 : longOf ⟨[], 0, 0, 0⟩ = 0 := rfl
  rw [h2] at h1
  rw [wsOf, h1]
  omega
theorem runs_max {lead left : Str} (h1 : ∀ c ∈ lead.cps.toList, c = 32 ∨ c = 9) (h2 : ∀ c ∈ left.cps.toList, c = 32 ∨ c = 9) {M : Int} (hm : M ∈ (Txt.split lead tabS ++ Txt.split left tabS).map fun p => (p.length : Int))
    (hle : ∀ a, a ∈ ((Txt.split lead tabS ++ Txt.split left tabS).map fun p => (p.length : Int)) → a ≤ M) : M + 2 = ((stopOf (wsOf lead.cps.toList) (wsOf left.cps.toList) + 1 : Nat) : Int) := by
  have e1 := split_long h1
  have e2 := split_long h2
  obtain ⟨p1, m1, l1⟩ := mxL_mem (split_ne lead tabS)
  obtain ⟨p2, m2, l2⟩ := mxL_mem (split_ne left tabS)
  have a1 := hle p1.length (List.mem_map.mpr ⟨p1, List.mem_append_left _ m1, rfl⟩)
  have a2 := hle p2.length (List.mem_map.mpr ⟨p2, List.mem_append_right _ m2, rfl⟩)
  obtain ⟨p, hp, rfl⟩ := List.mem_map.mp hm
  unfold stopOf
  rcases List.mem_append.mp hp with hp | hp
  · have := mxL_le hp; omega
  · have := mxL_le hp; omega
theorem stop_comm (a b : WsS) : stopOf a b = stopOf b a := by unfold stopOf; rw [Nat.max_comm]
theorem stop_le {lead left : List Nat} (h : Two lead left) : stopOf (wsOf lead) (wsOf left) ≤ 21 := by
  have h1 := wsOf_bound lead
  have h2 := wsOf_bound left
  have h3 := h.lt
  have h4 := h.le
  exact Nat.succ_le_succ (Nat.max_le.mpr ⟨Nat.max_le.mpr ⟨by omega, by omega⟩, Nat.max_le.mpr ⟨by omega, by omega⟩⟩)
end
section
theorem two_of {lead left mark : Str} {last : Nat} {n6 : Int} (hok : LeadOk lead mark last n6) (hleft : left.cps.toList = strikes (last - 1) lead.cps.toList) : Two lead.cps.toList left.cps.toList := by
  obtain ⟨ok1, ok2, ok3, ok4, ok5, _⟩ := hok
  have e : lead.cps.toList.length = lead.length := by simp [PySem.Str.length]
  have h := strikes_sub (l := lead.cps.toList) (by omega) (by omega) ok4 ok5
  refine ⟨ok3, fun c hc => ok3 c (strikes_mem (hleft ▸ hc)), ?_, ?_, by omega⟩
  · rw [hleft]; exact h.1
  · rw [hleft]; exact h.2
theorem rows_lay : ∀ rs : List (Int × Int × Int), PyData.canLayAll0 (rs.map rowD) = true
  | [] => rfl
  | r :: rs => by
    show (PyData.canLay0 (rowD r) && PyData.canLayAll0 (rs.map rowD)) = true
    rw [rows_lay rs]; rfl
theorem rows_depth : ∀ rs : List (Int × Int × Int), PyData.depthAll (rs.map rowD) ≤ 1
  | [] => Nat.zero_le _
  | r :: rs => by
    show max (PyData.depth (rowD r)) (PyData.depthAll (rs.map rowD)) ≤ 1
    have := rows_depth rs
    have e : PyData.depth (rowD r) = 1 := rfl
    omega
theorem rows_deep (rs : List (Int × Int × Int)) : (PyData.list (rs.map rowD)).depth ≤ 64 := by
  show PyData.depthAll (rs.map rowD) + 1 ≤ 64
  have := rows_depth rs
  omega
theorem rows_shaped (rs : List (Int × Int × Int)) : SeqAt.shaped (.list (rs.map rowD)) = true := by
  show (PyData.canLayAll0 (rs.map rowD) && decide ((PyData.list (rs.map rowD)).depth ≤ 64)) = true
  rw [rows_lay, decide_eq_true (rows_deep rs)]; rfl
theorem rows_nil (rs : List (Int × Int × Int)) : PyData.eqv (.list (rs.map rowD)) (.list []) = decide (rs = []) := by
  cases rs with
  | nil => rfl
  | cons r rs => rfl
theorem ne_rows {prog : Program} {w : World} {A : Around} {E : Value → Shared → Prop} {s : Shared} {a b : Value} {rs : List (Int × Int × Int)} {Q : Value → Shared → Prop} (ra : RowsAt s.heap a rs) (rb : RowsAt s.heap b rs)
    (hu : A.units + 64 < cLine) (h : Q (.bool false) s) : wpAny (model prog w) A (compareOp .NotEq a b) Q E s := by
  obtain ⟨_, ra⟩ := ra
  obtain ⟨_, rb⟩ := rb
  exact ne_same ra rb (rows_lay rs) (rows_deep rs) hu h
theorem eq_empty {prog : Program} {w : World} {A : Around} {E : Value → Shared → Prop} {s : Shared} {a b : Value} {rs : List (Int × Int × Int)} {Q : Value → Shared → Prop} (ra : RowsAt s.heap a rs) (rb : RowsAt s.heap b [])
    (hu : A.units + 64 < cLine) (h : Q (.bool (decide (rs = []))) s) : wpAny (model prog w) A (compareOp .Eq a b) Q E s := by
  obtain ⟨_, ra⟩ := ra
  obtain ⟨_, rb⟩ := rb
  refine SeqAt.compareEq_shaped ra rb (rows_shaped rs) (rows_shaped []) hu ?_
  rw [show ([] : List (Int × Int × Int)).map rowD = [] from rfl, rows_nil]
  exact h
theorem rows_at {g h : Heap} {L ra : Addr} {vl : List Value} {nn : Nat} {tl news : List (Addr × Obj)} {rs : List (Int × Int × Int)} (N : News g L h news) (hm : (ra, listOf vl.toArray nn) ∈ news) (ht : ∀ p ∈ tl, p ∈ news) (H : TupsIn tl vl rs) : RowsAt h (.ref ra) rs := by
  obtain ⟨as, r⟩ := H.reads (News.sub N ht)
  exact ⟨_, .list (N.get hm) rfl rfl (by simpa using r)⟩
end
section
section
variable {prog p : Program} {loose : List Str} {w : World} {mean : ExcName → Option Value} {mg mb : Str → Option Value}
  {dp un : Nat} {gd : Option (List Code)} {fa : Addr} {ccd : Value} {outer : List Env} {A₀ : Around} {base h₀ : Heap} {L : Addr} {m : Str → Option Value} {s : Shared} {E : Value → Shared → Prop} {Q : Flow → Shared → Prop}
def P14 (h₀ : Heap) (L ci cm ct cd : Addr) (lead left mark : Str) (last : Nat) (h : Heap) : Prop :=
  ∃ u oi om ot od tl tt tm vi tf ra vl nn tr,
    Fr h₀ L h (kstB u [(Str.ofString "table", Value.ref ra), (Str.ofString "left", Value.str left tf)]) ∧
    News h₀ L h ((ra, listOf vl.toArray nn) :: ([(ci, oi), (cm, om), (ct, ot), (cd, od)] ++ tr)) ∧
    TupsIn tr vl (tableOf lead.cps.toList left.cps.toList (stopOf (wsOf lead.cps.toList) (wsOf left.cps.toList))) ∧
    oi.data = Data.cell vi ∧ om.data = Data.cell (some (Value.str mark tm)) ∧ ot.data = Data.cell (some (Value.int last tt)) ∧ od.data = Data.cell (some (Value.str lead tl))
def LenF (v y : Value) : Prop := ∀ x t, v = .str x t → ∃ t', y = Value.int (x.length : Nat) t'
theorem len_paired : ∀ {xs : List Str} {vs ys : List Value}, StrsAre vs xs → Paired LenF vs ys → IntsAre ys (xs.map fun p => (p.length : Int))
  | [], _, _, h, hp => by cases h; cases hp; exact .nil
  | x :: xs, _, ys, h, hp => by
    cases h with
    | cons _ t r =>
      cases hp with
      | cons hF hr =>
        obtain ⟨t', rfl⟩ := hF _ _ rfl
        exact .cons _ _ (len_paired r hr)
theorem strs_item {vs : List Value} {xs : List Str} (h : StrsAre vs xs) : ∀ {i : Nat} {v : Value}, vs[i]? = some v → ∃ x t, v = .str x t ∧ x ∈ xs := by
  induction h with
  | nil => intro i v e; simp at e
  | cons y t _ ih =>
    intro i v e
    cases i with
    | zero => simp at e; exact ⟨y, t, e.symm, .head _⟩
    | succ i =>
      obtain ⟨x, t', e1, e2⟩ := ih (by simpa using e)
      exact ⟨x, t', e1, .tail _ e2⟩
theorem tableOf_length (a b : List Nat) : ∀ k, (tableOf a b k).length = k
  | 0 => rfl
  | k + 1 => by rw [tableOf, List.length_append, tableOf_length a b k]; rfl
theorem split_part {x p : Str} (h : p ∈ Txt.split x tabS) : p.length ≤ x.length := by
  have hj := StrLaws.join_split x tabS
  have : ∀ {ps : List Str}, p ∈ ps → p.length ≤ (Str.join tabS ps).length := by
    intro ps
    induction ps with
    | nil => intro h; cases h
    | cons q r ih =>
      intro h
      cases r with
      | nil => rw [List.mem_singleton.mp h]; exact Nat.le_refl _
      | cons q' r =>
        show p.length ≤ (q ++ tabS ++ Str.join tabS (q' :: r)).length
        rw [PySem.Str.length_append, PySem.Str.length_append]
        rcases List.mem_cons.mp h with rfl | h
        · omega
        · have := ih h; omega
  have h1 := this h
  rwa [hj] at h1
theorem split_count (x : Str) : (Txt.split x tabS).length ≤ x.length + 1 := by
  have hj := StrLaws.join_split x tabS
  have : ∀ ps : List Str, ps.length ≤ (Str.join tabS ps).length + 1 := by
    intro ps
    induction ps with
    | nil => simp
    | cons q r ih =>
      cases r with
      | nil => simp
      | cons q' r =>
        show _ ≤ (q ++ tabS ++ Str.join tabS (q' :: r)).length + 1
        rw [PySem.Str.length_append, PySem.Str.length_append, List.length_cons]
        have e : tabS.length = 1 := rfl
        omega
  have h1 := this (Txt.split x tabS)
  rwa [hj] at h1
set_option maxHeartbeats 4000000 in
theorem law5a {ci cm ct cd : Addr} {lead left mark : Str} {last : Nat} (B : Below A₀ base outer h₀) (X : (hd.heap_39 w.params).In h₀) (T : Top p loose mean mg mb h₀)
   (hdp : dp + 20 < recursionLimit) (hE : PassesOwn (model prog w) (lawA dp un gd L fa ccd ci cm ct cd outer) (lawE L fa ccd ci cm ct cd) E) (h2 : Two lead.cps.toList left.cps.toList) (hp : P10 h₀ L ci cm ct cd lead left mark last s.heap)
   (hN : ∀ h' tk, P14 h₀ L ci cm ct cd lead left mark last h' → wpAny (model prog w) (lawA dp un gd L fa ccd ci cm ct cd outer) (execs (lawBody.drop 14) (lawE L fa ccd ci cm ct cd)) Q E {s with heap := h', toks := tk}) :
   wpAny (model prog w) (lawA dp un gd L fa ccd ci cm ct cd outer) (execs (lawBody.drop 12) (lawE L fa ccd ci cm ct cd)) Q E s := by
  obtain ⟨u, oi, om, ot, od, tl, tt, tm, vi, tf, F, N, hoi, hom, hot, hod⟩ := hp
  have hb1 : lead.length ≤ 20 := by have := h2.le; simpa [PySem.Str.length] using this
  have hb2 : left.length ≤ 20 := by have := h2.lt; simp at this; show left.cps.size ≤ 20; have : lead.cps.size ≤ 20 := hb1; omega
  dsimp only [lawBody, lawScope, PySem.Challenge.pw_rs0092_01, List.drop]
  walk1
  k_steps
  rename Fr _ _ _ _ => F1
  refine For_invVF F1 rfl rfl ?_ (hE := hE)
  k_steps
  refine listComp_own (fun _ => true) LenF (by with_unfolding_all rfl) (by decide) rfl (by decide) rfl ?_
  k_steps
  rename Fr h₀ L _ _ => F3
  rename News h₀ L _ _ => N3
  rename_i l1a h1a k1a e1 s1 f1 i1 F1' N1' l2a h2a k2a e2 s2 f2 i2
  rw [eTab] at e1 e2
  rw [e1] at s1
  rw [e2] at s2
  have c1 := split_count lead
  have c2 := split_count left
  have v1 := s1.length
  have v2 := s2.length
  refine add_lists F3 N3 (News.isList N3 (.tail _ (.head _))) (News.isList N3 (.head _)) (fun h3 F4 N4 => ?_) (by rw [sizeLine_eq]; omega)
  have hst := s1.append' s2
  refine compList (items := strValues l1a ++ strValues l2a) rfl (News.isList N4 (.head _)) (by rw [sizeLine_eq, List.length_append]; omega) ⟨?_, ?_⟩ ?_
  · intro C j v s₃ m₃ E' hC hP hn hm hk
    exact wpAny_tests_nil ⟨rfl, s₃.heap, s₃.toks, rfl, fun _ _ e => e⟩
  · intro C j v s₃ m₃ E' hC hP _ hn' hm' hk
    obtain ⟨x, tx, rfl, hx⟩ := strs_item hst hP
    replace F4 := Fr.keeps F4 hk
    replace N4 := News.grown N4 hk
    have hx1 : x.length ≤ 1000 := by
      rcases List.mem_append.mp hx with h | h <;> have := split_part h <;> omega
    refine wpAny_mono (Q := fun y s₄ => Hold ((LenF (.str x tx) y) ∧ Keeps s₃ s₄)) ?_ (fun _ _ h => h) (fun _ _ h => h)
    k_steps
    exact Hold.mk ⟨fun x' t' e => by cases e; exact ⟨_, rfl⟩, _, _, rfl, fun _ _ e => e⟩
  · intro D h4 tk4 ys hD hpl hPF hk
    rw [List.filter_eq_self.mpr (fun _ _ => rfl)] at hPF
    have hI := len_paired hst hPF
    obtain ⟨nz, hpl⟩ := hpl
    have N5 := News.app (News.new F4 hD hpl) (News.grown N4 hk)
    have F5 := Fr.keeps F4 hk
    dsimp only [List.cons_append, List.nil_append] at N5
    replace N5 := News.sub (news := [(D, _), (_, W.listOf #[] 0), (ci, oi), (cm, om), (ct, ot), (cd, od)]) N5 (by k_allIn)
    k_steps
    refine kso_max F5 N5 (vs := ys.toList) (by simpa using News.isList N5 (.head _)) hI (by have := List.length_pos_iff.mpr (split_ne lead tabS); simp only [List.length_map, List.length_append]; omega) rfl (fun h6 M tM k6 F6 N6 hM hle => ?_)
    have hMs := runs_max h2.w1 h2.w2 hM hle
    have hst2 := stop_le h2
    generalize hsg : stopOf (wsOf lead.cps.toList) (wsOf left.cps.toList) = stop at hMs hst2 hN
    replace N6 := News.sub (news := [(_, W.listOf #[] 0), (ci, oi), (cm, om), (ct, ot), (cd, od)]) N6 (fun p hp => .tail _ hp)
    obtain rfl : M = (stop : Int) - 1 := by omega
    clear hM hle hI hPF hst c1 c2 v1 v2 s1 s2 e1 e2 f1 f2 i1 i2 F1' N1' F3 N3 F4 N4 F5 N5 hk hpl hD hMs
    k_steps
    rename Fr h₀ L _ _ => F7
    rename News h₀ L _ _ => N7
    rename IsRange _ _ _ _ _ _ _ _ => R7
    rename (ci < _ ∧ cm < _ ∧ ct < _ ∧ cd < _) => hl1
    have hr1 : Builtin.Range.small 1 ((stop : Int) - 1 + 2) 1 = true ∧ Builtin.Range.rangeSize 1 ((stop : Int) - 1 + 2) 1 = (stop : Int) := by
      rw [show (stop : Int) - 1 + 2 = ((stop + 1 : Nat) : Int) from by omega]
      exact ⟨small_one (by omega) (by omega) (by omega) (by omega), by rw [rangeSize_nat]; congr 1; omega⟩
    refine rangeLoop (n := stop) (fun i => NlwJ [(ci, oi), (cm, om), (ct, ot), (cd, od)] (fun ra => [(Str.ofString "table", .ref ra), (Str.ofString "left", .str left tf)]) (tableOf lead.cps.toList left.cps.toList i))
      rfl R7 hr1.1 hr1.2 F7 N7 ⟨_, [], 0, [], ⟨rfl, rfl, trivial⟩, rfl, .nil, fun p hp => ?_⟩ ?_ ?_
    · have e1 := ltN hl1.1
      have e2 := ltN hl1.2.1
      have e3 := ltN hl1.2.2.1
      have e4 := ltN hl1.2.2.2
      simp only [List.append_nil, List.mem_cons, List.mem_nil_iff, or_false] at hp
      rcases hp with rfl | rfl | rfl | rfl <;> dsimp only <;> exact Nat.ne_of_lt (by assumption)
    · rintro i k t m₁ news₁ h tk own hi rfl hex hoff ⟨ra, vl, nn, tr, hm, rfl, hT, hall⟩ F8 N8
      clear F7 N7 R7 hr1 hN
      have hT' := hT.length
      rw [tableOf_length] at hT'
      replace F8 : Fr h₀ L h _ := Fr.hasX hm F8
      replace N8 : News h₀ L h _ := N8
      have ek : (1 : Int) + (i : Int) * 1 = ((i + 1 : Nat) : Int) := by omega
      rw [ek] at F8
      k_steps
      refine column_call B F8 X T rfl (by ktr_room) lead ((i + 1 : Nat) : Int) (by omega) _ _ (fun t9 h9 tk9 hE9 => ?_)
      replace F8 := Fr.keeps F8 hE9
      replace N8 := News.grown N8 hE9
      clear hE9
      k_steps
      refine column_call B F8 X T rfl (by ktr_room) left ((i + 1 : Nat) : Int) (by omega) _ _ (fun t10 h10 tk10 hE10 => ?_)
      replace F8 := Fr.keeps F8 hE10
      replace N8 := News.grown N8 hE10
      clear hE10
      k_steps
      rename News _ _ _ _ => N9
      rename Fr _ _ _ _ => F9
      rename (∀ p : Addr × Obj, p ∈ _ → p.1 < _) => hl9
      refine append_K F9 N9 (updRow (hl9 _ (.head _)) hall (fun p hp => hoff p hp _ (.head _))) (fun h11 F11 N11 => ?_) (by rw [sizeLine_eq]; simp; omega)
      clear F9 N9
      k_steps
      exact NlwJ.push F11 N11 ⟨rfl, rfl, trivial⟩ hT hall hl9 hoff
    · rintro m₁ news₁ h tk ⟨ra, vl, nn, tr, hm, rfl, hT, hall⟩ F8 N8
      clear F7 N7 R7 hr1
      replace F8 : Fr h₀ L h _ := Fr.has hm F8
      replace N8 : News h₀ L h _ := N8
      subst hsg
      exact hN _ _ ⟨_, oi, om, ot, od, tl, tt, tm, vi, tf, ra, vl, nn, tr, F8, N8, hT, hoi, hom, hot, hod⟩
end
end
section
section
variable {prog p : Program} {loose : List Str} {w : World} {mean : ExcName → Option Value} {mg mb : Str → Option Value}
  {dp un : Nat} {gd : Option (List Code)} {fa : Addr} {ccd : Value} {outer : List Env} {A₀ : Around} {base h₀ : Heap} {L : Addr} {m : Str → Option Value} {s : Shared} {E : Value → Shared → Prop} {Q : Flow → Shared → Prop}
def P15 (h₀ : Heap) (L ci cm ct cd : Addr) (lead left mark : Str) (last : Nat) (h : Heap) : Prop :=
  ∃ u oi om ot od tl tt tm vi tf ra vl nn tr sa zs ns ts,
    Fr h₀ L h (kstB u [(Str.ofString "same", Value.ref sa), (Str.ofString "table", Value.ref ra), (Str.ofString "left", Value.str left tf)]) ∧
    News h₀ L h ((sa, listOf zs.toArray ns) :: (ra, listOf vl.toArray nn) :: (ci, oi) :: (cm, om) :: (ct, ot) :: (cd, od) :: (ts ++ tr)) ∧
    TupsIn ts zs (sameOf (tableOf lead.cps.toList left.cps.toList (stopOf (wsOf lead.cps.toList) (wsOf left.cps.toList)))) ∧
    TupsIn tr vl (tableOf lead.cps.toList left.cps.toList (stopOf (wsOf lead.cps.toList) (wsOf left.cps.toList))) ∧
    oi.data = Data.cell vi ∧ om.data = Data.cell (some (Value.str mark tm)) ∧ ot.data = Data.cell (some (Value.int last tt)) ∧ od.data = Data.cell (some (Value.str lead tl))
set_option maxHeartbeats 4000000 in
theorem law5b {ci cm ct cd : Addr} {lead left mark : Str} {last : Nat} (B : Below A₀ base outer h₀) (X : (hd.heap_39 w.params).In h₀) (T : Top p loose mean mg mb h₀)
   (hdp : dp + 20 < recursionLimit) (h2 : Two lead.cps.toList left.cps.toList) (hp : P14 h₀ L ci cm ct cd lead left mark last s.heap)
   (hN : ∀ h' tk, P15 h₀ L ci cm ct cd lead left mark last h' → wpAny (model prog w) (lawA dp un gd L fa ccd ci cm ct cd outer) (execs (lawBody.drop 15) (lawE L fa ccd ci cm ct cd)) Q E {s with heap := h', toks := tk}) :
   wpAny (model prog w) (lawA dp un gd L fa ccd ci cm ct cd outer) (execs (lawBody.drop 14) (lawE L fa ccd ci cm ct cd)) Q E s := by
  obtain ⟨u, oi, om, ot, od, tl, tt, tm, vi, tf, ra, vl, nn, tr, F, N, hT, hoi, hom, hot, hod⟩ := hp
  have hst2 := stop_le h2
  have hlen := hT.length
  rw [tableOf_length] at hlen
  generalize htb : tableOf lead.cps.toList left.cps.toList (stopOf (wsOf lead.cps.toList) (wsOf left.cps.toList)) = rows at hT
  dsimp only [lawBody, lawScope, PySem.Challenge.pw_rs0092_01, List.drop]
  walk1
  refine triple_assign (cl := []) (by with_unfolding_all rfl) (by with_unfolding_all rfl) rfl (by decide) ?_
  k_steps
  rename Fr h₀ L _ _ => F1
  rename News h₀ L _ _ => N1
  refine triple_blockN (rows := rows) (tl0 := tr) (items := vl) (fun r => r.2.1 == r.2.2) (fun r => (r.1, r.2.2, r.2.1)) rfl (by decide) rfl rfl rfl rfl (by decide) (by decide) (by decide) rfl rfl F1 N1 (News.isList N1 (.head _)) (by rw [sizeLine_eq]; omega) hT (fun p hp => (N1 p (.tail _ (List.mem_append_right _ hp))).1) ?_ ?_ ?_
  · intro C r tx ty tz s₂ m₂ E' hns ha hb hc
    exact trip_cmp rfl rfl rfl hns hb hc (by decide) (by decide) (by with_unfolding_all rfl)
  · intro C r tx ty tz s₂ m₂ E' hns ha hb hc
    exact trip_elt rfl rfl rfl rfl hns ha hc hb (by decide) (by decide) (by decide)
  · intro D h' tk zs ns ts hT2 F2 N2
    refine hN _ _ ⟨_, oi, om, ot, od, tl, tt, tm, vi, tf, ra, vl, nn, tr, D, zs, ns, ts, Fr.hasX (ps := [(Str.ofString "table", Value.ref ra), (Str.ofString "left", Value.str left tf)]) ⟨rfl, rfl, trivial⟩ F2, News.sub N2 (fun p hp => ?_), ?_, ?_, hoi, hom, hot, hod⟩
    · simp only [List.mem_cons, List.mem_append, List.cons_append, List.nil_append] at hp ⊢
      rcases hp with h | h | h | h | h | h | h | h
      · exact .inl h
      · exact .inr (.inr (.inl h))
      · exact .inr (.inr (.inr (.inl h)))
      · exact .inr (.inr (.inr (.inr (.inl h))))
      · exact .inr (.inr (.inr (.inr (.inr (.inl h)))))
      · exact .inr (.inr (.inr (.inr (.inr (.inr (.inl h))))))
      · exact .inr (.inl h)
      · exact .inr (.inr (.inr (.inr (.inr (.inr (.inr h))))))
    · rw [htb]; exact hT2
    · rw [htb]; exact hT
end
end
section
section
variable {prog p : Program} {loose : List Str} {w : World} {mean : ExcName → Option Value} {mg mb : Str → Option Value}
  {dp un : Nat} {gd : Option (List Code)} {fa : Addr} {ccd : Value} {outer : List Env} {A₀ : Around} {base h₀ : Heap} {L : Addr} {m : Str → Option Value} {s : Shared} {E : Value → Shared → Prop} {Q : Flow → Shared → Prop}
def P17 (h₀ : Heap) (L : Addr) (w : World) (lead left : Str) (h : Heap) : Prop :=
  ∃ u tf ra vl nn tr sa zs ns ts x y led1 led2,
    Fr h₀ L h (kstB u [(Str.ofString "two", Value.ref y), (Str.ofString "one", Value.ref x), (Str.ofString "same", Value.ref sa), (Str.ofString "table", Value.ref ra), (Str.ofString "left", Value.str left tf)]) ∧
    News h₀ L h (led2 ++ (led1 ++ ((sa, listOf zs.toArray ns) :: (ra, listOf vl.toArray nn) :: (ts ++ tr)))) ∧
    WsLed w x (wsOf lead.cps.toList) led1 ∧ WsLed w y (wsOf left.cps.toList) led2 ∧
    TupsIn ts zs (sameOf (tableOf lead.cps.toList left.cps.toList (stopOf (wsOf lead.cps.toList) (wsOf left.cps.toList)))) ∧
    TupsIn tr vl (tableOf lead.cps.toList left.cps.toList (stopOf (wsOf lead.cps.toList) (wsOf left.cps.toList)))
set_option maxHeartbeats 4000000 in
theorem law5c {ci cm ct cd : Addr} {lead left mark : Str} {last : Nat} (B : Below A₀ base outer h₀) (X : (hd.heap_39 w.params).In h₀) (T : Top p loose mean mg mb h₀)
   (hdp : dp + 20 < recursionLimit) (h2 : Two lead.cps.toList left.cps.toList) (hp : P15 h₀ L ci cm ct cd lead left mark last s.heap)
   (hN : ∀ h' tk, P17 h₀ L w lead left h' → wpAny (model prog w) (lawA dp un gd L fa ccd ci cm ct cd outer) (execs (lawBody.drop 17) (lawE L fa ccd ci cm ct cd)) Q E {s with heap := h', toks := tk}) :
   wpAny (model prog w) (lawA dp un gd L fa ccd ci cm ct cd outer) (execs (lawBody.drop 15) (lawE L fa ccd ci cm ct cd)) Q E s := by
  obtain ⟨u, oi, om, ot, od, tl, tt, tm, vi, tf, ra, vl, nn, tr, sa, zs, ns, ts, F, N, hTs, hT, hoi, hom, hot, hod⟩ := hp
  have hb1 : lead.length ≤ 20 := by have := h2.le; simpa [PySem.Str.length] using this
  have hb2 : left.length ≤ 20 := by have := h2.lt; simp at this; show left.cps.size ≤ 20; have : lead.cps.size ≤ 20 := hb1; omega
  dsimp only [lawBody, lawScope, PySem.Challenge.pw_rs0092_01, List.drop]
  walk1
  k_steps
  have e1 : (lead ++ Str.ofString "x").cps.toList = lead.cps.toList ++ [120] := by rw [PySem.Str.cps_append, Array.toList_append, eX]
  have e2 : (left ++ Str.ofString "x" ++ lead).cps.toList = left.cps.toList ++ 120 :: lead.cps.toList := by rw [PySem.Str.cps_append, Array.toList_append, PySem.Str.cps_append, Array.toList_append, eX]; simp
  have l1 : (lead ++ Str.ofString "x").length ≤ 1000 := by rw [PySem.Str.length_append, eX]; show _ + 1 ≤ 1000; omega
  have l2 : (left ++ Str.ofString "x" ++ lead).length ≤ 1000 := by rw [PySem.Str.length_append, PySem.Str.length_append, eX]; show _ + 1 + _ ≤ 1000; omega
  refine' ws_make (news := (sa, listOf zs.toArray ns) :: (ra, listOf vl.toArray nn) :: (ci, oi) :: (cm, om) :: (ct, ot) :: (cd, od) :: (ts ++ tr)) B ?k2 X T ?k5 ?k6 (by ktr_room) _ _ l1 lead.cps.toList [120] e1 h2.w1 (fun c r e => by cases e; decide) ?_; (case k2 => exact F); (case k5 => rfl); (case k6 => exact N)
  intro x led1 h1 tk1 hl1 F1 N1
  clear F N
  k_steps
  rename Fr h₀ L _ _ => F2
  rename News h₀ L _ _ => N2
  refine' ws_make B ?k2 X T ?k5 ?k6 (by ktr_room) _ _ l2 left.cps.toList (120 :: lead.cps.toList) e2 h2.w2 (fun c r e => by cases e; decide) ?_; (case k2 => exact F2); (case k5 => rfl); (case k6 => exact N2)
  intro y led2 h3 tk3 hl2 F3 N3
  clear F2 N2
  walk1
  rename Fr h₀ L _ _ => F4
  rename News h₀ L _ _ => N4
  refine hN _ _ ⟨_, tf, ra, vl, nn, tr, sa, zs, ns, ts, x, y, led1, led2, Fr.has ⟨rfl, rfl, rfl, rfl, rfl, trivial⟩ F4, News.sub N4 (fun p hp => ?_), hl1, hl2, hTs, hT⟩
  simp only [List.mem_cons, List.mem_append] at hp ⊢
  rcases hp with h | h | h | h | h | h
  · exact .inl h
  · exact .inr (.inl h)
  · exact .inr (.inr (.inl h))
  · exact .inr (.inr (.inr (.inl h)))
  · exact .inr (.inr (.inr (.inr (.inr (.inr (.inr (.inr (.inl h))))))))
  · exact .inr (.inr (.inr (.inr (.inr (.inr (.inr (.inr (.inr h))))))))
end
end
section
section
variable {prog p : Program} {loose : List Str} {w : World} {mean : ExcName → Option Value} {mg mb : Str → Option Value}
  {dp un : Nat} {gd : Option (List Code)} {fa : Addr} {ccd : Value} {outer : List Env} {A₀ : Around} {base h₀ : Heap} {L : Addr} {m : Str → Option Value} {s : Shared} {E : Value → Shared → Prop} {Q : Flow → Shared → Prop}
theorem blanks21 : (Txt.mul (Str.ofString " ") 21).cps.toList = List.replicate 21 32 ++ [] ∧ (Txt.mul (Str.ofString " ") 21).length ≤ 1000 := by
  have e1 : Str.ofString " " = ⟨#[32]⟩ := by decide +kernel
  have e := mul_one_list 32 21
  rw [e1]
  refine ⟨by rw [e]; rfl, ?_⟩
  have := congrArg List.length e
  simp [PySem.Str.length] at this ⊢
  omega
set_option maxHeartbeats 4000000 in
theorem law5d {ci cm ct cd : Addr} {lead left : Str} (B : Below A₀ base outer h₀) (X : (hd.heap_39 w.params).In h₀) (T : Top p loose mean mg mb h₀)
   (hdp : dp + 20 < recursionLimit) (hun : un + 64 < cLine) (h2 : Two lead.cps.toList left.cps.toList) (hp : P17 h₀ L w lead left s.heap)
   (hQ : ∀ h' tk m', Fr h₀ L h' m' → Q (.ret (.bool true)) {s with heap := h', toks := tk}) :
   wpAny (model prog w) (lawA dp un gd L fa ccd ci cm ct cd outer) (execs (lawBody.drop 17) (lawE L fa ccd ci cm ct cd)) Q E s := by
  obtain ⟨u, tf, ra, vl, nn, tr, sa, zs, ns, ts, x, y, led1, led2, F, N, hl1, hl2, hTs, hT⟩ := hp
  have hb1 : lead.cps.toList.length ≤ 20 := h2.le
  have hb2 : left.cps.toList.length ≤ 20 := by have := h2.lt; omega
  have ok1 : WsOk (wsOf lead.cps.toList) := wsOk_of (by omega)
  have ok2 : WsOk (wsOf left.cps.toList) := wsOk_of (by omega)
  have hc1 := hl1
  have hc2 := hl2
  have hd1 := Hold.mk (rfl : led1 = led1)
  obtain ⟨dx, tp, tc, vs, ws, k1, k2, k3, k4, k5, tr1, tn, tt, tb, hled1, hv⟩ := hl1
  obtain ⟨dx', tp', tc', vs', ws', k1', k2', k3', k4', k5', tr', tn', tt', tb', hled2, hv'⟩ := hl2
  rw [hled1] at hc1 N
  rw [hled2] at hc2 N
  clear hd1 hled1 hled2
  have hr1 := h2.table (stopOf (wsOf lead.cps.toList) (wsOf left.cps.toList))
  have hr2 := h2.same (stopOf (wsOf lead.cps.toList) (wsOf left.cps.toList))
  have hr3 := lessOf_two h2
  have hr4 := lessOf_back h2
  have hr5 := lessOf_21 h2.w2 hb2
  have ok3 : WsOk (wsOf (List.replicate 21 32)) := wsOk_of (by simp)
  rw [stop_comm (wsOf left.cps.toList)] at hr3
  generalize tableOf lead.cps.toList left.cps.toList (stopOf (wsOf lead.cps.toList) (wsOf left.cps.toList)) = rows at *
  generalize hsm : sameOf rows = same at *
  generalize wsOf lead.cps.toList = st1 at *
  generalize wsOf left.cps.toList = st2 at *
  dsimp only [lawBody, lawScope, PySem.Challenge.pw_rs0092_01, List.drop]
  dsimp only [led4, List.cons_append, List.nil_append] at N
  k_steps
  refine' nlw_call B ?k2 X T ?k5 hc1 hc2 ?k8 ok1 ok2 (by ktr_room) (fun v1 h1 tk1 hE1 hR1 => ?_); (case k2 => exact F); (case k5 => rfl); (case k8 => exact News.sub N (by k_allIn))
  rw [hr1] at hR1
  have F1 := Fr.keeps F hE1
  have N1 := News.grown N hE1
  clear F N hE1
  k_steps
  refine ne_rows hR1 (rows_at N1 (.tail _ (.tail _ (.tail _ (.tail _ (.tail _ (.tail _ (.tail _ (.tail _ (.tail _ (.head _)))))))))) (fun p hp => by simp [hp]) hT) (by exact hun) ?_
  k_steps
  refine' nlw_call B ?k2 X T ?k5 hc2 hc1 ?k8 ok2 ok1 (by ktr_room) (fun v2 h2' tk2 hE2 hR2 => ?_); (case k2 => exact F1); (case k5 => rfl); (case k8 => exact News.sub N1 (by k_allIn))
  rw [stop_comm, hr2] at hR2
  have F2 := Fr.keeps F1 hE2
  have N2 := News.grown N1 hE2
  clear F1 N1 hE2 hR1
  k_steps
  refine ne_rows hR2 (rows_at N2 (.tail _ (.tail _ (.tail _ (.tail _ (.tail _ (.tail _ (.tail _ (.tail _ (.head _))))))))) (fun p hp => by simp [hp]) hTs) (by exact hun) ?_
  k_steps
  refine' less_call B ?k2 X T ?k5 hc2 hc1 ?k8 ok2 ok1 (by ktr_room) (fun h3 tk3 hE3 => ?_); (case k2 => exact F2); (case k5 => rfl); (case k8 => exact News.sub N2 (by k_allIn))
  rw [hr3]
  have F3 := Fr.keeps F2 hE3
  have N3 := News.grown N2 hE3
  clear F2 N2 hE3 hR2
  k_steps
  rename Fr _ _ _ _ => F4
  rename News _ _ _ _ => N4
  refine eq_empty (rows_at N4 (.tail _ (.tail _ (.tail _ (.tail _ (.tail _ (.tail _ (.tail _ (.tail _ (.tail _ (.head _)))))))))) (fun p hp => by simp [hp]) hTs) (rows_at (vl := []) (tl := []) N4 (.head _) (fun _ h => nomatch h) .nil) (by exact hun) ?_
  replace N4 := News.sub N4 (fun p hp => List.mem_cons_of_mem _ hp)
  generalize decide (same = []) = bb
  k_steps
  rw [if_neg (by simp)]
  k_steps
  refine' less_call B ?k2 X T ?k5 hc1 hc2 ?k8 ok1 ok2 (by ktr_room) (fun h5 tk5 hE5 => ?_); (case k2 => exact F4); (case k5 => rfl); (case k8 => exact News.sub N4 (by k_allIn))
  rw [hr4]
  have F5 := Fr.keeps F4 hE5
  have N5 := News.grown N4 hE5
  clear F4 N4 hE5
  k_steps
  refine' ws_make B ?k2 X T ?k5 ?k6 (by ktr_room) _ _ blanks21.2 (List.replicate 21 32) [] blanks21.1 (fun c hc => .inl (List.eq_of_mem_replicate hc)) (fun _ _ h => nomatch h) (fun z led3 h6 tk6 hl3 F6 N6 => ?_); (case k2 => exact F5); (case k5 => rfl); (case k6 => exact N5)
  clear F5 N5
  have hc3 := hl3
  obtain ⟨dx3, tp3, tc3, vs3, ws3, j1, j2, j3, j4, j5, tr3, tn3, tt3, tb3, hled3, hv3⟩ := hl3
  rw [hled3] at hc3 N6
  clear hled3
  generalize wsOf (List.replicate 21 32) = st3 at *
  dsimp only [led4, List.cons_append, List.nil_append] at N6
  k_steps
  refine' less_call B ?k2 X T ?k5 hc2 hc3 ?k8 ok2 ok3 (by ktr_room) (fun h7 tk7 hE7 => ?_); (case k2 => exact F6); (case k5 => rfl); (case k8 => exact News.sub N6 (by k_allIn))
  rw [hr5]
  have F7 := Fr.keeps F6 hE7
  have N7 := News.grown N6 hE7
  clear F6 N6 hE7
  k_steps
  have e : ((decide (¬ 9 ∈ left.cps.toList)) == !!(Builtin.Str.occurrences left (Str.ofString "\t") 0 left.length 1).isEmpty) = true := by
    rw [eTab, empty_one left 9]
    simp
  rw [e]
  exact hQ _ _ _ F7
end
end
section
section
variable {prog p : Program} {loose : List Str} {w : World} {mean : ExcName → Option Value} {mg mb : Str → Option Value}
  {dp un : Nat} {gd : Option (List Code)} {fa : Addr} {ccd : Value} {outer : List Env} {A₀ : Around} {base h₀ : Heap} {L : Addr} {m : Str → Option Value} {s : Shared} {E : Value → Shared → Prop} {Q : Flow → Shared → Prop}
theorem lawAll {ci cm ct cd l : Addr} {oi om ot od : Obj} {vs : List Value} {ns : List Int} (B : Below A₀ base outer h₀) (F : Fr h₀ L s.heap m) (hm : m (Str.ofString "script") = some (.ref l)) (X : (hd.heap_39 w.params).In h₀) (T : Top p loose mean mg mb h₀)
   (N : News h₀ L s.heap [(ci, oi), (cm, om), (ct, ot), (cd, od)]) (hoi : oi.data = .cell none) (hom : om.data = .cell none) (hot : ot.data = .cell none) (hod : od.data = .cell none)
   (hne : cd < ct ∧ ct < cm ∧ cm < ci) (hdp : dp + 20 < recursionLimit) (hun : un + 64 < cLine) (hl : h₀.IsList l vs.toArray) (hv : IntsAre vs ns) (hn : ns.length ≤ 63)
   (hE : PassesOwn (model prog w) (lawA dp un gd L fa ccd ci cm ct cd outer) (lawE L fa ccd ci cm ct cd) E)
   (hQ : ∀ h' tk m', Fr h₀ L h' m' → Q (.ret (.bool true)) {s with heap := h', toks := tk}) :
   wpAny (model prog w) (lawA dp un gd L fa ccd ci cm ct cd outer) (execs lawBody (lawE L fa ccd ci cm ct cd)) Q E s := by
  refine law1 B (Fr.has (ps := [(Str.ofString "script", .ref l)]) ⟨hm, trivial⟩ F) X T N hoi hom hot hod hne hdp hl hv hn ?_
  intro h1 tk1 lead mark last n6 hok hp1
  refine law2 B X T hne hdp hun hE hok hp1 ?_
  intro h2 tk2 hp2
  refine law3 B X T hne hdp hun hE hok hp2 ?_
  intro h3 tk3 left hleft hp3
  refine law4 B X T hdp hok hleft hp3 ?_
  intro h4 tk4 hp4
  have h2 := two_of hok hleft
  refine law5a B X T hdp hE h2 hp4 ?_
  intro h5 tk5 hp5
  refine law5b B X T hdp h2 hp5 ?_
  intro h6 tk6 hp6
  refine law5c B X T hdp h2 hp6 ?_
  intro h7 tk7 hp7
  exact law5d B X T hdp hun h2 hp7 hQ
end
end
end Mine
end
open PySem PySem.W PySem.Calls PyProof.Rows
set_option maxRecDepth 100000 in
set_option maxHeartbeats 4000000 in
theorem PySem.Challenge.cw_rs0092_01_holds : PySem.Challenge.rw_rs0092_01.Holds := by
  refine Mine.hd ?_
  k_go0
  all_goals (try k_fold)
  rename Below _ _ _ _ => B
  rename Fr _ _ _ _ => F
  rename Top _ _ _ _ _ _ => T
  rename Frag.In _ _ => X
  rename News _ _ _ _ => N
  rename IntsAre _ _ => hI
  rename ¬ ((63 : Int) < _) => h63
  rename Heap.IsList _ _ _ => hl
  refine' Mine.lawAll B F ?m X T N ?h1 ?h2 ?h3 ?h4 ?h5 ?h6 ?h7 hl hI ?h8 ?h9 ?h10
  case m => rfl
  case h1 => assumption
  case h2 => assumption
  case h3 => assumption
  case h4 => assumption
  case h5 => exact ⟨Nat.lt_succ_self _, Nat.lt_succ_self _, Nat.lt_succ_self _⟩
  case h6 => decide
  case h7 => decide
  case h8 => omega
  case h9 => passes_own
  case h10 =>
    intro h' tk m' F'
    clear F N
    k_steps
