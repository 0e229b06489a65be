import PyProof.Rows.All
import Wide.All
import OpenK.AllK
import Wide.FinOn
import PySem.Challenge.RW_sr0007_01
set_option Elab.async false
set_option rowWalk.seconds 0
local macro_rules | `(tactic| walk_at $s:str) => `(tactic| k_extra $s)
local macro_rules | `(tactic| cell_enter) => `(tactic| k_extra "cell_enter")
local macro_rules | `(tactic| omega) => `(tactic| k_extra "omega")
-- HdK
section
open PySem PySem.W PyProof.Rows
set_option maxRecDepth 100000
set_option maxHeartbeats 8000000
namespace Mine
open_top hd for PySem.Challenge.rw_sr0007_01
end Mine

end
-- Base
section
open PySem PySem.W PyProof.Rows PySem.Calls
set_option maxRecDepth 100000
set_option maxHeartbeats 8000000
namespace Mine
theorem fresh_Base : True := by
  w_top off
  k_with_none
  trivial
abbrev lse : List Str := [Str.ofString "_twin_re_1", Str.ofString "_twin_re_2"]
/-- what a call has made: there now, not there before -/
abbrev Made (g h' : Heap) (tl : List (Addr × Obj)) : Prop := ∀ p ∈ tl, h'.get? p.1 = some p.2 ∧ g.get? p.1 = none
/-- one call of a def of the text: all that stood stands, what is made and what comes back are told by R -/
abbrev Claim (w : World) (mean : ExcName → Option Value) (mg mb : Str → Option Value) (f : Addr) (d : Nat) (vs : List Value) (pre : Heap → Prop) (R : List (Addr × Obj) → Value → Prop) : Prop :=
  ∀ (dp un : Nat) (gd : Option (List Code)) (cn : Str) (cs : Scope) (a : Addr) (ccd : Value) (cl : List (Str × Addr)) (outer : List Env) (A₀ : Around) (base h₀ : Heap) (L : Addr) (m : Str → Option Value) (s : Shared) (Q E : Value → Shared → Prop),
   Below A₀ base outer h₀ → Fr h₀ L s.heap m → (hd.heap_39 w.params).In h₀ → Top hd.view_39 (looseW hd.view_39 lse) mean mg mb h₀ → cs.kind = .function →
   pre s.heap → dp + d < recursionLimit → un + 10 * d < cLine →
   (∀ r tl h' tk' gens', (∀ b o, s.heap.get? b = some o → h'.get? b = some o) → Made s.heap h' tl → (leftWithCleanup s.gens = false → leftWithCleanup gens' = false) → R tl r → Q r { s with heap := h', toks := tk', gens := gens' }) →
      wpAny (model PySem.Challenge.rw_sr0007_01.row.prog w) (ktrTop dp un gd cn cs L a ccd cl outer) (call (.ref f) vs) Q E s

def AllApart (a : Addr) (l : List Addr) : Prop := ∀ b ∈ l, a ≠ b
theorem AllApart.ne {a b : Addr} {l : List Addr} (h : AllApart a l) (hb : b ∈ l) : a ≠ b := h b hb
theorem AllApart.ne' {a b : Addr} {l : List Addr} (h : AllApart a l) (hb : b ∈ l) : b ≠ a := (h b hb).symm

theorem made_news {h₀ h h' : Heap} {L : Addr} {m : Str → Option Value} {news tl : List (Addr × Obj)} (F : Fr h₀ L h m) (N : News h₀ L h news) (hk : ∀ b o, h.get? b = some o → h'.get? b = some o) (M : Made h h' tl) : News h₀ L h' (tl ++ news) := by
  intro p hp
  rcases List.mem_append.mp hp with hp | hp
  · obtain ⟨oL, es, ep, hL, _⟩ := F.ns
    refine ⟨(M p hp).1, fun e => ?_, ?_⟩
    · have := (M p hp).2; rw [e, hL] at this; cases this
    · cases q : h₀.get? p.1 with
      | none => rfl
      | some o => have := (M p hp).2; rw [F.keep _ _ q] at this; cases this
  · exact ⟨hk _ _ (N p hp).1, (N p hp).2⟩
theorem made_apart {h₀ h h' : Heap} {L : Addr} {news tl : List (Addr × Obj)} (N : News h₀ L h news) (M : Made h h' tl) : ∀ p ∈ tl, AllApart p.1 (news.map (·.1)) := by
  intro p hp b hb e
  obtain ⟨q, hq, rfl⟩ := List.mem_map.mp hb
  have := (M p hp).2
  rw [e, (N q hq).1] at this
  cases this

theorem claim_use {w : World} {mean : ExcName → Option Value} {mg mb : Str → Option Value} {f : Addr} {d : Nat} {vs : List Value} {pre : Heap → Prop} {R : List (Addr × Obj) → Value → Prop}
   {dp un : Nat} {gd : Option (List Code)} {cn : Str} {cs : Scope} {a : Addr} {ccd : Value} {cl : List (Str × Addr)} {outer : List Env} {A₀ : Around} {base h₀ : Heap} {L : Addr} {m : Str → Option Value} {news : List (Addr × Obj)} {s : Shared} {Q E : Value → Shared → Prop}
   (C : Claim w mean mg mb f d vs pre R) (B : Below A₀ base outer h₀) (F : Fr h₀ L s.heap m) (X : (hd.heap_39 w.params).In h₀) (N : News h₀ L s.heap news) (T : Top hd.view_39 (looseW hd.view_39 lse) mean mg mb h₀) (hk : cs.kind = .function)
   (hp : pre s.heap) (hd : dp + d < recursionLimit) (hu : un + 10 * d < cLine)
   (ret : ∀ r tl h' tk' gens', Fr h₀ L h' m → News h₀ L h' (tl ++ news) → (∀ b o, s.heap.get? b = some o → h'.get? b = some o) → (∀ p ∈ tl, AllApart p.1 (news.map (·.1))) → (leftWithCleanup s.gens = false → leftWithCleanup gens' = false) → R tl r → Q r { s with heap := h', toks := tk', gens := gens' }) :
      wpAny (model PySem.Challenge.rw_sr0007_01.row.prog w) (ktrTop dp un gd cn cs L a ccd cl outer) (call (.ref f) vs) Q E s :=
  C _ _ _ _ _ _ _ _ _ _ _ _ _ _ _ _ _ B F X T hk hp hd hu fun r tl h' tk' gens' hk' M hg hR => ret r tl h' tk' gens' (F.grownK hk') (made_news F N hk' M) hk' (made_apart N M) hg hR

section
variable {prog : Program} {w : World} {A A₀ : Around} {s : Shared} {K : Frag} {L : Addr} {h₀ base : Heap} {m mg mb : Str → Option Value} {p : Program} {loose : List Str} {mean : ExcName → Option Value}
/-- into a plain def, with the whole heap as what stands -/
theorem code_defE {env : Env} {outer : List Env} {R : Result → Shared → Prop} {name qual : Str} {params : Arguments} {body : List Stmt} {scope : Scope} {dV kV doc pm cdv ct oc : Value} {an od : Option Addr} {osl : Array (Option Value)} {f : Addr} {args : Args} {binds : List (Str × Value)}
    (B : Below A₀ base outer h₀) (F : Fr h₀ L s.heap m) (X₀ : K.In h₀) (T : Top p loose mean mg mb h₀) (hA : A.frames = some (env :: outer)) (hf : env.frame = some L) (hke : env.scope.kind = .function)
    (ho : K.lookup f = some ⟨oc, od, .func (fnOf name qual params body scope dV kV doc pm an cdv ct), osl⟩) (hcd : codeIn K cdv qual = true) (hroom : A.depth < recursionLimit)
    (hbind : BindsTo s (fnOf name qual params body scope dV kV doc pm an cdv ct) args binds) (hloc : ∀ y ∈ binds, scope.names.lookup y.1 = some .local)
    (h : ∀ L' h₁, Fr s.heap L' h₁ (fun y => binds.reverse.lookup y) → News s.heap L' h₁ [] → Below A base (env :: outer) s.heap → K.In s.heap → Top p loose mean mg mb s.heap →
      wpAny (model prog w) (A.deeper (envOf qual scope L' f cdv)) (execs body (envOf qual scope L' f cdv))
        (fun fl s' => LeaveK h₀ L m s.heap R (match fl with | .ret v => v | _ => .none) s')
        (fun e s' => wpAny (model prog w) (A.deeper (envOf qual scope L' f cdv)) (leaving (envOf qual scope L' f cdv) e) (fun _ s'' => R (.error e) s'') (fun e' s'' => R (.error e') s'') s')
        { s with heap := h₁, toks := s.toks + binds.length })
    (hco : scope.isCoroutine = false) (hgen : scope.isGenerator = false) (hk : scope.kind = .function)
    (hcell : ∀ x ∈ scope.names, x.2 ≠ .cell) : codeAny (model prog w) A (.call (.ref f) args) R s := by
  obtain ⟨_, BG, _, lv⟩ := groundX (R := R) B F (News.nil : News h₀ L s.heap []) hA hf hke
  have X := X₀.keeps F.keep
  refine codeAny_call_def (fd := fnX name qual params body scope [] dV kV doc pm an cdv ct) (body := body) (binds := binds) hroom (X _ _ ho) rfl (T.nolimit.keeps F.keep) (codeRec_of X hcd) rfl hbind hcell hloc (fun h₁ hns hk₁ => ?_) hco hgen hk
  exact wpAny_mono (h s.heap.objs.size h₁ ⟨hns, fun b o e => hk₁ b o e, Nat.le_refl _⟩ News.nil BG X (T.keeps F.keep)) (fun fl s' hl => lv _ _ hl) fun _ _ y => y
end
end Mine

end
-- Eqs
section
open PySem PySem.W PyProof.Rows PySem.Calls PySem.Spec PyProof.V PySem.SeqAt
set_option maxRecDepth 100000
set_option maxHeartbeats 8000000
namespace Mine
theorem fresh_Eqs : True := by
  w_top off
  k_with_none
  k_with "omega" => lia
  trivial
theorem readsAll_of_strs {h : Heap} : ∀ {vs : List Value} {ns : List Str}, StrsAre vs ns → ReadsAll h vs (ns.map PyData.str) []
  | _, _, .nil => .nil
  | _, _, .cons k t r => by
    have := ReadsAll.cons (Reads.str (h := h) k t) (readsAll_of_strs (h := h) r)
    simpa using this
theorem reads_of_strs {h : Heap} {a : Addr} {vs : List Value} {ns : List Str} (hl : h.IsList a vs.toArray) (hi : StrsAre vs ns) : Reads h (.ref a) (.list (ns.map PyData.str)) [a] := by
  obtain ⟨o, ho, hc, n, hd⟩ := hl
  exact Reads.list ho hc hd (by simpa using readsAll_of_strs hi)
theorem canLayAll0_strs : ∀ ns : List Str, (∀ x ∈ ns, PyData.strOk x = true) → PyData.canLayAll0 (ns.map PyData.str) = true
  | [], _ => by simp [PyData.canLayAll0]
  | n :: r, h => by simp [PyData.canLayAll0, PyData.canLay0, canLayAll0_strs r (fun x hx => h x (.tail _ hx)), h n (.head _)]
theorem depthAll_strs : ∀ ns : List Str, PyData.depthAll (ns.map PyData.str) ≤ 1
  | [] => by simp [PyData.depthAll]
  | n :: r => by
    have := depthAll_strs r
    simp only [List.map_cons, PyData.depthAll, PyData.depth]
    omega
theorem shaped_strs (ns : List Str) (h : ∀ x ∈ ns, PyData.strOk x = true) : shaped (.list (ns.map PyData.str)) = true := by
  have h1 := depthAll_strs ns
  have h2 : PyData.depth (.list (ns.map PyData.str)) ≤ 64 := by simp only [PyData.depth]; omega
  show (PyData.canLay0 (.list (ns.map PyData.str)) && decide (PyData.depth (.list (ns.map PyData.str)) ≤ 64)) = true
  rw [Bool.and_eq_true]
  exact ⟨by simp only [PyData.canLay0]; exact canLayAll0_strs ns h, decide_eq_true h2⟩
theorem eq_strs_nil {prog : Program} {w : World} {A : Around} {E : Value → Shared → Prop} {s : Shared} {a b : Addr} {vs : List Value} {xs : List Str} {Q : Value → Shared → Prop} (hl : s.heap.IsList a vs.toArray) (hi : StrsAre vs xs) (hx : ∀ x ∈ xs, PyData.strOk x = true) (hl' : s.heap.IsList b (List.toArray [])) (hu : A.units + 64 < cLine)
    (h : Q (.bool (decide (xs = []))) s) : wpAny (model prog w) A (compareOp .Eq (.ref a) (.ref b)) Q E s := by
  refine eq_dataH_same (reads_of_strs hl hi) (reads_of_ints hl' .nil) (shaped_strs xs hx) (by decide) hu ?_ ?_
  · cases xs <;> simp [noMix, noMixAll]
  · have : PySem.Spec.same (.list (xs.map PyData.str)) (.list (List.map PyData.int [])) = decide (xs = []) := by cases xs <;> simp [PySem.Spec.same, PySem.Spec.sameAll]
    rw [this]; exact h
end Mine

end
-- Mail
section
open PySem PySem.W PyProof.Rows PySem.Calls PySem.Spec PyProof.V PySem.SeqAt
set_option maxRecDepth 100000
set_option maxHeartbeats 8000000
namespace Mine
theorem fresh_Mail : True := by
  w_top off
  k_with_none
  k_with "omega" => lia
  trivial
/-- a row of a mail: what stands in it, how it ends -/
abbrev Row := List Nat × List Nat
def good (r : Row) : Prop := r.1 ≠ [] ∧ (∀ c ∈ r.1, c ≠ 10 ∧ c ≠ 13) ∧ (r.2 = [13, 10] ∨ r.2 = [10] ∨ r.2 = [13])
def flat (rs : List Row) : List Nat := rs.flatMap fun r => r.1 ++ r.2
def quote1 (r : Row) : Row := ((if r.1.head? = some 46 then 46 :: r.1 else r.1), [13, 10])
def mailStr (rs : List Row) : Str := ⟨(flat rs).toArray⟩
def rowS (r : Row) : Str := mailStr [r]
/-- the four rows that the law lays -/
def rowK (r : Row) : Prop := r = ([46], [13, 10]) ∨ r = ([103, 46], [10]) ∨ r = ([103, 46], [13]) ∨ r = ([98, 46], [13, 10])
theorem mail_len (rs : List Row) : (mailStr rs).length = (flat rs).length := rfl
theorem rowK_good {r : Row} (h : rowK r) : good r := by
  rcases h with rfl | rfl | rfl | rfl <;> (refine ⟨by simp, ?_, by simp⟩; intro c hc; simp at hc; omega)
theorem rowK_ok {r : Row} (h : rowK r) : PyData.strOk (rowS r) = true := by
  rcases h with rfl | rfl | rfl | rfl <;> decide +kernel
theorem rowK_len {r : Row} (h : rowK r) : (r.1 ++ r.2).length ≤ 4 := by
  rcases h with rfl | rfl | rfl | rfl <;> decide +kernel
theorem flat_cons (r : Row) (rs : List Row) : flat (r :: rs) = r.1 ++ r.2 ++ flat rs := rfl
theorem flat_len {rs : List Row} (h : ∀ r ∈ rs, rowK r) : (flat rs).length ≤ 4 * rs.length := by
  induction rs with
  | nil => exact Nat.le_refl _
  | cons r rs ih =>
    rw [flat_cons, List.length_append]
    have h1 := rowK_len (h r (.head _))
    have h2 := ih fun x hx => h x (.tail _ hx)
    simp only [List.length_cons]; omega
theorem rows_ok {rs : List Row} (h : ∀ r ∈ rs, rowK r) : ∀ x ∈ rs.map rowS, PyData.strOk x = true := by
  intro x hx
  obtain ⟨r, hr, rfl⟩ := List.mem_map.mp hx
  exact rowK_ok (h r hr)
theorem join_mail : ∀ rs : List Row, Str.join ⟨#[]⟩ (rs.map rowS) = mailStr rs
  | [] => rfl
  | [r] => rfl
  | r :: r' :: rs => by
    have ih := join_mail (r' :: rs)
    show rowS r ++ ⟨#[]⟩ ++ Str.join ⟨#[]⟩ ((r' :: rs).map rowS) = _
    rw [ih]
    apply Str.ext'
    simp [Str.cps_append, rowS, mailStr, flat]
theorem rows_lens : ∀ {rs : List Row}, (∀ r ∈ rs, rowK r) → ((rs.map rowS).map (·.length)).sum ≤ 4 * rs.length
  | [], _ => Nat.le_refl _
  | r :: rs, h => by
    have ih := rows_lens fun x hx => h x (List.Mem.tail r hx)
    have h1 := rowK_len (h r (.head _))
    have h2 : (rowS r).length = (r.1 ++ r.2).length := by show (flat [r]).length = _; simp [flat]
    simp only [List.map_cons, List.sum_cons, List.length_cons]
    rw [h2]; omega
theorem StrsAre.len' {vs : List Value} {xs : List Str} (h : StrsAre vs xs) : vs.length = xs.length := by
  induction h with
  | nil => rfl
  | cons _ _ _ ih => simp [ih]
theorem StrsAre.take' {vs : List Value} {xs : List Str} (h : StrsAre vs xs) : ∀ n, StrsAre (vs.take n) (xs.take n) := by
  induction h with
  | nil => intro n; simp; exact .nil
  | cons y t _ ih => intro n; cases n with
    | zero => exact .nil
    | succ n => exact .cons y t (ih n)
theorem StrsAre.drop' {vs : List Value} {xs : List Str} (h : StrsAre vs xs) : ∀ n, StrsAre (vs.drop n) (xs.drop n) := by
  induction h with
  | nil => intro n; simp; exact .nil
  | cons y t h' ih => intro n; cases n with
    | zero => exact .cons y t h'
    | succ n => exact ih n
theorem pick_upto (vs : List Value) {y : Int} (h : 0 ≤ y) : slicePick vs.toArray none (some y) none = (vs.take y.toNat).toArray := by
  have e : sliceBounds none (some y) none vs.toArray.size = (((0 : Nat) : Int), ((min y.toNat vs.toArray.size : Nat) : Int), 1) := by
    simp only [sliceBounds, Option.getD_none, show (1 : Int) > 0 by decide, if_true, if_neg (show ¬ (y < 0) by omega)]
    congr 1
    congr 1
    omega
  rw [kmk_pick_nat _ e]
  show ((vs.drop 0).take (min y.toNat vs.toArray.size - 0)).toArray = _
  rw [List.drop_zero, Nat.sub_zero, List.size_toArray, kmk_take_min]
theorem pick_from (vs : List Value) {x : Int} (h : 0 ≤ x) : slicePick vs.toArray (some x) none none = (vs.drop x.toNat).toArray := by
  have e : sliceBounds (some x) none none vs.toArray.size = (((min x.toNat vs.toArray.size : Nat) : Int), ((vs.toArray.size : Nat) : Int), 1) := by
    simp only [sliceBounds, Option.getD_none, show (1 : Int) > 0 by decide, if_true, if_neg (show ¬ (x < 0) by omega)]
    congr 1
    omega
  rw [kmk_pick_nat _ e]
  show ((vs.drop (min x.toNat vs.toArray.size)).take (vs.toArray.size - min x.toNat vs.toArray.size)).toArray = _
  rw [List.size_toArray, kmk_drop_min, List.take_of_length_le (by rw [List.length_drop]; omega)]
section
variable {prog : Program} {w : World} {A : Around} {E : Value → Shared → Prop} {s : Shared} {h₀ : Heap} {L l a b : Addr} {m : Str → Option Value} {news : List (Addr × Obj)} {value slice : PySem.Expr} {vs : List Value} {rs : List Row} {vl vu : Value} {x y : Int} {Q : Value → Shared → Prop}
theorem rows_upto (F : Fr h₀ L s.heap m) (N : News h₀ L s.heap news) (hl : s.heap.IsList l vs.toArray) (hi : StrsAre vs (rs.map rowS)) (hn : rs.length ≤ 10) (pl : IsPart vl none) (pu : IsPart vu (some y)) (h0 : 0 ≤ y)
    (h : ∀ D ws h', Fr h₀ L h' m → News h₀ L h' ((D, listOf (List.toArray ws) 0) :: news) → (∀ p ∈ news, p.1 < D) → StrsAre ws ((rs.take y.toNat).map rowS) → Q (.ref D) { s with heap := h' })
    (hs : subscripted slice false (.ref l) (.ref s.heap.objs.size) = operate [.ref s.heap.objs.size, .ref l] (getItem (.ref l) (.ref s.heap.objs.size))) (ht : ∀ r, letTemporaryGo value (.ref l) r = pure ()) :
    wpAny (model prog w) A (subscriptTail value slice (.ref l) (.ref s.heap.objs.size)) Q E { s with heap := s.heap.push { cls := .type "slice", data := .fields #[vl, vu, .none] } } := by
  refine kmk_slice F N hl pl pu (fun D h' F' N' l1 => h D (vs.take y.toNat) h' F' ?_ l1 ?_) hs ht (by have := StrsAre.len' hi; simp at this; simp [sizeLine_eq]; omega)
  · rw [pick_upto vs h0] at N'; exact N'
  · rw [List.map_take]; exact StrsAre.take' hi _
theorem rows_from (F : Fr h₀ L s.heap m) (N : News h₀ L s.heap news) (hl : s.heap.IsList l vs.toArray) (hi : StrsAre vs (rs.map rowS)) (hn : rs.length ≤ 10) (pl : IsPart vl (some x)) (pu : IsPart vu none) (h0 : 0 ≤ x)
    (h : ∀ D ws h', Fr h₀ L h' m → News h₀ L h' ((D, listOf (List.toArray ws) 0) :: news) → (∀ p ∈ news, p.1 < D) → StrsAre ws ((rs.drop x.toNat).map rowS) → Q (.ref D) { s with heap := h' })
    (hs : subscripted slice false (.ref l) (.ref s.heap.objs.size) = operate [.ref s.heap.objs.size, .ref l] (getItem (.ref l) (.ref s.heap.objs.size))) (ht : ∀ r, letTemporaryGo value (.ref l) r = pure ()) :
    wpAny (model prog w) A (subscriptTail value slice (.ref l) (.ref s.heap.objs.size)) Q E { s with heap := s.heap.push { cls := .type "slice", data := .fields #[vl, vu, .none] } } := by
  refine kmk_slice F N hl pl pu (fun D h' F' N' l1 => h D (vs.drop x.toNat) h' F' ?_ l1 ?_) hs ht (by have := StrsAre.len' hi; simp at this; simp [sizeLine_eq]; omega)
  · rw [pick_from vs h0] at N'; exact N'
  · rw [List.map_drop]; exact StrsAre.drop' hi _
theorem rows_nil (hl : s.heap.IsList a vs.toArray) (hi : StrsAre vs (rs.map rowS)) (hx : ∀ r ∈ rs, rowK r) (hl' : s.heap.IsList b (List.toArray [])) (hu : A.units + 64 < cLine)
    (h : Q (.bool (decide (rs = []))) s) : wpAny (model prog w) A (compareOp .Eq (.ref a) (.ref b)) Q E s := by
  refine eq_strs_nil hl hi (rows_ok hx) hl' hu ?_
  have : (rs.map rowS = []) = (rs = []) := by simp
  simp only [this]; exact h
theorem rows_join {t : Tok} {e : Str} (he : e = ⟨#[]⟩) (hl : s.heap.IsList a vs.toArray) (hi : StrsAre vs (rs.map rowS)) (hx : ∀ r ∈ rs, rowK r) (hn : rs.length ≤ 10) (h : ∀ t' k, Q (.str (mailStr rs) t') { s with toks := k }) :
    wpAny (model prog w) A (call (.builtin "str.join") [.str e t, .ref a]) Q E s := by
  subst he
  refine join_list hl (by simpa using hi) (by have := rows_lens hx; simp only [List.length_map, show Str.length ⟨#[]⟩ = 0 from rfl]; omega) fun t' k => ?_
  have e : PySem.Txt.join ⟨#[]⟩ (rs.map rowS) = mailStr rs := by unfold PySem.Txt.join; rw [PySem.StrLaws.glued_eq_join]; exact join_mail rs
  rw [e]; exact h t' k
end
end Mine

end
-- Gen1
section
open PySem PySem.W PyProof.Rows PySem.Calls
open PySem.Sem (wp)
set_option maxRecDepth 100000
set_option maxHeartbeats 8000000
namespace Mine
theorem fresh_Gen1 : True := by
  w_top off
  k_with_none
  k_with "omega" => lia
  trivial
section
variable {M : Model} {A : Around} {R : GenEnd} {Y : Protocol} {n : Nat} {s₀ : Shared} {c : Code} {fs : List Frame} {s : Shared} {env : Env}
  {K : Flow → Sem Fin} {H : Value → Sem Fin} {gd : Bool → Bool} {lv : List Value → List Value}
theorem seg_exec {st : Stmt} (h : wpAny M (A.over c fs) (exec st env) (fun f s' => Seg M A R Y n s₀ c (K f) fs s') (fun x s' => Seg M A R Y n s₀ c (H x) fs s') s) :
    Seg M A R Y n s₀ c ((exec st env).wrap K H gd lv) fs s := seg_wrap h
theorem seg_bw {α β : Type} {m : Sem α} {f : α → Sem β} {K : β → Sem Fin} (h : wpAny M (A.over c fs) m (fun a s' => Seg M A R Y n s₀ c ((f a).wrap K H gd lv) fs s') (fun x s' => Seg M A R Y n s₀ c (H x) fs s') s) :
    Seg M A R Y n s₀ c ((m >>= f).wrap K H gd lv) fs s := by
  rw [Sem.bind_eq_wrap', Sem.wrap_wrap]; exact seg_wrap h
theorem seg_If {test : PySem.Expr} {body orelse : List Stmt} {pos : Pos}
    (h : wpAny M (A.over c fs) (isTrue test env (eval test env)) (fun b s' => if b = true then Seg M A R Y n s₀ c ((execs body env).wrap K H gd lv) fs s' else Seg M A R Y n s₀ c ((execs orelse env).wrap K H gd lv) fs s') (fun x s' => Seg M A R Y n s₀ c (H x) fs s') s) :
    Seg M A R Y n s₀ c ((exec (.If test body orelse pos) env).wrap K H gd lv) fs s := by
  rw [exec_If]
  show Seg M A R Y n s₀ c (.at pos fun _ => (isTrue test env (eval test env) >>= fun b => if b = true then execs body env else execs orelse env).wrap K H gd lv) fs s
  refine seg_at ?_
  rw [Sem.bind_eq_wrap', Sem.wrap_wrap]
  refine seg_wrap (wpAny_mono h (fun b s' hb => ?_) fun _ _ x => x)
  cases b with
  | true => exact hb
  | false => exact hb
/-- what a for's statement does with its loop's end -/
def forBack (env : Env) (K : Flow → Sem Fin) (H : Value → Sem Fin) (gd : Bool → Bool) (lv : List Value → List Value) : Result → Sem Fin := fun r => ((match r with | .ok f => (.pure f : Sem Flow) | .error e => .raise e).onRaise fun (x : Value) => do
        if (← field x 1) == Value.none then unsupported "frame.own-activation:exception-without-traceback"
        setFlight x env.frame).wrap K H gd lv
theorem seg_For {target iter : PySem.Expr} {body orelse : List Stmt} {pos : Pos} (hs : ∀ x, foldedSetIterable iter env x = pure x)
    (h : wpAny M (A.over c fs) (eval iter env) (fun x s₁ => wpAny M (A.over c fs) (pyIter x) (fun it s₂ => ∀ p, Seg M A R Y n s₀ (.forLoop target it body orelse env) (M.den (.forLoop target it body orelse env))
      (.ret (forBack env K H gd lv) none (gd false) (lv []) c p [] :: fs) s₂) (fun x s' => Seg M A R Y n s₀ c (H x) fs s') s₁) (fun x s' => Seg M A R Y n s₀ c (H x) fs s') s) :
    Seg M A R Y n s₀ c ((exec (.For target iter body orelse pos) env).wrap K H gd lv) fs s := by
  rw [exec_For]
  refine seg_at ?_
  show Seg M A R Y n s₀ c ((eval iter env >>= fun v => foldedSetIterable iter env v >>= fun x => standAt iter.pos >>= fun _ => holding [x] (pyIter x) >>= fun it => runOwn (.forLoop target it body orelse env) env).wrap K H gd lv) fs s
  refine seg_bw (wpAny_mono h (fun v s₁ h₁ => ?_) fun _ _ x => x)
  refine seg_bw (wpAny_of_eq (hs v) ?_)
  refine seg_bw (wpAny_standAt ?_)
  refine seg_bw (wpAny_holding (wpAny_mono h₁ (fun it s₂ h₂ => ?_) fun _ _ x => x))
  exact seg_call h₂
end
section
variable {prog : Program} {w : World} {A : Around} {R : GenEnd} {Y : Protocol} {n : Nat} {s₀ : Shared} {fs : List Frame} {s : Shared} {env : Env}
def forH (env : Env) : Value → Sem Fin := fun e => (do noteFrame e env; theTreesLotGoes e : Sem Unit).wrap (fun _ => .raise e) .raise id id
def forK (target : PySem.Expr) (it : Value) (body orelse : List Stmt) (env : Env) : Flow → Sem Fin := fun f => match f with
            | .next | .cont => .pure (.again (.forLoop target it body orelse env))
            | .brk => .pure (.done .next)
            | .ret v => .pure (.done (.ret v))
theorem seg_forLoop {target : PySem.Expr} {it : Value} {body orelse : List Stmt}
    (h : wpAny (model prog w) (A.over (.forLoop target it body orelse env) fs) (pyNext it) (fun r s₁ => match r with
        | none => Seg (model prog w) A R Y n s₀ (.block orelse env) ((model prog w).den (.block orelse env)) fs s₁
        | some v => wpAny (model prog w) (A.over (.forLoop target it body orelse env) fs) (letOwnedTupleGo target it v) (fun _ s₂ => wpAny (model prog w) (A.over (.forLoop target it body orelse env) fs) (assign target env v) (fun _ s₃ =>
            Seg (model prog w) A R Y n s₀ (.forLoop target it body orelse env) ((execs body env).wrap (forK target it body orelse env) (forH env) id id) fs s₃)
          (fun x s' => Seg (model prog w) A R Y n s₀ (.forLoop target it body orelse env) (forH env x) fs s') s₂) (fun x s' => Seg (model prog w) A R Y n s₀ (.forLoop target it body orelse env) (forH env x) fs s') s₁)
      (fun x s' => Seg (model prog w) A R Y n s₀ (.forLoop target it body orelse env) (forH env x) fs s') s) :
    Seg (model prog w) A R Y n s₀ (.forLoop target it body orelse env) ((model prog w).den (.forLoop target it body orelse env)) fs s := by
  show Seg _ A R Y n s₀ _ ((forTurn target it body orelse env).onRaise (fun x => do noteFrame x env; theTreesLotGoes x)) fs s
  unfold forTurn
  have eH : (fun e => (do noteFrame e env; theTreesLotGoes e : Sem Unit).bind (fun _ => (.raise e : Sem Fin))) = forH env := by
    funext e; exact Sem.bind_eq_wrap _ _
  rw [Sem.onRaise_eq_wrap, eH]
  refine seg_bw (m := standAt target.pos) (wpAny_standAt ?_)
  refine seg_bw (wpAny_onRaise (wpAny_mono h (fun r s₁ h₁ => ?_) fun _ _ x => wpAny_standAt x))
  cases r with
  | none => exact seg_again (c' := .block orelse env) rfl h₁
  | some v =>
    refine seg_bw (m := letOwnedTupleGo target it v) (wpAny_mono h₁ (fun _ s₂ h₂ => ?_) fun _ _ x => x)
    refine seg_bw (m := assign target env v) (wpAny_mono h₂ (fun _ s₃ h₃ => ?_) fun _ _ x => x)
    rw [Sem.bind_eq_wrap', Sem.wrap_wrap]
    have eK : (fun a : Flow => Sem.wrap Sem.pure (forH env) id id (match a with
          | Flow.next => again (Code.forLoop target it body orelse env)
          | Flow.cont => again (Code.forLoop target it body orelse env)
          | Flow.brk => pure (Fin.done Flow.next)
          | Flow.ret v => pure (Fin.done (Flow.ret v)))) = forK target it body orelse env := by funext a; cases a <;> rfl
    show Seg (model prog w) A R Y n s₀ (Code.forLoop target it body orelse env) ((execs body env).wrap (fun a : Flow => Sem.wrap Sem.pure (forH env) id id (match a with
          | Flow.next => again (Code.forLoop target it body orelse env)
          | Flow.cont => again (Code.forLoop target it body orelse env)
          | Flow.brk => pure (Fin.done Flow.next)
          | Flow.ret v => pure (Fin.done (Flow.ret v)))) (forH env) id id) fs s₃
    rw [eK]
    exact h₃
end
end Mine

end
-- Loop
section
open PySem PySem.W PyProof.Rows PySem.Calls PySem.Spec
set_option maxRecDepth 100000
set_option maxHeartbeats 8000000
namespace Mine
theorem fresh_Loop : True := by
  w_top off
  k_with_none
  trivial
theorem itR_is {h : Heap} {I : Addr} {x left : Int} (e : h.get? I = some (itR x left)) : IsRangeIter h I x left 1 := e
theorem off_range {h₀ h h' : Heap} {L I : Addr} {m : Str → Option Value} {news : List (Addr × Obj)} (F : Fr h₀ L h m) (N : News h₀ L h news) (hIL : I ≠ L) (hI : h₀.get? I = none) (off : ∀ p ∈ news, p.1 ≠ I)
    (hk : ∀ b o, b ≠ I → h.get? b = some o → h'.get? b = some o) : Fr h₀ L h' m ∧ News h₀ L h' news :=
  ⟨⟨F.ns.at' fun o e => hk _ o (Ne.symm hIL) e, fun b o e => hk b o (fun q => by rw [q, hI] at e; cases e) (F.keep b o e), F.above⟩, fun p hp => ⟨hk _ _ (off p hp) (N p hp).1, (N p hp).2⟩⟩
section
variable {prog : Program} {w : World} {A : Around} {env : Env} {h₀ : Heap}
/-- a for over a range that stands: by an invariant over the turn, the frame's map, the ledger and the generators -/
theorem range_loop {R : Result → Shared → Prop} {s : Shared} {x : Str} {px : Pos} {body : List Stmt} {I : Addr} {a : Int} {n : Nat} {m : Str → Option Value} {news : List (Addr × Obj)} (hh : A.handled = none)
    (hx : env.kindOf x = some .local) (hp : (env.scope.kind == .class || (env.scope.kind == .module && env.locals != env.globals)) = false)
    (hI : h₀.get? I = none) (hIL : I ≠ env.locals) (off : ∀ p ∈ news, p.1 ≠ I) (hit : s.heap.get? I = some (itR a n)) (F : Fr h₀ env.locals s.heap m) (N : News h₀ env.locals s.heap news)
    (J : Nat → (Str → Option Value) → List (Addr × Obj) → Array GenState → Prop) (h0 : J 0 m news s.gens)
    (turn : ∀ (i : Nat) m news h tk g t, i < n → J i m news g → (∀ p ∈ news, p.1 ≠ I) → Fr h₀ env.locals h (fun y => if y = x then some (.int (a + (i : Int)) t) else m y) → News h₀ env.locals h ((I, itR (a + ((i + 1 : Nat) : Int)) ((n : Int) - ((i + 1 : Nat) : Int))) :: news) →
      wpAny (model prog w) A (execs body env) (fun f s₂ => match f with
        | .ret v => R (.ok (.ret v)) s₂
        | .brk => R (.ok .next) s₂
        | _ => ∃ h' tk' g' m' news', s₂ = { s with heap := h', toks := tk', gens := g' } ∧ Fr h₀ env.locals h' m' ∧ News h₀ env.locals h' ((I, itR (a + ((i + 1 : Nat) : Int)) ((n : Int) - ((i + 1 : Nat) : Int))) :: news') ∧ (∀ p ∈ news', p.1 ≠ I) ∧ J (i + 1) m' news' g')
        (notedBy (model prog w) A env fun e s' => R (.error e) s') { s with heap := h, toks := tk, gens := g })
    (done : ∀ h tk g m news, J n m news g → Fr h₀ env.locals h m → News h₀ env.locals h news → R (.ok .next) { s with heap := h, toks := tk, gens := g }) :
    codeAny (model prog w) A (.forLoop (.Name x px) (.ref I) body [] env) R s := by
  refine codeAny_forLoop
    (fun k s' => ∃ h' tk g m' news' i, s' = { s with heap := h', toks := tk, gens := g } ∧ h'.get? I = some (itR (a + ((i : Nat) : Int)) ((n : Int) - ((i : Nat) : Int))) ∧ Fr h₀ env.locals h' m' ∧ News h₀ env.locals h' news' ∧ (∀ p ∈ news', p.1 ≠ I) ∧ J i m' news' g ∧ i ≤ n ∧ k = n + 1 - i) ?_ (n + 1)
    ⟨s.heap, s.toks, s.gens, m, news, 0, rfl, by simpa using hit, F, N, off, h0, Nat.zero_le _, rfl⟩
  intro k s' hst0
  refine Classical.byContradiction fun hn0 => ?_
  obtain ⟨h', tk, g, m', news', i, rfl, hst', F', N', off', hJ, hi, rfl⟩ := hst0
  refine hn0 ?_
  clear hn0
  by_cases hlt : i < n
  · refine wpAny_pyNext_range_item (itR_is hst') (by omega) fun h₁ hit₁ hs₁ => ?_
    obtain ⟨F₁, N₁⟩ := off_range F' N' hIL hI off' (fun b o hb e => hs₁.extBut b o hb e)
    refine wpAny_assign_Name (wpAny_storeName_local hx F₁.ns (fun h₂ hn₂ hs₂ => ?_) hp)
    have F₂ := F₁.set hn₂ hs₂
    have e1 : a + (i : Int) + 1 = a + ((i + 1 : Nat) : Int) := by push_cast; omega
    have e2 : (n : Int) - (i : Int) - 1 = (n : Int) - ((i + 1 : Nat) : Int) := by push_cast; omega
    have hst₂ : h₂.get? I = some (itR (a + ((i + 1 : Nat) : Int)) ((n : Int) - ((i + 1 : Nat) : Int))) := by
      rw [hs₂.2 I hIL, ← e1, ← e2]; exact hit₁
    have N₂ : News h₀ env.locals h₂ ((I, itR (a + ((i + 1 : Nat) : Int)) ((n : Int) - ((i + 1 : Nat) : Int))) :: news') := fun p hp => by
      rcases List.mem_cons.mp hp with rfl | hp
      · exact ⟨hst₂, hIL, hI⟩
      · exact (N₁.set hs₂) p hp
    refine wpAny_mono (turn i m' news' h₂ _ g _ hlt hJ off' F₂ N₂) (fun f s₃ h₃ => ?_) fun _ _ e => e
    have fin : (∃ h' tk' g' m' news', s₃ = { s with heap := h', toks := tk', gens := g' } ∧ Fr h₀ env.locals h' m' ∧ News h₀ env.locals h' ((I, itR (a + ((i + 1 : Nat) : Int)) ((n : Int) - ((i + 1 : Nat) : Int))) :: news') ∧ (∀ p ∈ news', p.1 ≠ I) ∧ J (i + 1) m' news' g') →
        ∃ m, m < n + 1 - i ∧ ∃ h' tk g m' news' i, s₃ = { s with heap := h', toks := tk, gens := g } ∧ h'.get? I = some (itR (a + ((i : Nat) : Int)) ((n : Int) - ((i : Nat) : Int))) ∧ Fr h₀ env.locals h' m' ∧ News h₀ env.locals h' news' ∧ (∀ p ∈ news', p.1 ≠ I) ∧ J i m' news' g ∧ i ≤ n ∧ m = n + 1 - i := by
      rintro ⟨hp₃, tk₃, g₃, m₃, news₃, rfl, F₃, N₃, off₃, hJ₃⟩
      exact ⟨n + 1 - (i + 1), by omega, hp₃, tk₃, g₃, m₃, news₃, i + 1, rfl, (N₃ _ (List.mem_cons_self ..)).1, F₃, fun p hp => N₃ p (List.mem_cons_of_mem _ hp), off₃, hJ₃, hlt, rfl⟩
    cases f with
    | ret v => exact h₃
    | brk => exact h₃
    | next => exact fin h₃
    | cont => exact fin h₃
  · have hin : i = n := by omega
    subst hin
    refine wpAny_pyNext_range_end hh (itR_is hst') (by omega) fun h₁ he => wpAny_execs_nil ?_
    obtain ⟨F₁, N₁⟩ := off_range F' N' hIL hI off' (fun b o hb e => he b o hb e)
    exact done h₁ _ g m' news' hJ F₁ N₁
def RangePost (h₀ : Heap) (L : Addr) (s₁ : Shared) (I : Addr) (it : Obj) (Jn : (Str → Option Value) → List (Addr × Obj) → Array GenState → Prop) (Q : Flow → Shared → Prop) (f : Flow) (s₂ : Shared) : Prop := match f with
  | .ret v => Q (.ret v) s₂
  | .brk => Q .next s₂
  | _ => ∃ h' tk' g' m' news', s₂ = { s₁ with heap := h', toks := tk', gens := g' } ∧ Fr h₀ L h' m' ∧ News h₀ L h' ((I, it) :: news') ∧ (∀ p ∈ news', p.1 ≠ I) ∧ Jn m' news' g'
theorem RangePost.next {h₀ : Heap} {L : Addr} {s₁ : Shared} {I : Addr} {it : Obj} {Jn : (Str → Option Value) → List (Addr × Obj) → Array GenState → Prop} {Q : Flow → Shared → Prop} {h' : Heap} {tk' : Nat} {g' : Array GenState} {m' : Str → Option Value} {all : List (Addr × Obj)}
   (news' : List (Addr × Obj)) (F : Fr h₀ L h' m') (N : News h₀ L h' all) (hI : (I, it) ∈ all) (hs : ∀ p ∈ news', p ∈ all) (hc : ∀ p ∈ news', p.2.cls ≠ it.cls) (hJ : Jn m' news' g') : RangePost h₀ L s₁ I it Jn Q .next { s₁ with heap := h', toks := tk', gens := g' } := by
  refine ⟨h', tk', g', m', news', rfl, F, fun p hp => ?_, fun p hp e => ?_, hJ⟩
  · rcases List.mem_cons.mp hp with rfl | hp
    · exact N _ hI
    · exact N p (hs p hp)
  · have h1 := (N p (hs p hp)).1
    have h2 := (N _ hI).1
    rw [e, h2] at h1
    exact hc p hp (congrArg Obj.cls (Option.some.inj h1)).symm
inductive RangeStart (prog : Program) (w : World) (A : Around) (E : Value → Shared → Prop) (h₀ : Heap) (env : Env) (x : Str) (body : List Stmt) (Q : Flow → Shared → Prop) (xv : Value) (s₁ : Shared) : Prop
  | mk (r : Addr) (a b : Int) (n : Nat) (t u v : Tok) (m : Str → Option Value) (news : List (Addr × Obj)) (J : Nat → (Str → Option Value) → List (Addr × Obj) → Array GenState → Prop) (c1 : xv = .ref r)
     (c2 : A.handled = none)
     (c3 : IsRange s₁.heap r a b 1 t u v)
     (c4 : Builtin.Range.small a b 1 = true)
     (c5 : Builtin.Range.rangeSize a b 1 = (n : Int))
     (c6 : Fr h₀ env.locals s₁.heap m)
     (c7 : News h₀ env.locals s₁.heap news)
     (c8 : J 0 m news s₁.gens)
     (c9 : (∀ (I : Addr) (i : Nat) m news h tk g t, i < n → J i m news g → (∀ p ∈ news, p.1 ≠ I) → Fr h₀ env.locals h (fun y => if y = x then some (.int (a + (i : Int)) t) else m y) → News h₀ env.locals h ((I, itR (a + ((i + 1 : Nat) : Int)) ((n : Int) - ((i + 1 : Nat) : Int))) :: news) → wpAny (model prog w) A (execs body env) (RangePost h₀ env.locals s₁ I (itR (a + ((i + 1 : Nat) : Int)) ((n : Int) - ((i + 1 : Nat) : Int))) (J (i + 1)) Q) E { s₁ with heap := h, toks := tk, gens := g }))
     (c10 : ∀ h tk g m news, J n m news g → Fr h₀ env.locals h m → News h₀ env.locals h news → Q .next { s₁ with heap := h, toks := tk, gens := g }) : RangeStart prog w A E h₀ env x body Q xv s₁
/-- the same, as the statement: the range has just been made -/
theorem for_range {E : Value → Shared → Prop} {Q : Flow → Shared → Prop} {x : Str} {px pos : Pos} {iter : Expr} {body : List Stmt} {s : Shared} {m₀ : Str → Option Value} (_F : Fr h₀ env.locals s.heap m₀)
    (hx : env.kindOf x = some .local) (hp : (env.scope.kind == .class || (env.scope.kind == .module && env.locals != env.globals)) = false)
    (hs : ∀ x, foldedSetIterable iter env x = pure x)
    (h : wpAny (model prog w) A (eval iter env) (RangeStart prog w A E h₀ env x body Q) E s)
    (hE : PassesOwn (model prog w) A env E) :
    wpAny (model prog w) A (exec (.For (.Name x px) iter body [] pos) env) Q E s := by
  refine wpAny_For (wpAny_mono h (fun xv s₁ h₁ => ?_) fun _ _ e => e) hs
  obtain ⟨r, a, b, n, t, u, v, m, news, J, rfl, hh, hr, hsmall, hn, F, N, h0, turn, done⟩ := h₁
  refine wpAny_pyIter_range hr hsmall ?_
  refine range_loop (R := fun r s' => match r with | .ok f => Q f s' | .error e => cameBackBy (model prog w) A env E e s') (a := a) (n := n) hh hx hp (next_is_new F) (Ne.symm (Nat.ne_of_lt F.ns.lt)) (fun p hp => Nat.ne_of_lt (Heap.lt_size (N p hp).1)) ?_ (F.push _) (fun p hp => ⟨Heap.get?_push_of_some _ (N p hp).1, (N p hp).2⟩) J h0 ?_ ?_
  · rw [hn]; exact Heap.get?_push_size _ rfl
  · intro i m' news' h' tk g t' hi hJ off F' N'
    refine wpAny_passesOwn hE (wpAny_mono (turn s₁.heap.objs.size i m' news' h' tk g t' hi hJ off F' N') (fun f s₂ h₂ => ?_) fun _ _ e => e)
    cases f <;> exact h₂
  · intro h' tk g m' news' hJ F' N'
    exact done h' tk g m' news' hJ F' N'
end
end Mine

end
-- Gen2
section
open PySem PySem.W PyProof.Rows PySem.Calls
open PySem.Sem (wp)
set_option maxRecDepth 100000
set_option maxHeartbeats 8000000
namespace Mine
theorem fresh_Gen2 : True := by
  w_top off
  k_with_none
  k_with "omega" => lia
  trivial
theorem seg_ind {M : Model} {A : Around} {R : GenEnd} {Y : Protocol} {c : Code} {fs : List Frame} (Pre : Nat → Nat → Shared → Shared → Prop)
    (step : ∀ n, (∀ m, m < n → ∀ j s₀ s, Pre m j s₀ s → Seg M A R Y m s₀ c (M.den c) fs s) → ∀ j s₀ s, Pre n j s₀ s → Seg M A R Y n s₀ c (M.den c) fs s) : ∀ n j s₀ s, Pre n j s₀ s → Seg M A R Y n s₀ c (M.den c) fs s := by
  intro n
  induction n using Nat.strongRecOn with
  | _ n ih => exact step n ih
/-- the ruler: what is told ahead of a nought or of 127 -/
def pre (ns : List Int) : List Int := ns.takeWhile fun x => x != 0 && x != 127
/-- the k-th size told, if it comes to that -/
def valAt (ns : List Int) (k : Nat) : Option Int :=
  if k < (pre ns).length then (pre ns)[k]? else if ns[(pre ns).length]? = some 0 then (pre ns).getLast? else none
def genM (rl : Addr) (lv iv : Value) (u : Str → Option Value) : Str → Option Value := fun y => if y = Str.ofString "interval" then some iv else if y = Str.ofString "last_interval" then some lv else if y = Str.ofString "grouping" then some (.ref rl) else u y
def LastIs (ns : List Int) : Nat → Value → Prop
  | 0, v => v = .none
  | k + 1, v => ∃ x t, (pre ns)[k]? = some x ∧ v = .int x t
/-- what the generator holds of its own, told k sizes and one more -/
def PvAt (g : Heap) (Lg rl : Addr) (ns : List Int) (k : Nat) (it : Addr) (h : Heap) : Prop :=
  it ≠ Lg ∧ g.get? it = none ∧ ∃ lv iv u, Fr g Lg h (genM rl lv iv u) ∧
    ((k < (pre ns).length ∧ LastIs ns k lv ∧ (∃ x t, (pre ns)[k]? = some x ∧ iv = .int x t) ∧ h.IsListIter it rl (k + 1)) ∨
     ((pre ns).length ≤ k ∧ ns[(pre ns).length]? = some 0 ∧ (∃ x t, (pre ns).getLast? = some x ∧ lv = .int x t) ∧ ∃ o, h.get? it = some o ∧ o.cls = .type "list_iterator"))
def KeepG (g : Heap) (Lg : Addr) (h h' : Heap) : Prop := ∀ b o, b ≠ Lg → (o.cls ≠ .type "list_iterator" ∨ (∃ es ep, o.data = .dict es ep) ∨ (g.get? b).isSome = true) → h.get? b = some o → h'.get? b = some o
def GenY (g h₁ : Heap) (Lg rl : Addr) (ns : List Int) (N : Nat) : Protocol := fun n s₀ v s₁ kap =>
  ∃ k it, k + n + 1 = N ∧ (∃ x t, valAt ns k = some x ∧ v = .int x t) ∧ (∃ h tk, s₁ = { s₀ with heap := h, toks := tk }) ∧ KeepG g Lg s₀.heap s₁.heap ∧ PvAt g Lg rl ns k it s₁.heap ∧
    (∀ b o, h₁.get? b = some o → b < it) ∧ (0 < n → ∀ s'', PvAt g Lg rl ns k it s''.heap → kap (.send .none) s'')
def GenP (g : Heap) (Lg : Addr) (ns : List Int) (N : Nat) : Nat → Shared → Shared → Prop := fun n s₀ s₁ =>
  (∃ k, k + n = N ∧ valAt ns k = none) ∧ (∃ h tk, s₁ = { s₀ with heap := h, toks := tk }) ∧ KeepG g Lg s₀.heap s₁.heap
theorem KeepG.refl (g : Heap) (Lg : Addr) (h : Heap) : KeepG g Lg h h := fun _ _ _ _ e => e
theorem KeepG.trans {g : Heap} {Lg : Addr} {h h' h'' : Heap} (a : KeepG g Lg h h') (b : KeepG g Lg h' h'') : KeepG g Lg h h'' := fun x o n c e => b x o n c (a x o n c e)
end Mine

end
-- Gen3
section
open PySem PySem.W PyProof.Rows PySem.Calls
open PySem.Sem (wp)
set_option maxRecDepth 100000
set_option maxHeartbeats 8000000
namespace Mine
theorem fresh_Gen3 : True := by
  w_top off
  k_with_none
  k_with "omega" => lia
  trivial
theorem pre_get {ns : List Int} {j : Nat} {x : Int} (h : (pre ns)[j]? = some x) : ns[j]? = some x ∧ x ≠ 0 ∧ x ≠ 127 := by
  unfold pre at h
  induction ns generalizing j with
  | nil => simp at h
  | cons y ys ih =>
    rw [List.takeWhile_cons] at h
    split at h
    · rename_i hy
      simp only [Bool.and_eq_true, bne_iff_ne, ne_eq] at hy
      cases j with
      | zero => simp at h; subst h; exact ⟨rfl, hy⟩
      | succ j => simp at h; simpa using ih h
    · simp at h
theorem pre_end {ns : List Int} {x : Int} (h : ns[(pre ns).length]? = some x) : x = 0 ∨ x = 127 := by
  unfold pre at h
  induction ns with
  | nil => simp at h
  | cons y ys ih =>
    rw [List.takeWhile_cons] at h
    split at h
    · simp only [List.length_cons, List.getElem?_cons_succ] at h; exact ih h
    · rename_i hy
      simp at h; subst h
      simp only [Bool.and_eq_true, bne_iff_ne, ne_eq, not_and, Decidable.not_not] at hy
      by_cases h0 : y = 0
      · exact .inl h0
      · exact .inr (hy h0)
theorem pre_at_end {ns : List Int} {j : Nat} {x : Int} (hj : j ≤ (pre ns).length) (h : ns[j]? = some x) (hx : x = 0 ∨ x = 127) : j = (pre ns).length := by
  rcases Nat.lt_or_eq_of_le hj with hlt | e
  · exfalso
    have e1 : (pre ns)[j]? = some (pre ns)[j] := by simp [hlt]
    have e2 := pre_get e1
    rw [h] at e2
    obtain ⟨e3, e4, e5⟩ := e2
    have := Option.some.inj e3
    rcases hx with hx | hx <;> omega
  · exact e
theorem pre_at {ns : List Int} {j : Nat} {x : Int} (hj : j ≤ (pre ns).length) (h : ns[j]? = some x) (h0 : x ≠ 0) (h127 : x ≠ 127) : j < (pre ns).length ∧ (pre ns)[j]? = some x := by
  rcases Nat.lt_or_eq_of_le hj with hlt | e
  · have e1 : (pre ns)[j]? = some (pre ns)[j] := by simp [hlt]
    have e2 := (pre_get e1).1
    rw [h] at e2
    exact ⟨hlt, e1.trans (by rw [← Option.some.inj e2])⟩
  · rw [e] at h
    rcases pre_end h with h | h <;> omega
theorem pre_le (ns : List Int) : (pre ns).length ≤ ns.length := (List.takeWhile_prefix _).length_le
def headM (rl : Addr) (lv : Value) (u : Str → Option Value) : Str → Option Value := fun y => if y = Str.ofString "last_interval" then some lv else if y = Str.ofString "grouping" then some (.ref rl) else u y
def GenPre (g h₁ : Heap) (Lg rl I : Addr) (ns : List Int) (N : Nat) (n j : Nat) (s₀ s : Shared) : Prop :=
  n + j = N ∧ j ≤ (pre ns).length ∧ 0 < n ∧ (∃ h tk, s = { s₀ with heap := h, toks := tk }) ∧ KeepG g Lg s₀.heap s.heap ∧ s.heap.IsListIter I rl j ∧ ∃ lv u, Fr g Lg s.heap (headM rl lv u) ∧ LastIs ns j lv
theorem ints_at {vs : List Value} {ns : List Int} (hi : IntsAre vs ns) : ∀ {j : Nat} {v : Value}, vs[j]? = some v → ∃ x t, ns[j]? = some x ∧ v = .int x t := by
  induction hi with
  | nil => intro j v h; simp at h
  | cons k t _ ih =>
    intro j v h
    cases j with
    | zero => simp at h; exact ⟨k, t, rfl, h.symm⟩
    | succ j => simp at h; simpa using ih h
theorem headM_of (rl : Addr) (lv lv' iv' : Value) (u : Str → Option Value) : (fun y => if y = Str.ofString "last_interval" then some lv else genM rl lv' iv' u y) = headM rl lv (genM rl lv' iv' u) := by
  funext y
  unfold headM
  split
  · rfl
  · split
    · rename_i e; rw [e]; rfl
    · rfl
def GenPreC (g : Heap) (Lg rl I : Addr) (ns : List Int) (N : Nat) (y : Int) (n j : Nat) (s₀ s : Shared) : Prop :=
  n + j = N ∧ (pre ns).length ≤ j ∧ 0 < n ∧ (∃ h tk, s = { s₀ with heap := h, toks := tk }) ∧ KeepG g Lg s₀.heap s.heap ∧ (∃ o, s.heap.get? I = some o ∧ o.cls = .type "list_iterator") ∧ ∃ t iv u, Fr g Lg s.heap (genM rl (.int y t) iv u)
theorem ev_none {M : Model} {A : Around} {E : Value → Shared → Prop} {s : Shared} {env : Env} {k pos} {Q : Value → Shared → Prop} (h : Q .none s) : wpAny M A (eval (.Constant .none k pos) env) Q E s := fun _ _ _ => h
theorem keep_same {g : Heap} {Lg : Addr} {h h' : Heap} (hs : Heap.SameBut Lg h h') : KeepG g Lg h h' := fun b _ n _ e => (hs.2 b n).trans e
theorem keep_push {g : Heap} {Lg : Addr} {h : Heap} {o : Obj} : KeepG g Lg h (h.push o) := fun _ _ _ _ e => Heap.get?_push_of_some _ e
theorem keep_iter {g : Heap} {Lg I rl : Addr} {j : Nat} {h h' : Heap} (hI : g.get? I = none) (hit : h.IsListIter I rl j) (hs : Heap.SameBut I h h') : KeepG g Lg h h' := by
  intro b o _ hc e
  by_cases hb : b = I
  · subst hb
    obtain ⟨o', ho', hcl, hda⟩ := hit
    rw [e] at ho'
    obtain rfl := Option.some.inj ho'
    rcases hc with hc | ⟨es, ep, hc⟩ | hc
    · exact absurd hcl hc
    · rw [hda] at hc; cases hc
    · rw [hI] at hc; cases hc
  · exact (hs.2 b hb).trans e
theorem keep_ext {g : Heap} {Lg I rl : Addr} {j : Nat} {h h' : Heap} (hI : g.get? I = none) (hit : h.IsListIter I rl j) (hs : Heap.ExtBut I h h') : KeepG g Lg h h' := by
  intro b o _ hc e
  by_cases hb : b = I
  · subst hb
    obtain ⟨o', ho', hcl, hda⟩ := hit
    rw [e] at ho'
    obtain rfl := Option.some.inj ho'
    rcases hc with hc | ⟨es, ep, hc⟩ | hc
    · exact absurd hcl hc
    · rw [hda] at hc; cases hc
    · rw [hI] at hc; cases hc
  · exact hs b o hb e
/-- the def that stands at 38, and what holds of its text -/
inductive DefAt (w : World) (rl : Addr) (P : Str → Scope → List Stmt → Value → Prop) : Prop
  | mk (name qual : Str) (params : Arguments) (body : List Stmt) (scope : Scope) (dV kV doc pm : Value) (an : Option Addr) (cdv ct oc : Value) (od : Option Addr) (osl : Array (Option Value)) (binds : List (Str × Value))
     (c1 : (hd.heap_39 w.params).lookup 38 = some ⟨oc, od, .func (fnOf name qual params body scope dV kV doc pm an cdv ct), osl⟩)
     (c2 : codeIn (hd.heap_39 w.params) cdv qual = true)
     (c3 : scope.isCoroutine = false)
     (c4 : scope.isGenerator = true)
     (c5 : scope.kind = .function)
     (c6 : (∀ x ∈ scope.names, x.2 ≠ .cell))
     (c7 : (∀ s, BindsTo s (fnOf name qual params body scope dV kV doc pm an cdv ct) ⟨[.ref rl], []⟩ binds))
     (c8 : (∀ y ∈ binds, scope.names.lookup y.1 = some .local))
     (c9 : binds.reverse.lookup (Str.ofString "grouping") = some (.ref rl))
     (go : P qual scope body cdv) : DefAt w rl P
theorem gen_go (w : World) (mean : ExcName → Option Value) (mg mb : Str → Option Value) (rl : Addr) (vs : List Value) (ns : List Int) (hi : IntsAre vs ns) :
  DefAt w rl fun qual scope body cdv =>
    ∀ (g h₁ : Heap) (Lg : Addr) (dp un : Nat) (fr : Option (List Env)) (gd : Option (List Code)) (N : Nat) (s : Shared) (m : Str → Option Value), (hd.heap_39 w.params).In g → Top hd.view_39 (looseW hd.view_39 lse) mean mg mb g → g.IsList rl vs.toArray → 0 < N → pre ns ≠ [] →
      Fr g Lg s.heap m → m (Str.ofString "grouping") = some (.ref rl) → (∀ b o, h₁.get? b = some o → s.heap.get? b = some o) →
      Seg (model PySem.Challenge.rw_sr0007_01.row.prog w) ⟨none, dp, fr, gd, un⟩ (fun n s₀ r s₁ => r = .ok (.ret .none) ∧ GenP g Lg ns N n s₀ s₁) (GenY g h₁ Lg rl ns N) N s (.func body (envOf qual scope Lg 38 cdv)) ((model PySem.Challenge.rw_sr0007_01.row.prog w).den (.func body (envOf qual scope Lg 38 cdv))) [] s := by
  k_fill
  refine ⟨_, _, _, _, _, _, _, _, _, _, _, _, _, _, _, _, by k_is, by k_is, rfl, rfl, rfl, by decide, fun s => BindsTo.of_eq rfl, locs rfl, rfl, ?_⟩
  intro g h₁ Lg dp un fr gd N s m X T hl hN hpre F hm h1
  have em : m = fun y => if y = Str.ofString "grouping" then some (.ref rl) else m y := by
    funext y
    split
    · rename_i e; rw [e]; exact hm
    · rfl
  rw [em] at F
  clear em hm
  refine seg_func ?_
  refine seg_execs_cons (seg_exec ?_)
  refine wpAny_Assign_Name ?_ (by with_unfolding_all rfl)
  refine ev_none ?_
  refine wpAny_storeName_local (by with_unfolding_all rfl) F.ns (fun h2 hn2 hs2 => ?_) (by with_unfolding_all rfl)
  have F2 := F.set hn2 hs2
  refine seg_execs_cons ?_
  refine seg_For (by with_unfolding_all exact fun _ => rfl) ?_
  refine ld F2 rfl ?_
  have hl2 : h2.IsList rl vs.toArray := hl.at fun o e => F2.keep rl o e
  refine wpAny_pyIter_list hl2 ?_
  intro p
  have hI0 : g.get? h2.objs.size = none := next_is_new F2
  have hIL : h2.objs.size ≠ Lg := Ne.symm (Nat.ne_of_lt F2.ns.lt)
  have hold : ∀ b o, h₁.get? b = some o → b < h2.objs.size := fun b o e => by
    have := Heap.lt_size (h1 b o e); rw [← hs2.1] at this; exact this
  have P0 : GenPre g h₁ Lg rl h2.objs.size ns N N 0 s { s with heap := h2.push { cls := .type "list_iterator", data := .fields #[.ref rl, .int 0 0] }, toks := s.toks + 1 } :=
    ⟨rfl, Nat.zero_le _, hN, ⟨_, _, rfl⟩, (keep_same hs2).trans keep_push, ⟨_, Heap.get?_push_size _ rfl, rfl, rfl⟩, .none, _, F2.push _, rfl⟩
  generalize h2.objs.size = I at *
  refine seg_ind (GenPre g h₁ Lg rl I ns N) ?_ N 0 _ _ P0
  clear P0 hs2 hn2 hl2 F2 F
  intro n IH j s₀ s HP
  obtain ⟨hnj, hj, hn0, ⟨h, tk, rfl⟩, hkeep, hit, lv, u, F3, hlast⟩ := HP
  have hl3 : h.IsList rl vs.toArray := hl.at fun o e => F3.keep rl o e
  refine seg_forLoop ?_
  cases hx : vs.toArray[j]? with
  | none =>
    refine wpAny_pyNext_list_end rfl hit hl3 hx (fun h4 he4 => ?_)
    refine seg_leaf (.ok .next) ?_
    refine seg_end (.ok (.ret .none)) ⟨rfl, ⟨j, by omega, ?_⟩, ⟨_, _, rfl⟩, hkeep.trans (keep_ext hI0 hit he4)⟩
    have e1 : ns[j]? = none := by
      have hlen := hi.length
      rw [List.getElem?_eq_none_iff]
      simp at hx; omega
    have e2 := pre_le ns
    have e3 : j = (pre ns).length := by rw [List.getElem?_eq_none_iff] at e1; omega
    unfold valAt
    rw [if_neg (by omega), if_neg (by rw [← e3, e1]; simp)]
  | some v =>
    obtain ⟨x, t, hnx, rfl⟩ : ∃ x t, ns[j]? = some x ∧ v = .int x t := ints_at hi (by simpa using hx)
    refine wpAny_pyNext_list_item hit hl3 hx (fun h4 hit4 hs4 => ?_)
    refine wpAny_of_eq (a := ()) rfl ?_
    have F4 : Fr g Lg h4 (headM rl lv u) := ⟨F3.ns.at' fun o e => (hs4.2 Lg (Ne.symm hIL)).trans e, fun b o e => (hs4.2 b (fun q => by rw [q, hI0] at e; cases e)).trans (F3.keep b o e), F3.above⟩
    refine wpAny_assign_Name (wpAny_storeName_local (by with_unfolding_all rfl) F4.ns (fun h5 hn5 hs5 => ?_) (by with_unfolding_all rfl))
    have F5 := F4.set hn5 hs5
    have hit5 : h5.IsListIter I rl (j + 1) := hit4.at (fun o e => (hs5.2 I hIL).trans e)
    have hk5 : KeepG g Lg s₀.heap h5 := (hkeep.trans (keep_iter hI0 hit hs4)).trans (keep_same hs5)
    refine seg_execs_cons (seg_If ?_)
    unfold headM at F5
    have N5 : News g Lg h5 [] := News.nil
    k_steps
    · -- 127
      rename_i h127
      refine seg_execs_cons (seg_exec ?_)
      k_steps
      refine seg_leaf (.ok (.ret .none)) ?_
      refine seg_end (.ok (.ret .none)) ⟨rfl, ⟨j, by omega, ?_⟩, ⟨_, _, rfl⟩, hk5⟩
      have e3 : j = (pre ns).length := pre_at_end hj hnx (by omega)
      unfold valAt
      rw [if_neg (by omega), if_neg (by rw [← e3, hnx, h127]; decide)]
    · rename_i h127
      refine seg_execs_nil ?_
      refine seg_execs_cons (seg_If ?_)
      k_steps
      · rename_i h0
        have e3 : j = (pre ns).length := pre_at_end hj hnx (by omega)
        obtain ⟨k, rfl⟩ : ∃ k, j = k + 1 := by
          cases j with
          | zero => exact absurd (List.eq_nil_of_length_eq_zero e3.symm) hpre
          | succ k => exact ⟨k, rfl⟩
        obtain ⟨y, t2, hy, rfl⟩ := hlast
        have hyl : (pre ns).getLast? = some y := by rw [List.getLast?_eq_getElem?, ← e3]; exact hy
        have hn0' : ns[(pre ns).length]? = some 0 := by rw [← e3, hnx, h0]
        refine seg_execs_cons (seg_If ?_)
        k_steps
        show Seg _ _ _ _ _ _ _ _ _ _
        refine seg_execs_nil ?_
        refine seg_execs_cons (seg_While ?_)
        intro p2
        refine seg_ind (GenPreC g Lg rl I ns N y) ?_ n (k + 1) _ _ ⟨by omega, by omega, hn0, ⟨_, _, rfl⟩, hk5, hit5.imp fun _ z => ⟨z.1, z.2.1⟩, ?_⟩
        · intro n IH j s₀ s HP
          obtain ⟨hnj, hj, hn0, ⟨h, tk, rfl⟩, hkeep, hIo, t3, iv, u, F6⟩ := HP
          refine seg_whileLoop ?_
          have N6 : News g Lg h [] := News.nil
          unfold genM at F6
          k_steps
          obtain ⟨n', rfl⟩ : ∃ n', n = n' + 1 := ⟨n - 1, by omega⟩
          refine seg_execs_cons (seg_Expr_Yield (by rfl) (by rfl) (by rfl) ?_)
          refine ld F6 rfl ?_
          intro kap hk
          have hval : valAt ns j = some y := by unfold valAt; rw [if_neg (by omega), if_pos hn0']; exact hyl
          refine ⟨j, I, by omega, ⟨y, _, hval, rfl⟩, ⟨_, _, rfl⟩, hkeep, ⟨hIL, hI0, _, _, _, F6,   .inr ⟨hj, hn0', ⟨y, _, hyl, rfl⟩, hIo⟩⟩, hold, fun hn s'' hP => hk .none s'' ?_⟩
          obtain ⟨_, _, lv', iv', u', F7, hc⟩ := hP
          rcases hc with ⟨hlt, _⟩ | ⟨_, _, ⟨y', t', hy', rfl⟩, hIo'⟩
          · omega
          · obtain rfl : y' = y := Option.some.inj (hy'.symm.trans hyl)
            refine seg_execs_nil ?_
            exact seg_again rfl (IH n' (by omega) (j + 1) s'' s'' ⟨by omega, by omega, hn, ⟨_, _, rfl⟩, KeepG.refl _ _ _, hIo', _, _, _, F7⟩)
        · exact ⟨t2, _, u, F5⟩
      · rename_i h0
        obtain ⟨hlt, hpx⟩ := pre_at hj hnx h0 h127
        refine seg_execs_nil ?_
        obtain ⟨n', rfl⟩ : ∃ n', n = n' + 1 := ⟨n - 1, by omega⟩
        refine seg_execs_cons (seg_Expr_Yield (by rfl) (by rfl) (by rfl) ?_)
        refine ld F5 rfl ?_
        intro kap hk
        have hval : valAt ns j = some x := by unfold valAt; rw [if_pos hlt]; exact hpx
        refine ⟨j, I, by omega, ⟨x, t, hval, rfl⟩, ⟨_, _, rfl⟩, hk5, ⟨hIL, hI0, lv, _, u, F5, .inl ⟨hlt, hlast, ⟨x, t, hpx, rfl⟩, hit5⟩⟩, hold, fun hn s'' hP => hk .none s'' ?_⟩
        obtain ⟨_, _, lv', iv', u', F7, hc⟩ := hP
        rcases hc with ⟨_, _, ⟨x', t', hx', rfl⟩, hit7⟩ | ⟨hle, _⟩
        · refine seg_execs_cons (seg_exec ?_)
          refine wpAny_Assign_Name ?_ (by with_unfolding_all rfl)
          refine ld F7 rfl ?_
          refine wpAny_storeName_local (by with_unfolding_all rfl) F7.ns (fun h8 hn8 hs8 => ?_) (by with_unfolding_all rfl)
          have F8 := F7.set hn8 hs8
          have F9 : Fr g Lg h8 (headM rl (.int x' t') (genM rl lv' (.int x' t') u')) := by rw [← headM_of]; exact F8
          refine seg_execs_nil ?_
          exact seg_again rfl (IH n' (by omega) (j + 1) s'' _ ⟨by omega, by omega, hn, ⟨_, _, rfl⟩, keep_same hs8, hit7.at (fun o e => (hs8.2 I hIL).trans e), _, _, F9, ⟨x', t', hx', rfl⟩⟩)
        · omega
end Mine

end
-- Gen4
section
open PySem PySem.W PyProof.Rows PySem.Calls
open PySem.Sem (wp)
set_option maxRecDepth 100000
set_option maxHeartbeats 8000000
namespace Mine
theorem fresh_Gen4 : True := by
  w_top off
  k_with_none
  k_with "omega" => lia
  trivial
/-- a generator left with a clean-up to do -/
def loud : GenState → Bool
  | .suspended _ _ _ _ _ c => c
  | _ => false
theorem left_push {gens : Array GenState} {c : Code} (h : leftWithCleanup gens = false) : leftWithCleanup (gens.push (.fresh c)) = false := by
  unfold leftWithCleanup at *
  rw [Array.any_push, h]; rfl
def GoesOn (M : Model) (A : Around) (R : GenEnd) (Y : Protocol) (gs : GenState) : Nat → Resume → Shared → Prop
  | 0, _, _ => False
  | m + 1, r, s => gs.Goes M A R Y m r s
theorem loud_of {gens : Array GenState} (h : leftWithCleanup gens = false) (i : Nat) (hi : i < gens.size) : loud gens[i] = false := by
  unfold leftWithCleanup at h
  rw [Array.any_eq_false] at h
  have := h i hi
  revert this
  generalize gens[i] = x
  cases x <;> simp [loud]
theorem left_of {gens : Array GenState} (h : ∀ i (hi : i < gens.size), loud gens[i] = false) : leftWithCleanup gens = false := by
  unfold leftWithCleanup
  rw [Array.any_eq_false]
  intro i hi
  have := h i hi
  revert this
  generalize gens[i] = x
  cases x <;> simp [loud]
theorem left_set {gens : Array GenState} {g : Nat} {a b : GenState} (h : leftWithCleanup gens = false) (hb : loud b = false) : leftWithCleanup ((gens.setIfInBounds g a).setIfInBounds g b) = false := by
  refine left_of fun i hi => ?_
  have hi' : i < gens.size := by simpa using hi
  rw [Array.getElem_setIfInBounds (by simpa using hi')]
  split
  · exact hb
  · rw [Array.getElem_setIfInBounds hi', if_neg (by assumption)]
    exact loud_of h i hi'
section
variable {prog : Program} {w : World} {A : Around} {s : Shared}
theorem resume_q {M : Model} {A : Around} {R : GenEnd} {Y : Protocol} {n : Nat} {E : Value → Shared → Prop} {s : Shared} {g : Nat} {gs : GenState}
    {r : Resume} {l : List Value} {α : Type} {k : GenResult → Sem α} {Q : α → Shared → Prop} (hg : s.gens[g]? = some gs)
    (hgo : gs.Goes M A R Y n r (s.setGen g .running))
    (hR : ∀ x s₁, R n (s.setGen g .running) x s₁ → wpAny M A (k (End.ret x).result) Q E (s₁.setGen g .finished))
    (hY : ∀ v s₁ gs', loud gs' = false → Y (n - 1) (s.setGen g .running) v s₁ (GoesOn M A R Y gs' n) →
      wpAny M A (k (.yielded v)) Q E (s₁.setGen g gs')) :
    wpAny M A (.resume g r l k) Q E s := by
  intro Γ p hΓ
  rw [Sem.wp_resume]
  have main : ∀ (e₁ : End) (s₁ : Shared), SegEnd R Y n (Seg.next M A R Y n) (s.setGen g .running) e₁ s₁ →
      e₁.quiet = true ∧ wp M Γ (k e₁.result) (fun a _ s' => Q a s') (fun e _ s' => E e s') p (s₁.setGen g e₁.genState) := by
    intro e₁ s₁ he
    cases e₁ with
    | ret x => exact ⟨rfl, hR x s₁ he Γ p hΓ⟩
    | susp v g₀ l₀ k₀ c₀ p₀ fs₀ =>
      have hq := he.1
      refine ⟨hq, hY v s₁ _ ?_ ?_ Γ p hΓ⟩
      · unfold End.quiet at hq
        simpa [loud, End.genState] using hq
      · cases n with
        | zero => exact he.2
        | succ m => exact he.2
  cases gs with
  | fresh c =>
    obtain ⟨rfl, hs⟩ := hgo
    obtain ⟨e₁, s₁, hr, he⟩ := seg_iff.mp hs (Γ.wake c p) p rfl (hΓ.wake c p)
    exact ⟨_, _, by unfold Wakes; rw [hg]; exact ⟨e₁, s₁, hr, (main e₁ s₁ he).1, rfl, rfl⟩, (main e₁ s₁ he).2⟩
  | suspended k₀ l₀ c₀ p₀ fs₀ cl =>
    obtain ⟨e₁, s₁, hr, he⟩ := seg_iff.mp hgo (Γ.wake c₀ p) p₀ rfl (hΓ.wake c₀ p)
    exact ⟨_, _, by unfold Wakes; rw [hg]; exact ⟨e₁, s₁, hr, (main e₁ s₁ he).1, rfl, rfl⟩, (main e₁ s₁ he).2⟩
  | running => exact hgo.elim
  | finished => exact hgo.elim
theorem next_q {E : Value → Shared → Prop} {a : Addr} {g n : Nat} {gs : GenState} {P : Nat → Shared → Shared → Prop} {Y : Protocol} {Q : Option Value → Shared → Prop} (hh : A.handled = none)
    (hl : s.heap.NoLimit) (hroom : A.depth < recursionLimit)
    (hg : s.heap.IsGen a g) (hgs : s.gens[g]? = some gs)
    (hgo : gs.Goes (model prog w) A.in1 (fun n s₀ r s₁ => r = .ok (.ret .none) ∧ P n s₀ s₁) Y n (.send .none) (s.setGen g .running))
    (hY : ∀ v s₁ gs', loud gs' = false → Y (n - 1) (s.setGen g .running) v s₁ (GoesOn (model prog w) A.in1 (fun n s₀ r s₁ => r = .ok (.ret .none) ∧ P n s₀ s₁) Y gs' n) → Q (some v) (s₁.setGen g gs'))
    (hP : ∀ s₁, P n (s.setGen g .running) s₁ → ∀ h', (∀ b o, s₁.heap.get? b = some o → h'.get? b = some o) → Q none { s₁.setGen g .finished with heap := h' }) :
    wpAny (model prog w) A (pyNext (.ref a)) Q E s := by
  unfold pyNext
  refine wpAny_bind (wpAny_attempt (wpAny_callSpecial?_slot (name := Str.ofString "__next__") hg.typeIs slot_gen_next
    (wpAny_call_entry slot_gen_next hg.typeIs entry_gen_next ?_ (args_gen_next _))))
  show wpAny _ _ (Builtin.Generator.genWake (.ref a) (.send .none)) _ _ s
  unfold Builtin.Generator.genWake
  refine wpAny_bind (wpAny_holding (wpAny_genNumber hg (wpAny_bind (wpAny_genState hgs ?_))))
  have told : ∀ v s₁ gs', loud gs' = false → Y (n - 1) (s.setGen g .running) v s₁ (GoesOn (model prog w) A.in1 (fun n s₀ r s₁ => r = .ok (.ret .none) ∧ P n s₀ s₁) Y gs' n) → wpAny (model prog w) A (pure (some v)) Q E (s₁.setGen g gs') :=
    fun v s₁ gs' hq hv => wpAny_pure (hY v s₁ gs' hq hv)
  have stop : ∀ (x : Result) s₁, (x = .ok (.ret .none) ∧ P n (s.setGen g .running) s₁) → ∀ e h', (∀ b o, s₁.heap.get? b = some o → h'.get? b = some o) → Shared.TypeIs { s₁.setGen g .finished with heap := h' } e "StopIteration" → wpAny (model prog w) A (isInstance e (Value.type "StopIteration") >>= fun b => if b = true then pure none else throw e) Q E { s₁.setGen g .finished with heap := h' } :=
    fun x s₁ hx e h' hk hT => wpAny_bind (wpAny_isInstance (T := "StopIteration") (b := true) hT isSubtype_stop (wpAny_pure (hP s₁ hx.2 h' hk)))
  cases gs with
  | running => exact hgo.elim
  | finished => exact hgo.elim
  | _ =>
    refine wpAny_bind (wpAny_roomToWake hl hroom ?_)
    show wpAny _ _ (.resume g (.send .none) [] _) _ _ s
    refine resume_q hgs hgo (fun x s₁ hx => ?_) (fun v s₁ gs' hq hv => wpAny_pure ⟨v, rfl, told v s₁ gs' hq hv⟩)
    obtain rfl := hx.1
    show wpAny _ _ (newExc (.type "StopIteration") [] >>= _) _ _ _
    refine wpAny_bind ?_
    simp only [newExc, newTuple]
    refine wpAny_bind (wpAny_newObj_type ?_ (by size_fits))
    refine wpAny_bind (m := firstArgMember _ _) (wpAny_of_eq (a := Value.none) (by first | rfl | (simp only [firstArgMember]; rfl)) ?_)
    refine wpAny_newObj_type ?_ (by size_fits)
    simp only [raiseNew]
    refine wpAny_bind (wpAny_bind (wpAny_handled ?_))
    rw [show A.in1.handled = none from hh]
    refine wpAny_throw ?_
    exact stop _ _ hx _ _ (fun b o hb => Heap.get?_push_of_some _ (Heap.get?_push_of_some _ hb)) ⟨_, Heap.get?_push_size _ rfl, rfl⟩
end
end Mine

end
-- Gen5
section
open PySem PySem.W PyProof.Rows PySem.Calls
open PySem.Sem (wp)
set_option maxRecDepth 100000
set_option maxHeartbeats 8000000
namespace Mine
theorem fresh_Gen5 : True := by
  w_top off
  k_with_none
  k_with "omega" => lia
  trivial
def Kept (h h' : Heap) : Prop := ∀ b o, h.get? b = some o → h'.get? b = some o
theorem PvAt.obj {g : Heap} {Lg rl : Addr} {ns : List Int} {k : Nat} {it : Addr} {h : Heap} (p : PvAt g Lg rl ns k it h) : ∃ oL oit, h.get? Lg = some oL ∧ h.get? it = some oit ∧ oit.cls = .type "list_iterator" := by
  obtain ⟨_, _, lv, iv, u, F, hc⟩ := p
  obtain ⟨oL, _, _, hL, _⟩ := F.ns
  rcases hc with ⟨_, _, _, hit⟩ | ⟨_, _, _, o, ho⟩
  · exact ⟨oL, hit.choose, hL, hit.choose_spec.1, hit.choose_spec.2.1⟩
  · exact ⟨oL, o, hL, ho.1, ho.2⟩
theorem PvAt.kept {g : Heap} {Lg rl : Addr} {ns : List Int} {k : Nat} {it : Addr} {h h' : Heap} (p : PvAt g Lg rl ns k it h) {oL oit : Obj} (e1 : h.get? Lg = some oL) (e2 : h.get? it = some oit) (e3 : h'.get? Lg = some oL) (e4 : h'.get? it = some oit) (hk : Kept g h') : PvAt g Lg rl ns k it h' := by
  obtain ⟨a1, a2, lv, iv, u, F, hc⟩ := p
  refine ⟨a1, a2, lv, iv, u, ⟨F.ns.at' fun o e => by rw [e3]; rw [e1] at e; exact e, hk, F.above⟩, ?_⟩
  rcases hc with ⟨b1, b2, b3, hit⟩ | ⟨b1, b2, b3, o, ho⟩
  · exact .inl ⟨b1, b2, b3, hit.at fun o e => by rw [e4]; rw [e2] at e; exact e⟩
  · exact .inr ⟨b1, b2, b3, oit, e4, by rw [e2] at ho; rw [Option.some.inj ho.1]; exact ho.2⟩
theorem lt_of_get {α : Type} {a : Array α} {i : Nat} {x : α} (h : a[i]? = some x) : i < a.size := by
  rcases Nat.lt_or_ge i a.size with q | q
  · exact q
  · rw [Array.getElem?_eq_none q] at h; cases h
def GenPost (h₀ : Heap) (L : Addr) (s : Shared) (it ga Lg : Addr) (oit oG oL : Obj) (Jn : (Str → Option Value) → List (Addr × Obj) → Prop) (Q : Flow → Shared → Prop) (f : Flow) (s₂ : Shared) : Prop := match f with
  | .ret v => Q (.ret v) s₂
  | .brk => Q .next s₂
  | _ => ∃ h' tk' m' news', s₂ = { s with heap := h', toks := tk' } ∧ Fr h₀ L h' m' ∧ News h₀ L h' ((it, oit) :: (ga, oG) :: (Lg, oL) :: news') ∧ (∀ p ∈ news', p.1 ≠ it ∧ p.1 ≠ ga ∧ p.1 ≠ Lg ∧ p.2.cls ≠ .type "list_iterator") ∧ Jn m' news'
section
variable {prog : Program} {w : World} {A : Around} {env : Env} {h₀ : Heap}
theorem gen_loop {R : Result → Shared → Prop} {s : Shared} {x : Str} {px : Pos} {body : List Stmt} {ga Lg rl : Addr} {gi N : Nat} {c : Code} {ns : List Int} {oG oL₀ : Obj} {m : Str → Option Value} {news : List (Addr × Obj)} (hh : A.handled = none)
    (hx : env.kindOf x = some .local) (hp : (env.scope.kind == .class || (env.scope.kind == .module && env.locals != env.globals)) = false) (hroom : A.depth < recursionLimit) (hlim : h₀.NoLimit)
    (hG : s.heap.IsGen ga gi) (hgi : s.gens[gi]? = some (.fresh c)) (F : Fr h₀ env.locals s.heap m) (N0 : News h₀ env.locals s.heap ((ga, oG) :: (Lg, oL₀) :: news))
    (off : ∀ p ∈ news, p.1 ≠ ga ∧ p.1 ≠ Lg ∧ p.2.cls ≠ .type "list_iterator") (hgL : ga ≠ Lg) (hGc : oG.cls ≠ .type "list_iterator")
    (hFg : ∃ mg, Fr h₀ Lg s.heap mg ∧ mg (Str.ofString "grouping") = some (.ref rl))
    (hseg : ∀ (s' : Shared) (mg : Str → Option Value), Fr h₀ Lg s'.heap mg → mg (Str.ofString "grouping") = some (.ref rl) → Kept s.heap s'.heap →
      Seg (model prog w) A.in1 (fun n s₀ r s₁ => r = .ok (.ret .none) ∧ GenP h₀ Lg ns N n s₀ s₁) (GenY h₀ s.heap Lg rl ns N) N s' c ((model prog w).den c) [] s')
    (J : Nat → (Str → Option Value) → List (Addr × Obj) → Prop) (h0 : J 0 m news) (hJ : ∀ i m news, J i m news → i + 1 < N)
    (turn : ∀ (i : Nat) (y : Int) (t : Tok) (it : Addr) (oit oL : Obj) m news h tk gens, valAt ns i = some y → J i m news → (leftWithCleanup s.gens = false → leftWithCleanup gens = false) → (∀ b o, s.heap.get? b = some o → b < it) →
      (∀ p ∈ news, p.1 ≠ it ∧ p.1 ≠ ga ∧ p.1 ≠ Lg) → Fr h₀ env.locals h (fun z => if z = x then some (.int y t) else m z) → News h₀ env.locals h ((it, oit) :: (ga, oG) :: (Lg, oL) :: news) →
      wpAny (model prog w) A (execs body env) (GenPost h₀ env.locals { s with gens := gens } it ga Lg oit oG oL (J (i + 1)) (fun f s' => R (.ok f) s')) (notedBy (model prog w) A env fun e s' => R (.error e) s') { s with heap := h, toks := tk, gens := gens })
    (done : ∀ i m news h tk gens, valAt ns i = none → J i m news → (leftWithCleanup s.gens = false → leftWithCleanup gens = false) → Fr h₀ env.locals h m → News h₀ env.locals h news → R (.ok .next) { s with heap := h, toks := tk, gens := gens }) :
    codeAny (model prog w) A (.forLoop (.Name x px) (.ref ga) body [] env) R s := by
  refine codeAny_forLoop
    (fun k s' => ∃ i h tk gens m news, k = N - i ∧ i < N ∧ s' = { s with heap := h, toks := tk, gens := gens } ∧ Fr h₀ env.locals h m ∧ News h₀ env.locals h ((ga, oG) :: news) ∧ (∀ p ∈ news, p.1 ≠ ga ∧ p.1 ≠ Lg ∧ p.2.cls ≠ .type "list_iterator") ∧ J i m news ∧ (leftWithCleanup s.gens = false → leftWithCleanup gens = false) ∧ (∃ oL, h.get? Lg = some oL) ∧ gi < gens.size ∧
      ((i = 0 ∧ gens[gi]? = some (.fresh c) ∧ h = s.heap) ∨
       (∃ k it gs, i = k + 1 ∧ gens[gi]? = some gs ∧ PvAt h₀ Lg rl ns k it h ∧ (∀ b o, s.heap.get? b = some o → b < it) ∧
         ∀ s'', PvAt h₀ Lg rl ns k it s''.heap → gs.Goes (model prog w) A.in1 (fun n s₀ r s₁ => r = .ok (.ret .none) ∧ GenP h₀ Lg ns N n s₀ s₁) (GenY h₀ s.heap Lg rl ns N) (N - i) (.send .none) s''))) ?_ N
    ⟨0, s.heap, s.toks, s.gens, m, news, by omega, by have := hJ _ _ _ h0; omega, rfl, F, fun p hp => N0 p (by rcases List.mem_cons.mp hp with rfl | hp; exact .head _; exact .tail _ (.tail _ hp)), off, h0, id, ⟨oL₀, (N0 _ (.tail _ (.head _))).1⟩, lt_of_get hgi, .inl ⟨rfl, hgi, rfl⟩⟩
  intro k s' hst0
  refine Classical.byContradiction fun hn0 => ?_
  obtain ⟨i, h, tk, gens, m', news', rfl, hiN, rfl, F', N', off', hJi, hleft, hLo, hgs, hst⟩ := hst0
  refine hn0 ?_
  clear hn0
  obtain ⟨gs, hgsi, hgo⟩ : ∃ gs, gens[gi]? = some gs ∧ gs.Goes (model prog w) A.in1 (fun n s₀ r s₁ => r = .ok (.ret .none) ∧ GenP h₀ Lg ns N n s₀ s₁) (GenY h₀ s.heap Lg rl ns N) (N - i) (.send .none) (Shared.setGen { s with heap := h, toks := tk, gens := gens } gi .running) := by
    rcases hst with ⟨rfl, e, rfl⟩ | ⟨k, it, gs, rfl, e, pv, _, go⟩
    · obtain ⟨mg, Fg, hmg⟩ := hFg
      exact ⟨_, e, rfl, hseg _ mg Fg hmg fun _ _ z => z⟩
    · exact ⟨gs, e, go _ pv⟩
  have hG' : h.IsGen ga gi := by
    obtain ⟨o, nm, qn, ho, hc⟩ := hG
    have e1 := (N0 _ (.head _)).1
    have e2 := (N' _ (.head _)).1
    dsimp only at e1 e2
    rw [ho] at e1
    exact ⟨o, nm, qn, by rw [e2, e1], hc⟩
  have keepF : ∀ {h'}, KeepG h₀ Lg h h' → Kept h₀ h' := fun {h'} hk b o e => hk b o (fun q => by rw [q, (N0 _ (.tail _ (.head _))).2.2] at e; cases e) (.inr (.inr (by rw [e]; rfl))) (F'.keep b o e)
  have hLL : env.locals ≠ Lg := Ne.symm (N0 _ (.tail _ (.head _))).2.1
  have frF : ∀ {h'}, KeepG h₀ Lg h h' → Fr h₀ env.locals h' m' := fun {h'} hk => ⟨F'.ns.at' fun o e => by
      obtain ⟨oL, es, ep, hL, hd, _⟩ := F'.ns
      exact hk _ o hLL (.inr (.inl ⟨es, ep, by rw [hL] at e; rw [← Option.some.inj e]; exact hd⟩)) e, keepF hk, F'.above⟩
  have newsF : ∀ {h'}, KeepG h₀ Lg h h' → News h₀ env.locals h' ((ga, oG) :: news') := fun {h'} hk p hp => ⟨hk _ _ (by
      rcases List.mem_cons.mp hp with rfl | hp
      · exact hgL
      · exact (off' p hp).2.1) (.inl (by
      rcases List.mem_cons.mp hp with rfl | hp
      · exact hGc
      · exact (off' p hp).2.2)) (N' p hp).1, (N' p hp).2⟩
  refine next_q hh (hlim.keeps F'.keep) hroom hG' hgsi hgo (fun v s₁ gs' hq hy => ?_) (fun s₁ hP h' hk' => ?_)
  · refine Classical.byContradiction fun hn1 => ?_
    obtain ⟨k, it, hk, ⟨y, t, hval, rfl⟩, ⟨h₁, tk₁, rfl⟩, hkeep, pv, hb, hgo'⟩ := hy
    refine hn1 ?_
    clear hn1
    have hki : k = i := by omega
    subst hki
    have F₁ := frF hkeep
    have N₁ := newsF hkeep
    refine wpAny_assign_Name (wpAny_storeName_local hx F₁.ns (fun h₂ hn₂ hs₂ => ?_) hp)
    have F₂ := F₁.set hn₂ hs₂
    have N₂ := N₁.set hs₂
    obtain ⟨oL, oit, e1, e2, e3⟩ := pv.obj
    have hIt : it ≠ env.locals := fun q => by
      have := hb env.locals; rw [← q] at this
      obtain ⟨o, _, _, ho, _⟩ := F.ns
      have h3 := hb _ _ ho
      rw [q] at h3; exact absurd h3 (Nat.lt_irrefl _)
    have e1' : h₂.get? Lg = some oL := (hs₂.2 Lg (Ne.symm hLL)).trans e1
    have e2' : h₂.get? it = some oit := (hs₂.2 it hIt).trans e2
    have offit : ∀ p ∈ news', p.1 ≠ it := fun p hp q => by
      have a1 := (N₁ p (.tail _ hp)).1
      rw [q, e2] at a1
      exact (off' p hp).2.2 (by rw [← Option.some.inj a1]; exact e3)
    refine wpAny_mono (turn k y t it oit oL m' news' h₂ _ ((gens.setIfInBounds gi .running).setIfInBounds gi gs') hval hJi (fun z => left_set (hleft z) hq) hb (fun p hp => ⟨offit p hp, (off' p hp).1, (off' p hp).2.1⟩) F₂ ?_) (fun f s₃ h₃ => ?_) fun _ _ e => e
    · intro p hp
      rcases List.mem_cons.mp hp with rfl | hp
      · exact ⟨e2', hIt, pv.2.1⟩
      · rcases List.mem_cons.mp hp with rfl | hp
        · exact N₂ _ (.head _)
        · rcases List.mem_cons.mp hp with rfl | hp
          · exact ⟨e1', Ne.symm hLL, (N0 _ (.tail _ (.head _))).2.2⟩
          · exact N₂ p (.tail _ hp)
    · have fin : (∃ h' tk' m' news', s₃ = { s with heap := h', toks := tk', gens := (gens.setIfInBounds gi .running).setIfInBounds gi gs' } ∧ Fr h₀ env.locals h' m' ∧ News h₀ env.locals h' ((it, oit) :: (ga, oG) :: (Lg, oL) :: news') ∧ (∀ p ∈ news', p.1 ≠ it ∧ p.1 ≠ ga ∧ p.1 ≠ Lg ∧ p.2.cls ≠ .type "list_iterator") ∧ J (k + 1) m' news') → ∃ mm, mm < N - k ∧ ∃ i h tk gens m news, mm = N - i ∧ i < N ∧ s₃ = { s with heap := h, toks := tk, gens := gens } ∧ Fr h₀ env.locals h m ∧ News h₀ env.locals h ((ga, oG) :: news) ∧ (∀ p ∈ news, p.1 ≠ ga ∧ p.1 ≠ Lg ∧ p.2.cls ≠ .type "list_iterator") ∧ J i m news ∧ (leftWithCleanup s.gens = false → leftWithCleanup gens = false) ∧ (∃ oL, h.get? Lg = some oL) ∧ gi < gens.size ∧
      ((i = 0 ∧ gens[gi]? = some (.fresh c) ∧ h = s.heap) ∨
       (∃ k it gs, i = k + 1 ∧ gens[gi]? = some gs ∧ PvAt h₀ Lg rl ns k it h ∧ (∀ b o, s.heap.get? b = some o → b < it) ∧
         ∀ s'', PvAt h₀ Lg rl ns k it s''.heap → gs.Goes (model prog w) A.in1 (fun n s₀ r s₁ => r = .ok (.ret .none) ∧ GenP h₀ Lg ns N n s₀ s₁) (GenY h₀ s.heap Lg rl ns N) (N - i) (.send .none) s'')) := by
        rintro ⟨h₄, tk₄, m₄, news₄, rfl, F₄, N₄, off₄, hJ₄⟩
        have hk1 := hJ _ _ _ hJi
        refine ⟨N - (k + 1), by omega, k + 1, h₄, tk₄, _, m₄, news₄, rfl, hk1, rfl, F₄, ?_, fun p hp => (off₄ p hp).2, hJ₄, fun z => left_set (hleft z) hq, ⟨oL, (N₄ _ (.tail _ (.tail _ (.head _)))).1⟩, by simpa using hgs, .inr ⟨k, it, gs', rfl, ?_, ?_, hb, ?_⟩⟩
        · intro p hp
          refine N₄ p ?_
          rcases List.mem_cons.mp hp with rfl | hp
          · exact .tail _ (.head _)
          · exact .tail _ (.tail _ (.tail _ hp))
        · rw [Array.getElem?_setIfInBounds_self_of_lt (by simpa using hgs)]
        · exact pv.kept e1 e2 (N₄ _ (.tail _ (.tail _ (.head _)))).1 (N₄ _ (.head _)).1 F₄.keep
        · intro s'' hpv
          have := hgo' (by omega) s'' hpv
          obtain ⟨n', hn'⟩ : ∃ n', N - k = n' + 1 := ⟨N - k - 1, by omega⟩
          rw [hn'] at this
          rw [show N - (k + 1) = n' by omega]
          exact this
      cases f with
      | ret v => exact h₃
      | brk => exact h₃
      | next => exact fin h₃
      | cont => exact fin h₃
  · obtain ⟨⟨k, hk, hval⟩, ⟨h₁, tk₁, rfl⟩, hkeep⟩ := hP
    have hki : k = i := by omega
    subst hki
    refine wpAny_execs_nil ?_
    exact done k m' news' h' _ _ hval hJi (fun z => left_set (hleft z) rfl) ((frF hkeep).grownK hk') (fun p hp => ⟨hk' _ _ (newsF hkeep p (.tail _ hp)).1, (N' p (.tail _ hp)).2⟩)
end
end Mine

end
-- Gen6
section
open PySem PySem.W PyProof.Rows PySem.Calls
open PySem.Sem (wp)
set_option maxRecDepth 100000
set_option maxHeartbeats 8000000
namespace Mine
theorem fresh_Gen6 : True := by
  w_top off
  k_with_none
  k_with "omega" => lia
  trivial
def AllLt (news : List (Addr × Obj)) (b : Addr) : Prop := ∀ p ∈ news, @LT.lt Nat _ p.1 b
/-- a generator of rulers that has been made and not woken -/
def GenMade (prog : Program) (w : World) (A : Around) (g h : Heap) (ga Lg rl : Addr) (gi : Nat) (c : Code) (ns : List Int) : Prop :=
  h.IsGen ga gi ∧ (∃ mg, Fr g Lg h mg ∧ mg (Str.ofString "grouping") = some (.ref rl)) ∧
  ∀ (N : Nat) (s' : Shared) (mg : Str → Option Value), 0 < N → Fr g Lg s'.heap mg → mg (Str.ofString "grouping") = some (.ref rl) → Kept h s'.heap →
      Seg (model prog w) A.in1 (fun n s₀ r s₁ => r = .ok (.ret .none) ∧ GenP g Lg ns N n s₀ s₁) (GenY g h Lg rl ns N) N s' c ((model prog w).den c) [] s'
inductive GenStart (prog : Program) (w : World) (A : Around) (E : Value → Shared → Prop) (h₀ : Heap) (env : Env) (x : Str) (body : List Stmt) (Q : Flow → Shared → Prop) (xv : Value) (s : Shared) : Prop
  | mk (ga Lg rl : Addr) (gi N : Nat) (c : Code) (ns : List Int) (oG oL₀ : Obj) (m : Str → Option Value) (news : List (Addr × Obj)) (J : Nat → (Str → Option Value) → List (Addr × Obj) → Prop) (c1 : xv = .ref ga)
     (c2 : A.handled = none)
     (c3 : A.depth < recursionLimit)
     (c4 : h₀.NoLimit)
     (c5 : GenMade prog w A h₀ s.heap ga Lg rl gi c ns)
     (c6 : s.gens[gi]? = some (.fresh c))
     (c7 : Fr h₀ env.locals s.heap m)
     (c8 : News h₀ env.locals s.heap ((ga, oG) :: (Lg, oL₀) :: news))
     (c9 : (∀ p ∈ news, p.1 ≠ ga ∧ p.1 ≠ Lg ∧ p.2.cls ≠ .type "list_iterator"))
     (c10 : @LT.lt Nat _ Lg ga)
     (c11 : oG.cls ≠ .type "list_iterator")
     (c12 : J 0 m news)
     (c13 : (∀ i m news, J i m news → i + 1 < N))
     (c14 : (∀ (i : Nat) (y : Int) (t : Tok) (it : Addr) (oit oL : Obj) m news h tk gens, valAt ns i = some y → J i m news → (leftWithCleanup s.gens = false → leftWithCleanup gens = false) → (∀ b o, s.heap.get? b = some o → b < it) → (∀ p ∈ news, p.1 ≠ it ∧ p.1 ≠ ga ∧ p.1 ≠ Lg) → Fr h₀ env.locals h (fun z => if z = x then some (.int y t) else m z) → News h₀ env.locals h ((it, oit) :: (ga, oG) :: (Lg, oL) :: news) → wpAny (model prog w) A (execs body env) (GenPost h₀ env.locals { s with gens := gens } it ga Lg oit oG oL (J (i + 1)) Q) E { s with heap := h, toks := tk, gens := gens }))
     (c15 : (∀ i m news h tk gens, valAt ns i = none → J i m news → (leftWithCleanup s.gens = false → leftWithCleanup gens = false) → Fr h₀ env.locals h m → News h₀ env.locals h news → Q .next { s with heap := h, toks := tk, gens := gens })) : GenStart prog w A E h₀ env x body Q xv s
section
variable {prog : Program} {w : World} {A : Around} {env : Env} {h₀ : Heap}
theorem for_gen {E : Value → Shared → Prop} {Q : Flow → Shared → Prop} {x : Str} {px pos : Pos} {iter : PySem.Expr} {body : List Stmt} {s : Shared} {m₀ : Str → Option Value} (_F : Fr h₀ env.locals s.heap m₀)
    (hx : env.kindOf x = some .local) (hp : (env.scope.kind == .class || (env.scope.kind == .module && env.locals != env.globals)) = false)
    (hs : ∀ x, foldedSetIterable iter env x = pure x)
    (h : wpAny (model prog w) A (eval iter env) (GenStart prog w A E h₀ env x body Q) E s)
    (hE : PassesOwn (model prog w) A env E) :
    wpAny (model prog w) A (exec (.For (.Name x px) iter body [] pos) env) Q E s := by
  refine wpAny_For (wpAny_mono h (fun xv s₁ h₁ => ?_) fun _ _ e => e) hs
  obtain ⟨ga, Lg, rl, gi, N, c, ns, oG, oL₀, m, news, J, rfl, hh, hroom, hlim, ⟨hG, hFg, hseg⟩, hgi, F, N0, off, hgL, hGc, h0, hJ, turn, done⟩ := h₁
  refine wpAny_pyIter_gen hG ?_
  refine gen_loop (R := fun r s' => match r with | .ok f => Q f s' | .error e => cameBackBy (model prog w) A env E e s') (ns := ns) (N := N) hh hx hp hroom hlim hG hgi F N0 off (fun q => by rw [q] at hgL; exact absurd hgL (Nat.lt_irrefl _)) hGc hFg (fun s' mg a b c => hseg N s' mg (by have := hJ _ _ _ h0; omega) a b c) J h0 hJ ?_ ?_
  · intro i y t it oit oL m' news' h' tk gens a1 a2 a3 a4 a5 a6 a7
    refine wpAny_passesOwn hE (wpAny_mono (turn i y t it oit oL m' news' h' tk gens a1 a2 a3 a4 a5 a6 a7) (fun f s₂ h₂ => ?_) fun _ _ e => e)
    cases f <;> exact h₂
  · intro i m' news' h' tk gens a1 a2 a3 a4 a5
    exact done i m' news' h' tk gens a1 a2 a3 a4 a5
end
theorem gen_use (w : World) (mean : ExcName → Option Value) (mg mb : Str → Option Value) {dp un : Nat} {gd : Option (List Code)} {cn : Str} {cs : Scope} {a : Addr} {ccd : Value} {cl : List (Str × Addr)} {outer : List Env} {h₀ : Heap} {L rl : Addr} {m : Str → Option Value} {news : List (Addr × Obj)} {s : Shared} {Q E : Value → Shared → Prop} {vs : List Value} {ns : List Int}
   (F : Fr h₀ L s.heap m) (X : (hd.heap_39 w.params).In h₀) (N : News h₀ L s.heap news) (T : Top hd.view_39 (looseW hd.view_39 lse) mean mg mb h₀) (hi : IntsAre vs ns) (hl : h₀.IsList rl vs.toArray) (hpre : pre ns ≠ []) (hd1 : dp < recursionLimit)
   (ret : ∀ ga Lg oG oL c h' tk', Fr h₀ L h' m → News h₀ L h' ((ga, oG) :: (Lg, oL) :: news) → @LT.lt Nat _ Lg ga → AllLt news Lg → oG.cls ≠ .type "list_iterator" →
      GenMade PySem.Challenge.rw_sr0007_01.row.prog w (ktrTop dp un gd cn cs L a ccd cl outer) h₀ h' ga Lg rl s.gens.size c ns → Q (.ref ga) { s with heap := h', toks := tk', gens := s.gens.push (.fresh c) }) :
   wpAny (model PySem.Challenge.rw_sr0007_01.row.prog w) (ktrTop dp un gd cn cs L a ccd cl outer) (call (.ref 38) [.ref rl]) Q E s := by
  refine wpAny_call ?_
  obtain ⟨name, qual, params, body, scope, dV, kV, doc, pm, an, cdv, ct, oc, od, osl, binds, e1, e2, e3, e4, e5, e6, e7, e8, e9, go⟩ := gen_go w mean mg mb rl vs ns hi
  refine codeAny_call_generator hd1 (X.keeps F.keep _ _ e1) rfl e3 e4 rfl (codeRec_of (X.keeps F.keep) e2) ?_
  refine e7 s _ _ _ _ ?_
  refine wpAny_newFunctionEnv e6 e8 (fun h₁ hn₁ hs₁ => ?_) e5
  have k1 : Kept s.heap h₁ := fun b o e => (hs₁.2 b (Nat.ne_of_lt (Heap.lt_size e))).trans (Heap.get?_push_of_some _ e)
  have hsz : h₁.objs.size = s.heap.objs.size + 1 := by rw [hs₁.1, Heap.size_push]
  obtain ⟨oL, es, ep, hoL, hdL⟩ := id hn₁
  have F1 : Fr h₀ s.heap.objs.size h₁ (fun x => binds.reverse.lookup x) := ⟨hn₁, fun b o e => k1 b o (F.keep b o e), Nat.le_of_lt (Nat.lt_of_le_of_lt F.above F.ns.lt)⟩
  refine ⟨(T.nolimit.keeps F.keep).keeps k1, ?_⟩
  have k2 : ∀ o, Kept s.heap (h₁.push o) := fun o b x e => Heap.get?_push_of_some _ (k1 b x e)
  have hnone : ∀ b, s.heap.objs.size ≤ b → h₀.get? b = none := fun b hb => by
    cases q : h₀.get? b with
    | none => rfl
    | some o => exact absurd (Heap.lt_size (F.keep b o q)) (Nat.not_lt.mpr hb)
  have hL : L < s.heap.objs.size := F.ns.lt
  show Q (.ref h₁.objs.size) _
  refine ret h₁.objs.size s.heap.objs.size { cls := .type "generator", data := .fields #[.int s.gens.size 0, .str (fnOf name qual params body scope dV kV doc pm an cdv ct).name (s.toks + binds.length), .str (fnOf name qual params body scope dV kV doc pm an cdv ct).qualname (s.toks + binds.length + 1)] } oL _ _ _ (F.grownK (k2 _)) ?_ (by rw [hsz]; exact Nat.lt_succ_self _) (fun p hp => Heap.lt_size (N p hp).1) ?_ ⟨⟨_, _, _, Heap.get?_push_size _ rfl, rfl, rfl, rfl⟩, ⟨_, F1.push _, e9⟩, ?_⟩
  · intro p hp
    rcases List.mem_cons.mp hp with rfl | hp
    · exact ⟨Heap.get?_push_size _ rfl, Ne.symm (Nat.ne_of_lt (by rw [hsz]; exact Nat.lt_succ_of_lt hL)), hnone _ (by rw [hsz]; exact Nat.le_succ _)⟩
    · rcases List.mem_cons.mp hp with rfl | hp
      · exact ⟨Heap.get?_push_of_some _ hoL, Ne.symm (Nat.ne_of_lt hL), hnone _ (Nat.le_refl _)⟩
      · exact ⟨k2 _ _ _ (N p hp).1, (N p hp).2⟩
  · simp
  · intro N' s' mg' hN' F' hm' hk'
    exact go h₀ _ _ _ _ _ _ N' s' mg' X T hl hN' hpre F' hm' hk'
end Mine

end
-- Gen7
section
open PySem PySem.W PyProof.Rows PySem.Calls
open PySem.Sem (wp)
set_option maxRecDepth 100000
set_option maxHeartbeats 8000000
namespace Mine
theorem fresh_Gen7 : True := by
  w_top off
  k_with_none
  k_with "omega" => lia
  trivial
/-- how a generator that raises leaves: what stood stands but for its own dict and the marks in frames -/
def GenX (base : Heap) (l : List Env) (Lg : Addr) : Nat → Shared → Result → Shared → Prop := fun _ s₀ r s₁ =>
  ∃ e B a0 h tk, r = .error (.ref e) ∧ s₁ = { s₀ with heap := h, toks := tk } ∧ base.StaysIn B ∧ (∀ b o, s₀.heap.get? b = some o → b ≠ Lg → b ∉ l.filterMap (·.frame) → B.get? b = some o) ∧
    Heap.FlyingW B l e (.type "ValueError") a0 h ∧ ∀ b o, b ≠ Lg → s₀.heap.get? b = some o → (∀ vs, o.data ≠ .fields vs) → ∃ sl, h.get? b = some { o with slots := sl }
def KeepL (Lg : Addr) (h h' : Heap) : Prop := ∀ b o, b ≠ Lg → h.get? b = some o → h'.get? b = some o
theorem ff_keepL {base h h' g : Heap} {Lg : Addr} {m : Str → Option Value} : ∀ {l : List Env}, h.FunFrames base l → Fr g Lg h m → KeepL Lg h h' → (∀ b ∈ l.filterMap (·.frame), b ≠ Lg) → h'.FunFrames base l := by
  intro l hf F k hn
  induction l with
  | nil => trivial
  | cons env l ih =>
    obtain ⟨hk, ⟨L, o, hfr, hb, ho, hd⟩, hr⟩ := hf
    exact ⟨hk, ⟨L, o, hfr, hb, k L o (hn L (List.mem_filterMap.mpr ⟨env, .head _, hfr⟩)) ho, hd⟩, ih hr fun b hm => hn b (by
      obtain ⟨e', he', hf'⟩ := List.mem_filterMap.mp hm
      exact List.mem_filterMap.mpr ⟨e', .tail _ he', hf'⟩)⟩
theorem gen_note {M : Model} {A : Around} {env : Env} {l : List Env} {L e : Addr} {base h5 : Heap} {s : Shared} {cls : String} {Q : Unit → Shared → Prop} {E : Value → Shared → Prop} (hfr : A.frames = some (env :: l)) (hf : env.frame = some L) (hl : h5.FunFrames base (env :: l)) (hst : base.StaysIn h5) (hx : Heap.NewExc h5 s.heap e cls)
   (h : ∀ h' a0, Heap.HeldW (hideAll h5 ((env :: l).filterMap (·.frame))) (env :: l) e (.type cls) a0 L h' → h5.UpToSlots h' → Q () { s with heap := h' }) : wpAny M A (noteFrame (.ref e) env) Q E s := by
  have hin : ∀ env' ∈ (env :: l), ∀ b, env'.frame = some b → b ∈ (env :: l).filterMap (·.frame) := fun env' he b hb => List.mem_filterMap.mpr ⟨env', he, hb⟩
  obtain ⟨ob, tp, he, hcls, hd⟩ := hx.there
  have hen : (hideAll h5 ((env :: l).filterMap (·.frame))).get? e = none := by
    cases q : (hideAll h5 ((env :: l).filterMap (·.frame))).get? e with
    | none => rfl
    | some o => have := of_hideAll _ q; rw [hx.new] at this; cases this
  unfold noteFrame
  simp only [hf]
  refine wpAny_bind (wpAny_field he hd rfl ?_)
  rw [if_neg (by simp)]
  refine wpAny_entryW (a0 := tp) hfr ((funFrames_hide hl hin).of_keeps fun b o hb _ => ⟨o, hx.keeps b o hb, rfl⟩) hf he (fun b o hb => hx.keeps b o (of_hideAll _ hb)) hen hd (by simp) rfl fun h' hN => ?_
  obtain ⟨k1, k2, k3, k4⟩ := hN
  exact h h' tp ⟨k1, hen, k2, by rw [← hcls]; exact k3⟩ ((Heap.UpToSlots.of_keeps hx.keeps).trans k4)
theorem came_back {M : Model} {A : Around} {base : Heap} {l : List Env} {e L : Addr} {cls a0 : Value} {s : Shared} {Q : Unit → Shared → Prop} {E : Value → Shared → Prop} (R : Heap.HeldW base l e cls a0 L s.heap)
    (h : ∀ h', Heap.HeldW base l e cls a0 L h' → s.heap.UpToSlots h' → Q () { s with heap := h' }) : wpAny M A (do
        if (← field (.ref e) 1) == Value.none then unsupported "frame.own-activation:exception-without-traceback"
        setFlight (.ref e) (some L)) Q E s := by
  obtain ⟨hkb, hen, hl, oe, vs, T, oT, ts, he, hcls, hd, h1, hnT, hTe, hT, hdT, h3⟩ := R
  have hsz3 : 3 < ts.size := (Array.getElem?_eq_some_iff.mp h3).1
  have other : ∀ b, b ≠ T → (s.heap.update T (Obj.mapFields (·.setIfInBounds 3 ((some L).elim Value.none fun f => rawInt f)))).get? b = s.heap.get? b :=
    fun b hb => Heap.get?_update_other _ _ (Ne.symm hb)
  have noRecord : ∀ b o, s.heap.get? b = some o → (∀ vs, o.data ≠ .fields vs) → b ≠ T := fun b o hb hnf q => by
    rw [q, hT] at hb; injection hb with hb; subst hb; exact hnf ts hdT
  refine wpAny_bind (wpAny_field he hd h1 ?_)
  rw [if_neg (show ¬ ((Value.ref T == Value.none) = true) from by simp)]
  unfold setFlight
  refine wpAny_bind (wpAny_field he hd h1 ?_)
  rw [if_pos (show (Value.ref T != Value.none) = true from by simp)]
  refine wpAny_setField hT hdT hsz3 (h _ ⟨fun b o hbo => (other b fun q => by rw [q, hnT] at hbo; cases hbo).trans (hkb b o hbo), hen,
    hl.of_keeps fun b o hb hnf => ⟨o, (other b (noRecord b o hb hnf)).trans hb, rfl⟩, ?_⟩ fun b o hb hnf => ⟨o.slots, (other b (noRecord b o hb hnf)).trans hb⟩)
  exact ⟨oe, vs, T, _, _, (other e (Ne.symm hTe)).trans he, hcls, hd, h1, hnT, hTe, Heap.get?_update_self _ hT (Obj.isFreed_of_fields (Obj.data_mapFields hdT _)), Obj.data_mapFields hdT _, by simp [hsz3]⟩
theorem gen_rz (w : World) (mean : ExcName → Option Value) (mg mb : Str → Option Value) (rl : Addr) (vs : List Value) (t0 : Tok) :
  DefAt w rl fun qual scope body cdv =>
    ∀ (g base : Heap) (Lg : Addr) (dp un : Nat) (l : List Env) (gd : Option (List Code)) (N : Nat) (Y : Protocol) (s : Shared) (m : Str → Option Value), (hd.heap_39 w.params).In g → Top hd.view_39 (looseW hd.view_39 lse) mean mg mb g → g.IsList rl (Value.int 0 t0 :: vs).toArray → base.StaysIn g → s.heap.FunFrames base l → (∀ b ∈ l.filterMap (·.frame), b ≠ Lg) →
      Fr g Lg s.heap m → m (Str.ofString "grouping") = some (.ref rl) →
      Seg (model PySem.Challenge.rw_sr0007_01.row.prog w) ⟨none, dp, some l, gd, un⟩ (GenX base l Lg) Y N s (.func body (envOf qual scope Lg 38 cdv)) ((model PySem.Challenge.rw_sr0007_01.row.prog w).den (.func body (envOf qual scope Lg 38 cdv))) [] s := by
  k_fill
  refine ⟨_, _, _, _, _, _, _, _, _, _, _, _, _, _, _, _, by k_is, by k_is, rfl, rfl, rfl, by decide, fun s => BindsTo.of_eq rfl, locs rfl, rfl, ?_⟩
  intro g base Lg dp un l gd N Y s m X T hl hbg hff hnl F hm
  have em : m = fun y => if y = Str.ofString "grouping" then some (.ref rl) else m y := by
    funext y
    split
    · rename_i e; rw [e]; exact hm
    · rfl
  rw [em] at F
  clear em hm
  refine seg_func ?_
  refine seg_execs_cons (seg_exec ?_)
  refine wpAny_Assign_Name ?_ (by with_unfolding_all rfl)
  refine ev_none ?_
  refine wpAny_storeName_local (by with_unfolding_all rfl) F.ns (fun h2 hn2 hs2 => ?_) (by with_unfolding_all rfl)
  have F2 := F.set hn2 hs2
  have k2 : KeepL Lg s.heap h2 := fun b o hb e => (hs2.2 b hb).trans e
  refine seg_execs_cons ?_
  refine seg_For (by with_unfolding_all exact fun _ => rfl) ?_
  refine ld F2 rfl ?_
  have hl2 : h2.IsList rl (Value.int 0 t0 :: vs).toArray := hl.at fun o e => F2.keep rl o e
  refine wpAny_pyIter_list hl2 ?_
  intro p
  have hI0 : g.get? h2.objs.size = none := next_is_new F2
  have hIL : h2.objs.size ≠ Lg := Ne.symm (Nat.ne_of_lt F2.ns.lt)
  have k3 : ∀ o, KeepL Lg s.heap (h2.push o) := fun o b x hb e => Heap.get?_push_of_some _ (k2 b x hb e)
  have hIs : ∀ b o, s.heap.get? b = some o → b ≠ h2.objs.size := fun b o e => Nat.ne_of_lt (by have := Heap.lt_size e; rw [← hs2.1] at this; exact this)
  refine seg_forLoop ?_
  have hl3 := hl2.push { cls := .type "list_iterator", data := .fields #[.ref rl, .int 0 0] }
  have F3 := F2.push { cls := .type "list_iterator", data := .fields #[.ref rl, .int 0 0] }
  have hit : (h2.push { cls := .type "list_iterator", data := .fields #[.ref rl, .int 0 0] }).IsListIter h2.objs.size rl 0 := ⟨_, Heap.get?_push_size _ rfl, rfl, rfl⟩
  refine wpAny_pyNext_list_item hit hl3 (x := .int 0 t0) (by simp) (fun h4 hit4 hs4 => ?_)
  refine wpAny_of_eq (a := ()) rfl ?_
  have F4 := (⟨F3.ns.at' fun o e => (hs4.2 Lg (Ne.symm hIL)).trans e, fun b o e => (hs4.2 b (fun q => by rw [q, hI0] at e; cases e)).trans (F3.keep b o e), F3.above⟩ : Fr g Lg h4 _)
  have k4 : KeepL Lg s.heap h4 := fun b o hb e => (hs4.2 b (hIs b o e)).trans (k3 _ b o hb e)
  refine wpAny_assign_Name (wpAny_storeName_local (by with_unfolding_all rfl) F4.ns (fun h5 hn5 hs5 => ?_) (by with_unfolding_all rfl))
  have F5 := F4.set hn5 hs5
  have k5 : KeepL Lg s.heap h5 := fun b o hb e => (hs5.2 b hb).trans (k4 b o hb e)
  refine seg_execs_cons (seg_If ?_)
  have N5 : News g Lg h5 [] := News.nil
  clear k2 k3 k4 hit4 hs4 hn5 F4 F3 hit hl3 hl2 F2 hn2
  k_steps
  show Seg _ _ _ _ _ _ _ _ _ _
  refine seg_execs_nil ?_
  refine seg_execs_cons (seg_If ?_)
  k_steps
  refine seg_execs_cons (seg_If ?_)
  k_steps
  refine seg_execs_cons (seg_exec ?_)
  k_steps
  (rename Heap.NewExc _ _ _ _ => hx)
  clear N5
  have hff5 : ∀ sc : Scope, sc.kind = .function → h5.FunFrames base (envOf (Str.ofString "_grouping_intervals") sc Lg 38 (.ref 37) :: l) := fun sc hsc => Heap.FunFrames.cons (by show sc.kind ≠ _; rw [hsc]; decide) rfl F5.ns (fresh_of_stays hbg (kts_self F5)) (ff_keepL hff F k5 hnl)
  refine seg_wrap ?_
  refine wpAny_bind (gen_note (by rfl) (by rfl) (hff5 _ rfl) (fun b o z => F5.keep b o (hbg b o z)) hx fun h6 a0 hh6 u6 => ?_)
  refine wpAny_theTreesLotGoes ?_
  refine seg_leaf (.error (.ref _)) ?_
  refine seg_wrap (wpAny_onRaise (wpAny_throw ?_))
  refine came_back hh6 fun h7 hh7 u7 => ?_
  refine seg_wrap ?_
  unfold leaving
  refine wpAny_bind (wpAny_noteFrame_againW rfl hh7.2.2.2 ?_)
  refine wpAny_landsW hh7 fun h8 hfl u8 => ?_
  obtain ⟨j1, j2, ⟨_, _, j3⟩, j4⟩ := hfl
  refine seg_end (.error (.ref _)) ⟨_, _, a0, h8, _, rfl, rfl, ?_, ?_, ⟨j1, j2, j3, j4⟩, ?_⟩
  · intro b o z
    exact hideAll_get _ (F5.keep b o (hbg b o z)) fun hm => by rw [((hff5 _ rfl).mem hm).1] at z; cases z
  · intro b o z hb hm
    refine hideAll_get _ (k5 b o hb z) fun hm' => ?_
    rcases kts_mem hm' with q | q
    · exact hb q
    · exact hm q
  · intro b o hb z hd
    exact (u6.trans (u7.trans u8)) b o (k5 b o hb z) hd
end Mine

end
-- Gen8
section
open PySem PySem.W PyProof.Rows PySem.Calls
open PySem.Sem (wp)
set_option maxRecDepth 100000
set_option maxHeartbeats 8000000
namespace Mine
theorem fresh_Gen8 : True := by
  w_top off
  k_with_none
  k_with "omega" => lia
  trivial
theorem sub_ve_stop : isSubtype (.type "ValueError") (.type "StopIteration") = pure false := by
  first | kernel_rfl | rfl
section
variable {prog : Program} {w : World} {A : Around} {s : Shared}
theorem next_x {E : Value → Shared → Prop} {a Lg : Addr} {g n : Nat} {c : Code} {base : Heap} {l : List Env} {Q : Option Value → Shared → Prop}
    (hl : s.heap.NoLimit) (hroom : A.depth < recursionLimit) (hg : s.heap.IsGen a g) (hgs : s.gens[g]? = some (.fresh c)) (haL : a ≠ Lg) (haf : a ∉ l.filterMap (·.frame))
    (hgo : ∀ s' : Shared, s'.heap = s.heap → Seg (model prog w) A.in1 (GenX base l Lg) (fun _ _ _ _ _ => False) n s' c ((model prog w).den c) [] s')
    (hE : ∀ e B a0 h tk, base.StaysIn B → (∀ b o, s.heap.get? b = some o → b ≠ Lg → b ∉ l.filterMap (·.frame) → B.get? b = some o) → Heap.FlyingW B l e (.type "ValueError") a0 h →
      (∀ b o, b ≠ Lg → s.heap.get? b = some o → (∀ vs, o.data ≠ .fields vs) → ∃ sl, h.get? b = some { o with slots := sl }) → E (.ref e) { s with heap := h, toks := tk, gens := (s.gens.setIfInBounds g .running).setIfInBounds g .finished }) :
    wpAny (model prog w) A (pyNext (.ref a)) Q E s := by
  unfold pyNext
  refine wpAny_bind (wpAny_attempt (wpAny_callSpecial?_slot (name := Str.ofString "__next__") hg.typeIs slot_gen_next
    (wpAny_call_entry slot_gen_next hg.typeIs entry_gen_next ?_ (args_gen_next _))))
  show wpAny _ _ (Builtin.Generator.genWake (.ref a) (.send .none)) _ _ s
  unfold Builtin.Generator.genWake
  refine wpAny_bind (wpAny_holding (wpAny_genNumber hg (wpAny_bind (wpAny_genState hgs ?_))))
  refine wpAny_bind (wpAny_roomToWake hl hroom ?_)
  show wpAny _ _ (.resume g (.send .none) [] _) _ _ s
  refine resume_q (n := n) hgs (R := GenX base l Lg) (Y := fun _ _ _ _ _ => False) ⟨rfl, hgo _ rfl⟩ (fun x s₁ hx => ?_) (fun v s₁ gs' hq hv => hv.elim)
  obtain ⟨e, B, a0, h, tk, rfl, rfl, h1, h2, h3, h4⟩ := hx
  obtain ⟨o, nm, qn, ho, hoc, hod, hos⟩ := hg
  have hoB : h.get? a = some o := h3.1 _ _ (h2 a o ho haL haf)
  have hT : Shared.TypeIs { s with heap := h, toks := tk, gens := (s.gens.setIfInBounds g .running).setIfInBounds g .finished } (.ref e) "ValueError" := by
    obtain ⟨ob, hob, hobc⟩ := h3.there
    exact ⟨ob, hob, hobc⟩
  show wpAny _ _ (Builtin.Generator.genLeft (.ref a) (.ref e)) _ _ _
  unfold Builtin.Generator.genLeft Builtin.Generator.madeByALambda
  refine wpAny_bind (wpAny_bind (wpAny_load hoB (wpAny_pure ?_)))
  refine wpAny_bind (wpAny_isInstance hT sub_ve_stop ?_)
  rw [Bool.and_false, if_neg (by decide)]
  unfold Builtin.Generator.genEscaped
  refine wpAny_bind (wpAny_isInstance hT sub_ve_stop ?_)
  rw [if_pos (by decide)]
  refine wpAny_bind (wpAny_throw ?_)
  refine wpAny_bind (wpAny_isInstance hT sub_ve_stop ?_)
  rw [if_neg (by decide)]
  exact wpAny_throw (hE e B a0 h tk h1 h2 h3 h4)
theorem slots_on {Lg : Addr} {h h₁ h₂ : Heap} (x : ∀ b o, b ≠ Lg → h.get? b = some o → (∀ vs, o.data ≠ .fields vs) → ∃ sl, h₁.get? b = some { o with slots := sl }) (y : h₁.UpToSlots h₂) :
    ∀ b o, b ≠ Lg → h.get? b = some o → (∀ vs, o.data ≠ .fields vs) → ∃ sl, h₂.get? b = some { o with slots := sl } := fun b o hb e hn => by
  obtain ⟨sl, h1⟩ := x b o hb e hn
  obtain ⟨sl', h2⟩ := y b _ h1 hn
  exact ⟨sl', h2⟩
inductive RaiseStart (prog : Program) (w : World) (A : Around) (E : Value → Shared → Prop) (env : Env) (xv : Value) (s : Shared) : Prop
  | mk (ga Lg L : Addr) (gi : Nat) (c : Code) (base : Heap) (outer : List Env) (c1 : xv = .ref ga)
     (c2 : A.depth < recursionLimit)
     (c3 : A.frames = some (env :: outer))
     (c4 : env.frame = some L)
     (c5 : s.heap.NoLimit)
     (c6 : s.heap.IsGen ga gi)
     (c7 : s.gens[gi]? = some (.fresh c))
     (c8 : ga ≠ Lg)
     (c9 : ga ∉ (env :: outer).filterMap (·.frame))
     (c10 : (∀ s' : Shared, s'.heap = s.heap → Seg (model prog w) A.in1 (GenX base (env :: outer) Lg) (fun _ _ _ _ _ => False) 1 s' c ((model prog w).den c) [] s'))
     (c11 : (∀ e B a0 h tk, base.StaysIn B → (∀ b o, s.heap.get? b = some o → b ≠ Lg → b ∉ (env :: outer).filterMap (·.frame) → B.get? b = some o) → Heap.HeldW B (env :: outer) e (.type "ValueError") a0 L h → (∀ b o, b ≠ Lg → s.heap.get? b = some o → (∀ vs, o.data ≠ .fields vs) → ∃ sl, h.get? b = some { o with slots := sl }) → E (.ref e) { s with heap := h, toks := tk, gens := (s.gens.setIfInBounds gi .running).setIfInBounds gi .finished })) : RaiseStart prog w A E env xv s
theorem for_raise {env : Env} {E : Value → Shared → Prop} {Q : Flow → Shared → Prop} {x : Str} {px pos : Pos} {iter : PySem.Expr} {body : List Stmt}
    (hs : ∀ x, foldedSetIterable iter env x = pure x) (h : wpAny (model prog w) A (eval iter env) (RaiseStart prog w A E env) E s) :
    wpAny (model prog w) A (exec (.For (.Name x px) iter body [] pos) env) Q E s := by
  refine wpAny_For (wpAny_mono h (fun xv s₁ h₁ => ?_) fun _ _ e => e) hs
  obtain ⟨ga, Lg, L, gi, c, base, outer, rfl, hroom, hfr, hf, hlim, hG, hgi, hgL, hgf, hseg, hE⟩ := h₁
  refine wpAny_pyIter_gen hG ?_
  refine codeAny_forLoop (fun _ s' => s' = s₁) ?_ 0 rfl
  rintro n s' rfl
  refine next_x hlim hroom hG hgi hgL hgf hseg fun e B a0 h tk h1 h2 h3 h4 => ?_
  refine wpAny_looks_onW hfr hf h3 fun h' hh u => ?_
  show wpAny _ _ _ _ _ _
  rw [hf]
  exact came_back hh fun h'' hh' u' => hE e B a0 h'' tk h1 h2 hh' (slots_on (slots_on h4 u) u')
end
theorem gen_useX (w : World) (mean : ExcName → Option Value) (mg mb : Str → Option Value) {dp un : Nat} {gd : Option (List Code)} {cn : Str} {cs : Scope} {a : Addr} {ccd : Value} {cl : List (Str × Addr)} {outer : List Env} {base h₀ : Heap} {L rl : Addr} {m : Str → Option Value} {s : Shared} {Q E : Value → Shared → Prop} {vs : List Value} {t0 : Tok} {A₀ : Around}
   (B : Below A₀ base outer h₀) (F : Fr h₀ L s.heap m) (X : (hd.heap_39 w.params).In h₀) (T : Top hd.view_39 (looseW hd.view_39 lse) mean mg mb h₀) (hl : h₀.IsList rl (Value.int 0 t0 :: vs).toArray) (hd1 : dp < recursionLimit) (hk : cs.kind = .function)
   (ret : ∀ ga Lg c h' tk', Fr h₀ L h' m → Kept s.heap h' → s.heap.get? ga = none → s.heap.get? Lg = none → ga ≠ Lg → h'.IsGen ga s.gens.size →
      (∀ s' : Shared, s'.heap = h' → Seg (model PySem.Challenge.rw_sr0007_01.row.prog w) (ktrTop dp un gd cn cs L a ccd cl outer).in1 (GenX base (envX cn cs L a ccd cl :: outer) Lg) (fun _ _ _ _ _ => False) 1 s' c ((model PySem.Challenge.rw_sr0007_01.row.prog w).den c) [] s') →
      Q (.ref ga) { s with heap := h', toks := tk', gens := s.gens.push (.fresh c) }) :
   wpAny (model PySem.Challenge.rw_sr0007_01.row.prog w) (ktrTop dp un gd cn cs L a ccd cl outer) (call (.ref 38) [.ref rl]) Q E s := by
  refine wpAny_call ?_
  obtain ⟨name, qual, params, body, scope, dV, kV, doc, pm, an, cdv, ct, oc, od, osl, binds, e1, e2, e3, e4, e5, e6, e7, e8, e9, go⟩ := gen_rz w mean mg mb rl vs t0
  refine codeAny_call_generator hd1 (X.keeps F.keep _ _ e1) rfl e3 e4 rfl (codeRec_of (X.keeps F.keep) e2) ?_
  refine e7 s _ _ _ _ ?_
  refine wpAny_newFunctionEnv e6 e8 (fun h₁ hn₁ hs₁ => ?_) e5
  have k1 : Kept s.heap h₁ := fun b o e => (hs₁.2 b (Nat.ne_of_lt (Heap.lt_size e))).trans (Heap.get?_push_of_some _ e)
  have hsz : h₁.objs.size = s.heap.objs.size + 1 := by rw [hs₁.1, Heap.size_push]
  have F1 : Fr h₀ s.heap.objs.size h₁ (fun x => binds.reverse.lookup x) := ⟨hn₁, fun b o e => k1 b o (F.keep b o e), Nat.le_of_lt (Nat.lt_of_le_of_lt F.above F.ns.lt)⟩
  refine ⟨(T.nolimit.keeps F.keep).keeps k1, ?_⟩
  have k2 : ∀ o, Kept s.heap (h₁.push o) := fun o b x e => Heap.get?_push_of_some _ (k1 b x e)
  have hff : s.heap.FunFrames base (envX cn cs L a ccd cl :: outer) := (pushX (env := envX cn cs L a ccd cl) B F rfl hk).frames
  show Q (.ref h₁.objs.size) _
  refine ret h₁.objs.size s.heap.objs.size _ _ _ (F.grownK (k2 _)) (k2 _) (Heap.get?_none_of_le (by rw [hsz]; exact Nat.le_succ _)) (Heap.get?_none_of_le (Nat.le_refl _)) (by rw [hsz]; exact Nat.succ_ne_self _) ⟨_, _, _, Heap.get?_push_size _ rfl, rfl, rfl, rfl⟩ ?_
  intro s' hs'
  refine go h₀ base _ _ _ _ _ 1 _ s' _ X T hl B.stays ?_ ?_ (by rw [hs']; exact F1.push _) e9
  · rw [hs']; exact hff.of_keeps fun b o e _ => ⟨o, k2 _ _ _ e, rfl⟩
  · intro b hb q
    obtain ⟨_, o, ho, _⟩ := hff.mem hb
    exact absurd (Heap.lt_size ho) (by rw [q]; exact Nat.lt_irrefl _)
end Mine

end
-- T8
section
open PySem PySem.W PyProof.Rows PySem.Calls
set_option maxRecDepth 100000
set_option maxHeartbeats 8000000
namespace Mine
theorem fresh_T8 : True := by
  w_top off
  k_with_none
  k_with "omega" => lia
  trivial
/-- one call of a def in which an exception has flown: what stood stands, but for the marks in the frames' dicts -/
abbrev ClaimT (w : World) (mean : ExcName → Option Value) (mg mb : Str → Option Value) (f : Addr) (d : Nat) (vs : List Value) (pre : Heap → Prop) (R : List (Addr × Obj) → Value → Prop) : Prop :=
  ∀ (dp un : Nat) (gd : Option (List Code)) (cn : Str) (cs : Scope) (a : Addr) (ccd : Value) (cl : List (Str × Addr)) (outer : List Env) (A₀ : Around) (base h₀ : Heap) (L : Addr) (m : Str → Option Value) (s : Shared) (Q E : Value → Shared → Prop),
   Below A₀ base outer h₀ → Fr h₀ L s.heap m → (hd.heap_39 w.params).In h₀ → Top hd.view_39 (looseW hd.view_39 lse) mean mg mb h₀ → (hd.heap_39 w.params).In base → Top hd.view_39 (looseW hd.view_39 lse) mean mg mb base → cs.kind = .function →
   pre s.heap → dp + d < recursionLimit → un + 10 * d < cLine →
   (∀ r tl h' tk' gens', s.heap.UpToSlots h' → (∀ b o, s.heap.get? b = some o → b ≠ L → b ∉ outer.filterMap (·.frame) → h'.get? b = some o) → Made s.heap h' tl → (leftWithCleanup s.gens = false → leftWithCleanup gens' = false) → R tl r → Q r { s with heap := h', toks := tk', gens := gens' }) →
      wpAny (model PySem.Challenge.rw_sr0007_01.row.prog w) (ktrTop dp un gd cn cs L a ccd cl outer) (call (.ref f) vs) Q E s
section
variable {prog : Program} {w : World} {A A₀ : Around} {s : Shared} {K : Frag} {L : Addr} {h₀ base : Heap} {m mg mb : Str → Option Value} {p : Program} {loose : List Str} {mean : ExcName → Option Value}
/-- into a plain def, with the whole heap as what stands; the return is told as it comes -/
theorem code_defR {env : Env} {outer : List Env} {R : Result → Shared → Prop} {name qual : Str} {params : Arguments} {body : List Stmt} {scope : Scope} {dV kV doc pm cdv ct oc : Value} {an od : Option Addr} {osl : Array (Option Value)} {f : Addr} {args : Args} {binds : List (Str × Value)}
    (B : Below A₀ base outer h₀) (F : Fr h₀ L s.heap m) (X₀ : K.In h₀) (T : Top p loose mean mg mb h₀) (hA : A.frames = some (env :: outer)) (hf : env.frame = some L) (hke : env.scope.kind = .function)
    (ho : K.lookup f = some ⟨oc, od, .func (fnOf name qual params body scope dV kV doc pm an cdv ct), osl⟩) (hcd : codeIn K cdv qual = true) (hroom : A.depth < recursionLimit)
    (hbind : BindsTo s (fnOf name qual params body scope dV kV doc pm an cdv ct) args binds) (hloc : ∀ y ∈ binds, scope.names.lookup y.1 = some .local)
    (h : ∀ L' h₁, Fr s.heap L' h₁ (fun y => binds.reverse.lookup y) → News s.heap L' h₁ [] → Below A base (env :: outer) s.heap → K.In s.heap → Top p loose mean mg mb s.heap →
      wpAny (model prog w) (A.deeper (envOf qual scope L' f cdv)) (execs body (envOf qual scope L' f cdv))
        (fun fl s' => R (.ok (.ret (match fl with | .ret v => v | _ => .none))) s')
        (fun e s' => wpAny (model prog w) (A.deeper (envOf qual scope L' f cdv)) (leaving (envOf qual scope L' f cdv) e) (fun _ s'' => R (.error e) s'') (fun e' s'' => R (.error e') s'') s')
        { s with heap := h₁, toks := s.toks + binds.length })
    (hco : scope.isCoroutine = false) (hgen : scope.isGenerator = false) (hk : scope.kind = .function)
    (hcell : ∀ x ∈ scope.names, x.2 ≠ .cell) : codeAny (model prog w) A (.call (.ref f) args) R s := by
  obtain ⟨_, BG, _, lv⟩ := groundX (R := R) B F (News.nil : News h₀ L s.heap []) hA hf hke
  have X := X₀.keeps F.keep
  refine codeAny_call_def (fd := fnX name qual params body scope [] dV kV doc pm an cdv ct) (body := body) (binds := binds) hroom (X _ _ ho) rfl (T.nolimit.keeps F.keep) (codeRec_of X hcd) rfl hbind hcell hloc (fun h₁ hns hk₁ => ?_) hco hgen hk
  exact h s.heap.objs.size h₁ ⟨hns, fun b o e => hk₁ b o e, Nat.le_refl _⟩ News.nil BG X (T.keeps F.keep)
end
section
variable {prog : Program} {w : World} {A₀ : Around} {E : Value → Shared → Prop} {s' : Shared} {base g G B : Heap} {outer : List Env} {L a e : Addr} {m : Str → Option Value} {name : Str} {scope : Scope} {cd : Value}
  {b₀ : Stmt} {suite : List Stmt} {pos np : Pos} {rest : List ExceptHandler} {Q : Flow → Shared → Prop}
  {p : Program} {loose : List Str} {mean : ExcName → Option Value} {mg mb : Str → Option Value} {x : Str} {X T' : String} {a0 : Value}
theorem caught_x (K : Below A₀ base outer g) (F : Fr g L G m) (hBG : ∀ b o, G.get? b = some o → b ∉ (envOf name scope L a cd :: outer).filterMap (·.frame) → B.get? b = some o) (hsm : G.UpToSlots s'.heap)
    (hh : Heap.HeldW B (envOf name scope L a cd :: outer) e (.type X) a0 L s'.heap)
    (T : Top p loose mean mg mb base) (hv : bootBuiltins x = some (.type T'))
    (hexc : isSubtype (.type T') (.type "BaseException") = pure true) (hnt : isSubtype (.type ((Manifest.find? T').elim "type" fun y => y.metatype)) (.type "tuple") = pure false) (hsub : isSubtype (.type X) (.type T') = pure true)
    (k : ∀ h' g', KtsTurn (outer.filterMap (·.frame)) g g' → Fr g' L h' m → Below A₀ base outer g' → B.StaysIn h' → G.UpToSlots h' →
      wpAny (model prog w) ((A₀.deeper (envOf name scope L a cd)).mark (some (.ref e))) (execs (b₀ :: suite) (envOf name scope L a cd)) Q E { s' with heap := h' })
    (h1 : x ∉ startupNames := by decide +kernel) (h2 : x ∉ loose := by decide +kernel) (h3 : x ∉ (recsOf p).map (·.name) := by decide +kernel) (h4 : x ∉ (litsOf p).map (·.1) := by decide +kernel) (h4c : x ∉ (clssOf p loose).map (·.name) := by decide +kernel) (hn : x ≠ "__name__" := by decide +kernel)
    (hk : scope.kind = .function := by rfl) (hx : (envOf name scope L a cd).kindOf x = some .globalImplicit := by rfl) (hd : (x == ("__debug__" : Str)) = false := by decide)
    (hE : PassesOwnAt (model prog w) ((A₀.deeper (envOf name scope L a cd)).mark (some (.ref e))) (A₀.deeper (envOf name scope L a cd)) (envOf name scope L a cd) E := by passes_own) :
    wpAny (model prog w) (A₀.deeper (envOf name scope L a cd)) (noteFrame (.ref e) (envOf name scope L a cd))
      (fun _ s₂ => wpAny (model prog w) (A₀.deeper (envOf name scope L a cd)) (setFlight (.ref e) none) (fun _ s₃ =>
        wpAny (model prog w) (A₀.deeper (envOf name scope L a cd)) (handleBy (.ref e) (envOf name scope L a cd) (.ExceptHandler (some (.Name x np)) none (b₀ :: suite) pos :: rest)) Q E s₃) E s₂) E s' := by
  refine wpAny_noteFrame_againW rfl hh.2.2.2 ?_
  refine wpAny_landsW hh fun h₅ hheld hsm₅ => ?_
  obtain ⟨g₅, T₅, F₅, K₅⟩ := kts_ground K F hBG hheld.1 (hsm.trans hsm₅)
  obtain ⟨ob, hob, hobc⟩ := hheld.there
  have TT := T.keeps K₅.stays
  refine wpAny_handleBy_builtin (X := X) (T := T') (b := true) hexc hnt hsub (ld_builtin_at F₅ TT.g (TT.free x h1 h2 h3 h4 h4c) TT.b ((TT.builtins x hn).trans hv) ⟨rfl, ⟨ob, hob, hobc⟩, ?_⟩ hk hx hd)
  refine lands_againW hheld fun h₆ hfl₆ hsm₆ => ?_
  obtain ⟨g₆, T₆, F₆, K₆⟩ := kts_ground K F hBG hfl₆.1 ((hsm.trans hsm₅).trans hsm₆)
  exact wpAny_passesOwnAt hE (k h₆ g₆ T₆ F₆ K₆ hfl₆.1 ((hsm.trans hsm₅).trans hsm₆))
end
theorem rows_T8_1 : True := by
  k_with "cell_enter" => (refine' code_defR ?k1 ?k2 ?k3 ?k5 ?kA ?kF ?kK ?k6 ?k7 ?k8 ?k9 ?kB ?_ ?c2 ?c3 ?c4 ?c5; (case kA => exact rfl); (case kF => exact rfl); (case kK => assumption); (case k1 => k_asm); (case k2 => k_asm); (case k3 => k_asm); (case k5 => k_asm); (case k6 => k_is); (case k7 => k_is); (case k8 => ktr_room); (case k9 => exact BindsTo.of_eq rfl); (case c5 => decide); (case kB => exact locs rfl); (case c2 => exact rfl); (case c3 => exact rfl); (case c4 => exact rfl); k_whole; intro L1 h1 F1 N1 B1 X1 T1; (try dsimp only); (try k_fold))
  k_with "call ref" => (k_here; (with_reducible show wpAny _ _ (call (Value.ref 38) [Value.ref _]) _ _ _); (refine' gen_useX _ _ _ _ ?k1 ?k2 ?k3 ?k4 ?k5 ?k6 ?k7 ?_; (case k1 => assumption); (case k2 => k_asm); (case k3 => assumption); (case k4 => assumption); (case k5 => assumption); (case k6 => ktr_room); (case k7 => rfl)); intro ga Lg c h2 tk2 F2 gk gn1 gn2 gne gG gS)
  trivial
theorem c_refused (w : World) (mean : ExcName → Option Value) (mg mb : Str → Option Value) (rl : Addr) (vs : List Value) (t0 : Tok) :
   ClaimT w mean mg mb 83 5 [.ref rl] (fun h => h.IsList rl (Value.int 0 t0 :: vs).toArray) (fun tl v => tl = [] ∧ v = .bool true) := by
  unfold ClaimT
  k_fill
  intro dp un gd cn cs a ccd cl outer A₀ base h₀ L m s Q E B F X T XB TB hk hl hd1 hu hret
  refine wpAny_call ?_
  k_dflt cell_enter
  k_with "exec For Name Call cons nil" => ((with_reducible show wpAny _ _ (exec (Stmt.For (Expr.Name (Str.ofString "size") _) _ _ _ _) _) _ _ _); with_reducible refine' for_raise ?hs ?h; (case hs => with_unfolding_all (intro _; rfl)))
  k_steps
  dsimp only at gk gn1 gn2
  have hff : h1.FunFrames base (envOf (Str.ofString "_law_refused") { kind := .function, names := [(Str.ofString "ruler", NameKind.local), (Str.ofString "size", NameKind.local), (Str.ofString "_grouping_intervals", NameKind.globalImplicit), (Str.ofString "ValueError", NameKind.globalImplicit)], isGenerator := false, isCoroutine := false } L1 83 (.ref 82) :: envX cn cs L a ccd cl :: outer) := (Below.push B1 F1 rfl).frames
  have hLg : L1 ≠ Lg := fun q => by
    obtain ⟨o, _, _, ho, _⟩ := F1.ns
    rw [q, gn2] at ho; cases ho
  have F3 : Fr s.heap L1 (hideAll h2 [Lg]) _ := ⟨F2.ns.at' fun o e => hideAll_get _ e (by simpa using hLg), fun b o e => hideAll_get _ (F2.keep b o e) (by
    intro q
    rw [List.mem_singleton] at q
    have := F1.keep b o e
    rw [q, gn2] at this; cases this), F2.above⟩
  refine ⟨ga, Lg, L1, _, c, base, _, rfl, by ktr_room, rfl, rfl, T1.nolimit.keeps F2.keep, gG, by simp, gne, ?_, gS, ?_⟩
  · intro hm
    obtain ⟨_, o, ho, _⟩ := hff.mem hm
    rw [gn1] at ho; cases ho
  · intro e B a0 h6 tk6 b1 b2 hh u6
    refine caught_x (T' := "ValueError") B1 F3 (fun b o z hm => b2 b o (of_hideAll _ z) (fun q => by rw [q, hideAll_none _ (by simp)] at z; cases z) hm) (fun b o z hd => u6 b o (fun q => by rw [q, hideAll_none _ (by simp)] at z; cases z) (of_hideAll _ z) hd) hh TB PyProof.Rows.Boot.«ValueError» PySem.F.isExc_ValueError PySem.F.notTuple_ValueError (by rw [isSubtype_type]; kernel_rfl) ?_
    intro h7 g7 T7 F7 B7 S7 U7
    k_steps
    refine hret (.bool true) [] h7 _ _ (fun b o z _ => (T7.up z).imp fun sl hs => F7.keep _ _ hs) (fun b o z n1 n2 => F7.keep _ _ (T7.other b o z ?_)) (fun p hp => nomatch hp) (fun z => left_set (left_push z) rfl) ⟨rfl, rfl⟩
    intro hm
    obtain ⟨env', he', hf'⟩ := List.mem_filterMap.mp hm
    rcases List.mem_cons.mp he' with rfl | he'
    · exact n1 (Option.some.inj hf').symm
    · exact n2 (List.mem_filterMap.mpr ⟨env', he', hf'⟩)
end Mine

end
-- T9
section
open PySem PySem.W PyProof.Rows PySem.Calls
set_option maxRecDepth 100000
set_option maxHeartbeats 8000000
namespace Mine
theorem fresh_T9 : True := by
  w_top off
  k_with_none
  k_with "omega" => lia
  trivial
theorem claimT_use {w : World} {mean : ExcName → Option Value} {mg mb : Str → Option Value} {f : Addr} {d : Nat} {vs : List Value} {pre : Heap → Prop} {R : List (Addr × Obj) → Value → Prop}
   {dp un : Nat} {gd : Option (List Code)} {cn : Str} {cs : Scope} {a : Addr} {ccd : Value} {cl : List (Str × Addr)} {outer : List Env} {A₀ : Around} {base h₀ : Heap} {L : Addr} {m : Str → Option Value} {news : List (Addr × Obj)} {s : Shared} {Q E : Value → Shared → Prop}
   (C : ClaimT w mean mg mb f d vs pre R) (B : Below A₀ base outer h₀) (F : Fr h₀ L s.heap m) (X : (hd.heap_39 w.params).In h₀) (N : News h₀ L s.heap news) (T : Top hd.view_39 (looseW hd.view_39 lse) mean mg mb h₀)
   (XB : (hd.heap_39 w.params).In base) (TB : Top hd.view_39 (looseW hd.view_39 lse) mean mg mb base) (hk : cs.kind = .function)
   (hp : pre s.heap) (hd1 : dp + d < recursionLimit) (hu : un + 10 * d < cLine)
   (ret : ∀ r tl h' tk' gens' g', KtsTurn (outer.filterMap (·.frame)) h₀ g' → Fr g' L h' m → News g' L h' (tl ++ news) → Below A₀ base outer g' → (hd.heap_39 w.params).In g' → Top hd.view_39 (looseW hd.view_39 lse) mean mg mb g' →
      (∀ p ∈ tl, AllApart p.1 (news.map (·.1))) → (leftWithCleanup s.gens = false → leftWithCleanup gens' = false) → R tl r → Q r { s with heap := h', toks := tk', gens := gens' }) :
      wpAny (model PySem.Challenge.rw_sr0007_01.row.prog w) (ktrTop dp un gd cn cs L a ccd cl outer) (call (.ref f) vs) Q E s := by
  refine C _ _ _ _ _ _ _ _ _ _ _ _ _ _ _ _ _ B F X T XB TB hk hp hd1 hu fun r tl h' tk' gens' hup hkeep M hg hR => ?_
  have hin : ∀ b, b ∈ outer.filterMap (·.frame) → ∃ o, h₀.get? b = some o := fun b hb => by
    obtain ⟨_, o, ho, _⟩ := B.frames.mem hb
    exact ⟨o, ho⟩
  obtain ⟨oL, _, _, hL, _⟩ := F.ns
  obtain ⟨g', T', F', B'⟩ := kts_ground (name := default) (scope := cs) (a := a) (cd := ccd) (B := hideAll s.heap (L :: outer.filterMap (·.frame))) B F (fun b o e hm => hideAll_get _ e (fun q => hm (by
      rcases List.mem_cons.mp q with rfl | q
      · exact List.mem_filterMap.mpr ⟨_, .head _, rfl⟩
      · obtain ⟨env', he', hf'⟩ := List.mem_filterMap.mp q
        exact List.mem_filterMap.mpr ⟨env', .tail _ he', hf'⟩)))
    (fun b o e => hkeep b o (of_hideAll _ e) (fun q => by rw [hideAll_none _ (by rw [q]; exact .head _)] at e; cases e) (fun q => by rw [hideAll_none _ (.tail _ q)] at e; cases e)) hup
  refine ret r tl h' tk' gens' g' T' F' ?_ B' (XB.keeps B'.stays) (TB.keeps B'.stays) (made_apart N M) hg hR
  intro p hp
  rcases List.mem_append.mp hp with hp | hp
  · refine ⟨(M p hp).1, fun q => ?_, T'.none_ _ (kts_none F.keep (M p hp).2)⟩
    have := (M p hp).2
    rw [q, hL] at this; cases this
  · refine ⟨hkeep _ _ (N p hp).1 (N p hp).2.1 (fun q => ?_), (N p hp).2.1, T'.none_ _ (N p hp).2.2⟩
    obtain ⟨o, ho⟩ := hin _ q
    rw [(N p hp).2.2] at ho; cases ho
section
variable {prog : Program} {w : World} {A A₀ : Around} {s : Shared} {K : Frag} {L : Addr} {h₀ base : Heap} {m mg mb : Str → Option Value} {p : Program} {loose : List Str} {mean : ExcName → Option Value}
/-- into a def with cells, with the whole heap as what stands; the return is told as it comes -/
theorem code_defCR {env : Env} {outer : List Env} {R : Result → Shared → Prop} {name qual : Str} {params : Arguments} {body : List Stmt} {scope : Scope} {dV kV doc pm cdv ct oc : Value} {an od : Option Addr} {osl : Array (Option Value)} {f : Addr} {args : Args} {binds : List (Str × Value)}
    (B : Below A₀ base outer h₀) (F : Fr h₀ L s.heap m) (X₀ : K.In h₀) (T : Top p loose mean mg mb h₀) (hA : A.frames = some (env :: outer)) (hf : env.frame = some L) (hke : env.scope.kind = .function)
    (ho : K.lookup f = some ⟨oc, od, .func (fnOf name qual params body scope dV kV doc pm an cdv ct), osl⟩) (hcd : codeIn K cdv qual = true) (hroom : A.depth < recursionLimit)
    (hbind : BindsTo s (fnOf name qual params body scope dV kV doc pm an cdv ct) args binds) (hkind : (binds.all fun y => scope.names.lookup y.1 == some .local || scope.names.lookup y.1 == some .cell) = true)
    (hnd : ((cellsFrom 0 scope.names []).map (·.1)).Nodup)
    (h : ∀ L' h₁ tk cells, Fr s.heap L' h₁ (bindL (envOfC qual scope L' f cdv).kindOf binds fun _ => none) → News s.heap L' h₁ cells →
      CellsAre (bindC (envOfC qual scope L' f cdv).kindOf binds fun _ => none) (cellsFrom (L' + 1) scope.names []) cells → Below A base (env :: outer) s.heap → K.In s.heap → Top p loose mean mg mb s.heap →
      wpAny (model prog w) (A.deeper (envOfC qual scope L' f cdv)) (execs body (envOfC qual scope L' f cdv))
        (fun fl s' => R (.ok (.ret (match fl with | .ret v => v | _ => .none))) s')
        (fun e s' => wpAny (model prog w) (A.deeper (envOfC qual scope L' f cdv)) (leaving (envOfC qual scope L' f cdv) e) (fun _ s'' => R (.error e) s'') (fun e' s'' => R (.error e') s'') s')
        { s with heap := h₁, toks := tk })
    (hco : scope.isCoroutine = false) (hgen : scope.isGenerator = false) (hk : scope.kind = .function) : codeAny (model prog w) A (.call (.ref f) args) R s := by
  obtain ⟨_, BG, _, lv⟩ := groundX (R := R) B F (News.nil : News h₀ L s.heap []) hA hf hke
  have X := X₀.keeps F.keep
  refine codeAny_call_function hroom (X _ _ ho) rfl hco hgen rfl (codeRec_of X hcd) (hbind _ _ _ _ ?_)
  refine wpAny_newFunctionEnv_cells hk (kindsX hkind _) fun env' he s' x => ?_
  subst he
  refine ⟨(T.nolimit.keeps F.keep).keeps x.toInCall.keep, codeAny_func ?_⟩
  obtain ⟨h₁, tk, rfl, _⟩ := x.done
  have hk₁ := x.toInCall.keep
  obtain ⟨cells, NC, Y⟩ := Cl.news (h₀ := s.heap) (Nat.le_refl _) fun n c hm => ⟨x.cell n c (lookup_of_mem_nodup (cellsFrom_names scope.names 0 (s.heap.objs.size + 1) [] [] rfl ▸ hnd) hm), x.above n c hm⟩
  exact h s.heap.objs.size h₁ tk cells ⟨x.toInCall.ns, fun b o e => hk₁ b o e, Nat.le_refl _⟩ NC Y BG X (T.keeps F.keep)
end
end Mine

end
-- Bits
section
open PySem PySem.W PyProof.Rows PySem.Calls
set_option maxHeartbeats 8000000
namespace Mine
theorem fresh_Bits : True := by
  w_top off
  k_with_none
  k_with "omega" => lia
  trivial
theorem made_of {g h' : Heap} {L : Addr} {all tl : List (Addr × Obj)} (N : News g L h' all) (hs : ∀ p ∈ tl, p ∈ all) : Made g h' tl := fun p hp => ⟨(N p (hs p hp)).1, (N p (hs p hp)).2.2⟩
abbrev tupOf (vs : Array Value) (n : Nat) : Obj := { cls := .type "tuple", data := .seq vs n }
/-- one call of a def of the text that makes no generator -/
abbrev Claim0 (w : World) (mean : ExcName → Option Value) (mg mb : Str → Option Value) (f : Addr) (d : Nat) (vs : List Value) (pre : Heap → Prop) (R : List (Addr × Obj) → Value → Prop) : Prop :=
  ∀ (dp un : Nat) (gd : Option (List Code)) (cn : Str) (cs : Scope) (a : Addr) (ccd : Value) (cl : List (Str × Addr)) (outer : List Env) (A₀ : Around) (base h₀ : Heap) (L : Addr) (m : Str → Option Value) (s : Shared) (Q E : Value → Shared → Prop),
   Below A₀ base outer h₀ → Fr h₀ L s.heap m → (hd.heap_39 w.params).In h₀ → Top hd.view_39 (looseW hd.view_39 lse) mean mg mb h₀ → cs.kind = .function →
   pre s.heap → dp + d < recursionLimit → un + 10 * d < cLine →
   (∀ r tl h' tk', (∀ b o, s.heap.get? b = some o → h'.get? b = some o) → Made s.heap h' tl → R tl r → Q r { s with heap := h', toks := tk' }) →
      wpAny (model PySem.Challenge.rw_sr0007_01.row.prog w) (ktrTop dp un gd cn cs L a ccd cl outer) (call (.ref f) vs) Q E s
theorem claim0_use {w : World} {mean : ExcName → Option Value} {mg mb : Str → Option Value} {f : Addr} {d : Nat} {vs : List Value} {pre : Heap → Prop} {R : List (Addr × Obj) → Value → Prop}
   {dp un : Nat} {gd : Option (List Code)} {cn : Str} {cs : Scope} {a : Addr} {ccd : Value} {cl : List (Str × Addr)} {outer : List Env} {A₀ : Around} {base h₀ : Heap} {L : Addr} {m : Str → Option Value} {news : List (Addr × Obj)} {s : Shared} {Q E : Value → Shared → Prop}
   (C : Claim0 w mean mg mb f d vs pre R) (B : Below A₀ base outer h₀) (F : Fr h₀ L s.heap m) (X : (hd.heap_39 w.params).In h₀) (N : News h₀ L s.heap news) (T : Top hd.view_39 (looseW hd.view_39 lse) mean mg mb h₀) (hk : cs.kind = .function)
   (hp : pre s.heap) (hd : dp + d < recursionLimit) (hu : un + 10 * d < cLine)
   (ret : ∀ r tl h' tk', Fr h₀ L h' m → News h₀ L h' (tl ++ news) → (∀ b o, s.heap.get? b = some o → h'.get? b = some o) → (∀ p ∈ tl, AllApart p.1 (news.map (·.1))) → R tl r → Q r { s with heap := h', toks := tk' }) :
      wpAny (model PySem.Challenge.rw_sr0007_01.row.prog w) (ktrTop dp un gd cn cs L a ccd cl outer) (call (.ref f) vs) Q E s :=
  C _ _ _ _ _ _ _ _ _ _ _ _ _ _ _ _ _ B F X T hk hp hd hu fun r tl h' tk' hk' M hR => ret r tl h' tk' (F.grownK hk') (made_news F N hk' M) hk' (made_apart N M) hR
/-- a call whose answer tells of its tokens -/
abbrev ClaimK (w : World) (mean : ExcName → Option Value) (mg mb : Str → Option Value) (f : Addr) (d : Nat) (vs : List Value) (pre : Heap → Prop) (R : Nat → Nat → List (Addr × Obj) → Value → Prop) : Prop :=
  ∀ (dp un : Nat) (gd : Option (List Code)) (cn : Str) (cs : Scope) (a : Addr) (ccd : Value) (cl : List (Str × Addr)) (outer : List Env) (A₀ : Around) (base h₀ : Heap) (L : Addr) (m : Str → Option Value) (s : Shared) (Q E : Value → Shared → Prop),
   Below A₀ base outer h₀ → Fr h₀ L s.heap m → (hd.heap_39 w.params).In h₀ → Top hd.view_39 (looseW hd.view_39 lse) mean mg mb h₀ → cs.kind = .function →
   pre s.heap → dp + d < recursionLimit → un + 10 * d < cLine →
   (∀ r tl h' tk', (∀ b o, s.heap.get? b = some o → h'.get? b = some o) → Made s.heap h' tl → R s.toks tk' tl r → Q r { s with heap := h', toks := tk' }) →
      wpAny (model PySem.Challenge.rw_sr0007_01.row.prog w) (ktrTop dp un gd cn cs L a ccd cl outer) (call (.ref f) vs) Q E s
theorem claimK_use {w : World} {mean : ExcName → Option Value} {mg mb : Str → Option Value} {f : Addr} {d : Nat} {vs : List Value} {pre : Heap → Prop} {R : Nat → Nat → List (Addr × Obj) → Value → Prop}
   {dp un : Nat} {gd : Option (List Code)} {cn : Str} {cs : Scope} {a : Addr} {ccd : Value} {cl : List (Str × Addr)} {outer : List Env} {A₀ : Around} {base h₀ : Heap} {L : Addr} {m : Str → Option Value} {news : List (Addr × Obj)} {s : Shared} {Q E : Value → Shared → Prop}
   (C : ClaimK w mean mg mb f d vs pre R) (B : Below A₀ base outer h₀) (F : Fr h₀ L s.heap m) (X : (hd.heap_39 w.params).In h₀) (N : News h₀ L s.heap news) (T : Top hd.view_39 (looseW hd.view_39 lse) mean mg mb h₀) (hk : cs.kind = .function)
   (hp : pre s.heap) (hd : dp + d < recursionLimit) (hu : un + 10 * d < cLine)
   (ret : ∀ r tl h' tk', Fr h₀ L h' m → News h₀ L h' (tl ++ news) → (∀ b o, s.heap.get? b = some o → h'.get? b = some o) → (∀ p ∈ tl, AllApart p.1 (news.map (·.1))) → R s.toks tk' tl r → Q r { s with heap := h', toks := tk' }) :
      wpAny (model PySem.Challenge.rw_sr0007_01.row.prog w) (ktrTop dp un gd cn cs L a ccd cl outer) (call (.ref f) vs) Q E s :=
  C _ _ _ _ _ _ _ _ _ _ _ _ _ _ _ _ _ B F X T hk hp hd hu fun r tl h' tk' hk' M hR => ret r tl h' tk' (F.grownK hk') (made_news F N hk' M) hk' (made_apart N M) hR
theorem Claim0.claim {w : World} {mean : ExcName → Option Value} {mg mb : Str → Option Value} {f : Addr} {d : Nat} {vs : List Value} {pre : Heap → Prop} {R : List (Addr × Obj) → Value → Prop} (C : Claim0 w mean mg mb f d vs pre R) : Claim w mean mg mb f d vs pre R :=
  fun dp un gd cn cs a ccd cl outer A₀ base h₀ L m s Q E B F X T hk hp hd hu ret => C dp un gd cn cs a ccd cl outer A₀ base h₀ L m s Q E B F X T hk hp hd hu fun r tl h' tk' k M hR => ret r tl h' tk' s.gens k M id hR
end Mine

end
-- LawDefs
section
open PySem PySem.W PyProof.Rows PySem.Calls
set_option maxRecDepth 100000
set_option maxHeartbeats 8000000
namespace Mine
theorem fresh_LawDefs : True := by
  w_top off
  k_with_none
  k_with "omega" => lia
  trivial
def recOf {q : Program} {loose : List Str} {XP : (Str → Option Value) → Heap → Prop} {YP : World → Heap → Prop} {r : RowW} {d : DefRec} {kwd : List (Str × PySem.Expr)} {run : Value → List Value → Sem Value} {P : Prop} (_ : WalkO q loose XP YP r d kwd run → P) : DefRec := d
noncomputable def lawRec : DefRec := recOf Mine.hd
def cellsOf (L : Addr) (o1 o2 o3 o4 o5 o6 o7 o8 : Obj) : List (Addr × Obj) := [(L + 1 + 1 + 1 + 1 + 1 + 1 + 1 + 1, o8), (L + 1 + 1 + 1 + 1 + 1 + 1 + 1, o7), (L + 1 + 1 + 1 + 1 + 1 + 1, o6), (L + 1 + 1 + 1 + 1 + 1, o5), (L + 1 + 1 + 1 + 1, o4), (L + 1 + 1 + 1, o3), (L + 1 + 1, o2), (L + 1, o1)]
end Mine

end
-- Comp
section
open PySem PySem.W PyProof.Rows PySem.Calls
set_option maxRecDepth 100000
set_option maxHeartbeats 8000000
namespace Mine
theorem fresh_Comp : True := by
  w_top off
  k_with_none
  k_with "omega" => lia
  trivial
/-- a comprehension with no test, by an invariant over the turn, the items so far and the ledger -/
theorem comp_inv {prog : Program} {w : World} {A : Around} {h₀ : Heap} {L : Addr} {m : Str → Option Value} {env : Env} {elt : PySem.Expr} {x : Str} {scope : Scope} {cl : List (Str × Addr)} {s : Shared} {S : List (Addr × Obj) → Prop} {P : Nat → Value → Prop} {Fin : List Value → List (Addr × Obj) → Prop} {n : Nat}
   (J : Nat → List Value → List (Addr × Obj) → Prop)
   (turn : ∀ i ys news, i < n → J i ys news → ∀ v I oI C oC D m₂ h tk (E' : Value → Shared → Prop), P i v → LCg.NsObj oC m₂ → m₂ x = some v → Fr h₀ L h m → News h₀ L h ((I, oI) :: (C, oC) :: (D, LCg.lst ys) :: news) → LCg.Off3 I C D news →
      wpAny (model prog w) A (eval elt (compEnvC scope cl C env)) (LCg.CompEnd h₀ L m { s with heap := h, toks := tk } I oI C oC D (LCg.lst ys) S (fun y news' => J (i + 1) (ys ++ [y]) news')) E' { s with heap := h, toks := tk })
   (fin : ∀ ys news, J n ys news → Fin ys news) : ∀ (k i : Nat) (ys : List Value) (news : List (Addr × Obj)), i + k = n → J i ys news → LCg.CompRest prog w A h₀ L m env elt x scope cl s S P Fin k i ys news
  | 0, i, ys, news, e, hJ => LCg.CompRest.zero (fin ys news (by rw [← e]; exact hJ))
  | k + 1, i, ys, news, e, hJ => by
    refine LCg.CompRest.succ ?_
    intro v I oI C oC D m₂ h tk E' hv hC hx F N off ne
    refine wpAny_mono (turn i ys news (by omega) hJ v I oI C oC D m₂ h tk E' hv hC hx F N off) (fun y s' hce => ?_) fun _ _ e => e
    obtain ⟨h', tk', news', rfl, F', N', off', hS, r⟩ := hce
    exact ⟨h', tk', news', rfl, F', N', off', hS, comp_inv J turn fin k (i + 1) (ys ++ [y]) news' (by omega) r⟩
abbrev KeepJ (news₀ : List (Addr × Obj)) (P : Nat → List Value → Prop) (i : Nat) (ys : List Value) (news : List (Addr × Obj)) : Prop := news = news₀ ∧ P i ys
theorem off_of_mem {I C D : Addr} {all : List (Addr × Obj)} (h : LCg.Off3 I C D all) {l : List (Addr × Obj)} (hs : ∀ p ∈ l, p ∈ all) : LCg.Off3 I C D l := LCg.Off3.of fun p hp => h.mem p (hs p hp)
theorem off3_cons {I C D : Addr} {oI oC oD o : Obj} {a : Addr} {l news : List (Addr × Obj)} (h : LCg.Off3 I C D news) (ha : AllApart a (((I, oI) :: (C, oC) :: (D, oD) :: l).map (·.1))) : LCg.Off3 I C D ((a, o) :: news) :=
  ⟨⟨ha _ (by simp), ha _ (by simp), ha _ (by simp)⟩, h⟩
/-- what comes back where no def's frame stands below: the ground stays as it was -/
theorem claimT_use0 {w : World} {mean : ExcName → Option Value} {mg mb : Str → Option Value} {f : Addr} {d : Nat} {vs : List Value} {pre : Heap → Prop} {R : List (Addr × Obj) → Value → Prop}
   {dp un : Nat} {gd : Option (List Code)} {cn : Str} {cs : Scope} {a : Addr} {ccd : Value} {cl : List (Str × Addr)} {A₀ : Around} {base h₀ : Heap} {L : Addr} {m : Str → Option Value} {news : List (Addr × Obj)} {s : Shared} {Q E : Value → Shared → Prop}
   (C : ClaimT w mean mg mb f d vs pre R) (B : Below A₀ base [] h₀) (F : Fr h₀ L s.heap m) (X : (hd.heap_39 w.params).In h₀) (N : News h₀ L s.heap news) (T : Top hd.view_39 (looseW hd.view_39 lse) mean mg mb h₀)
   (XB : (hd.heap_39 w.params).In base) (TB : Top hd.view_39 (looseW hd.view_39 lse) mean mg mb base) (hk : cs.kind = .function)
   (hp : pre s.heap) (hd1 : dp + d < recursionLimit) (hu : un + 10 * d < cLine)
   (ret : ∀ r tl h' tk' gens', Fr h₀ L h' m → News h₀ L h' (tl ++ news) → (∀ p ∈ tl, AllApart p.1 (news.map (·.1))) → (leftWithCleanup s.gens = false → leftWithCleanup gens' = false) → R tl r → Q r { s with heap := h', toks := tk', gens := gens' }) :
      wpAny (model PySem.Challenge.rw_sr0007_01.row.prog w) (ktrTop dp un gd cn cs L a ccd cl []) (call (.ref f) vs) Q E s := by
  refine claimT_use C B F X N T XB TB hk hp hd1 hu fun r tl h' tk' gens' g' TK F' N' _ _ _ l G hR => ?_
  have up : ∀ b o, h₀.get? b = some o → g'.get? b = some o := fun b o e => TK.other b o e (by simp)
  refine ret r tl h' tk' gens' ⟨F'.ns, fun b o e => F'.keep b o (up b o e), by rw [← TK.size]; exact F'.above⟩ (fun p hp => ?_) l G hR
  obtain ⟨n1, n2, n3⟩ := N' p hp
  refine ⟨n1, n2, ?_⟩
  cases q : h₀.get? p.1 with
  | none => rfl
  | some o => have := up _ _ q; rw [n3] at this; cases this
end Mine

end
-- CompCell
section
open PySem PySem.W PyProof.Rows PySem.Calls PySem.Spec
set_option maxRecDepth 100000
set_option maxHeartbeats 8000000
namespace Mine
theorem fresh_CompCell : True := by
  w_top off
  k_with_none
  k_with "omega" => lia
  trivial
abbrev cellO (v : Option Value) : Obj := { cls := .type "cell", data := .cell v }
section
variable {prog : Program} {w : World} {A : Around} {E : Value → Shared → Prop} {s : Shared} {h₀ : Heap} {L : Addr} {m : Str → Option Value} {env : Env}
theorem new_env_k {M : Model} {scope : Scope} {x g p : Str} {cl : List (Str × Addr)} {gl : Addr} {q : Str} {Q : Env → Shared → Prop} (hnm : scope.names = [(Str.ofString ".0", .local), (x, .cell), (g, .globalImplicit), (p, .free)])
   (h : Q { scope, locals := s.heap.objs.size, globals := gl, cells := (x, s.heap.objs.size + 1) :: cl, qual := q, func := none, code := env.code, frame := env.frame, builtins := env.builtins } { s with heap := (s.heap.push { cls := .type "dict", data := .dict #[] }).push (cellO none) }) :
   wpAny M A (newFunctionEnv scope gl cl [] q none .none (some env)) Q E s := by
  unfold newFunctionEnv
  refine wpAny_bind (wpAny_alloc ?_)
  rw [hnm]
  simp only [List.forIn_cons, List.forIn_nil, show (NameKind.local == NameKind.cell) = false from rfl, show (NameKind.cell == NameKind.cell) = true from rfl, show (NameKind.globalImplicit == NameKind.cell) = false from rfl, show (NameKind.free == NameKind.cell) = false from rfl, if_true, Bool.false_eq_true, if_false]
  refine wpAny_bind (wpAny_bind (wpAny_pure (wpAny_bind (wpAny_bind (wpAny_alloc (wpAny_pure (wpAny_bind (wpAny_pure (wpAny_bind (wpAny_pure (wpAny_pure ?_)))))))))))
  refine wpAny_bind (wpAny_pure (wpAny_pure ?_))
  have e : ({ s with heap := s.heap.push { cls := .type "dict", data := .dict #[] } } : Shared).heap.objs.size = s.heap.objs.size + 1 := Heap.size_push ..
  simp only [Option.isSome_some, if_true]
  rw [e]
  exact h
/-- what a turn hands on -/
def CellEnd (h₀ : Heap) (L : Addr) (m : Str → Option Value) (s₁ : Shared) (all : List (Addr × Obj)) (P : Value → Prop) (y : Value) (s₂ : Shared) : Prop := ∃ h' tk', s₂ = { s₁ with heap := h', toks := tk' } ∧ Fr h₀ L h' m ∧ News h₀ L h' all ∧ P y
inductive CellSrc (prog : Program) (w : World) (A : Around) (h₀ : Heap) (L : Addr) (m : Str → Option Value) (env : Env) (elt : PySem.Expr) (x : Str) (scope : Scope) (cl : List (Str × Addr)) (Q : Value → Shared → Prop) (xv : Value) (s₁ : Shared) : Prop
  | mk (r : Addr) (a b : Int) (n : Nat) (t u v : Tok) (news : List (Addr × Obj)) (P : Nat → List Value → Prop) (c1 : xv = .ref r)
     (c2 : A.handled = none)
     (c3 : Fr h₀ L s₁.heap m)
     (c4 : News h₀ L s₁.heap news)
     (c5 : IsRange s₁.heap r a b 1 t u v)
     (c6 : Builtin.Range.small a b 1 = true)
     (c7 : Builtin.Range.rangeSize a b 1 = (n : Int))
     (c8 : n ≤ 1000)
     (c9 : P 0 [])
     (c10 : (∀ i ys, i < n → P i ys → ∀ (I C ck D : Addr) (oI oC oc : Obj) (t : Tok) (h : Heap) (tk : Nat) (E' : Value → Shared → Prop), oc.data = .cell (some (.int (a + (i : Int)) t)) → Fr h₀ L h m → News h₀ L h ((I, oI) :: (C, oC) :: (ck, oc) :: (D, LCg.lst ys) :: news) → wpAny (model prog w) A (eval elt (compEnvC scope ((x, ck) :: cl) C env)) (CellEnd h₀ L m s₁ ((I, oI) :: (C, oC) :: (ck, oc) :: (D, LCg.lst ys) :: news) (fun y => P (i + 1) (ys ++ [y]))) E' { s₁ with heap := h, toks := tk }))
     (c11 : (∀ D ys h tk, P n ys → Fr h₀ L h m → News h₀ L h ((D, LCg.lst ys) :: news) → Q (.ref D) { s₁ with heap := h, toks := tk })) : CellSrc prog w A h₀ L m env elt x scope cl Q xv s₁
/-- a comprehension over a range whose own name a comprehension within it closes over -/
theorem comp_cell {elt iter : PySem.Expr} {x g p : Str} {px pos : Pos} {scope : Scope} {cl : List (Str × Addr)} {Q : Value → Shared → Prop} (hnm : scope.names = [(Str.ofString ".0", .local), (x, .cell), (g, .globalImplicit), (p, .free)]) (hkind : scope.kind = .function)
   (hclos : closureFor scope env = pure cl) (hs : ∀ y, foldedSetIterable iter env y = pure y) (hkx : (relabel scope env).names.lookup x = some .cell)
   (h : wpAny (model prog w) A (eval iter env) (CellSrc prog w A h₀ L m env elt x scope cl Q) E s) :
   wpAny (model prog w) A (eval (.ListComp elt [⟨.Name x px, iter, [], 0⟩] scope pos) env) Q E s := by
  rw [eval_ListComp]
  have hnames : ∀ y ∈ scope.names, y.2 = .local → scope.names.lookup y.1 = some .local := by
    rw [hnm]
    intro y hy hl
    simp only [List.mem_cons, List.not_mem_nil, or_false] at hy
    rcases hy with rfl | rfl | rfl | rfl
    · rfl
    · cases hl
    · cases hl
    · cases hl
  refine wpAny_comprehension_free (use := none) rfl hs hclos hkind hnames (wpAny_mono h (fun xv s₁ h₁ => ?_) fun _ _ e => e)
  obtain ⟨r, a, b, n, t, u, v, news, P, rfl, hh, F, N, hr, hsm, hn, hsz, P0, turn, fin⟩ := h₁
  refine wpAny_pyIter_range hr hsm ?_
  refine wpAny_newObj_type (new_env_k hnm ?_)
  have W := LCg.range_walks (prog := prog) (w := w) (A := A) (I := s₁.heap.objs.size) hh a n
  simp only [Heap.size_push]
  obtain ⟨I, eI⟩ : ∃ I, I = s₁.heap.objs.size := ⟨_, rfl⟩
  rw [← eI] at W ⊢
  have hLI : @LT.lt Nat _ L I := by rw [eI]; exact F.ns.lt
  have h₀I : h₀.objs.size ≤ I := Nat.le_of_lt (Nat.lt_of_le_of_lt F.above hLI)
  have hnI : ∀ p ∈ news, p.1 < I := fun p hp => by rw [eI]; exact Heap.lt_size (N p hp).1
  have fresh : ∀ b, I ≤ b → h₀.get? b = none := fun b hb => Heap.get?_none_of_le (Nat.le_trans h₀I hb)
  have frk : ∀ {h h' : Heap}, Fr h₀ L h m → (∀ b o, b < I → h.get? b = some o → h'.get? b = some o) → Fr h₀ L h' m := fun F' hk =>
    ⟨F'.ns.at' (fun o e => hk L o hLI e), fun b o e => hk b o (Nat.lt_of_lt_of_le (Heap.lt_size e) h₀I) (F'.keep b o e), F'.above⟩
  have nek : ∀ {h h' : Heap}, News h₀ L h news → (∀ b o, b < I → h.get? b = some o → h'.get? b = some o) → News h₀ L h' news := fun N' hk p hp => ⟨hk _ _ (hnI p hp) (N' p hp).1, (N' p hp).2⟩
  have it0 : IsRangeIter ((((s₁.heap.push { cls := .type "range_iterator", data := .fields #[rawInt a, rawInt (Builtin.Range.rangeSize a b 1), rawInt 1] }).push { cls := .type "list", data := .seq ([] : List Value).toArray }).push { cls := .type "dict", data := .dict #[] }).push (cellO none)) I (a + ((0 : Nat) : Int) * 1) ((n : Int) - ((0 : Nat) : Int)) 1 := by
    have e := Heap.get?_push_size s₁.heap (o := { cls := .type "range_iterator", data := .fields #[rawInt a, rawInt (Builtin.Range.rangeSize a b 1), rawInt 1] }) rfl
    have e2 := Heap.get?_push_of_some (cellO none) (Heap.get?_push_of_some { cls := .type "dict", data := .dict #[] } (Heap.get?_push_of_some { cls := .type "list", data := .seq ([] : List Value).toArray } e))
    rw [eI]
    simpa [IsRangeIter, hn] using e2
  have loop : ∀ s₃ : Shared, s₃ = { s₁ with heap := (((s₁.heap.push { cls := .type "range_iterator", data := .fields #[rawInt a, rawInt (Builtin.Range.rangeSize a b 1), rawInt 1] }).push { cls := .type "list", data := .seq ([] : List Value).toArray }).push { cls := .type "dict", data := .dict #[] }).push (cellO none) } →
      codeAny (model prog w) A (.compLoop (.ListComp elt [⟨.Name x px, iter, [], 0⟩] scope pos) 0 (.ref I) (.ref (I + 1)) (compEnvC scope ((x, I + 1 + 1 + 1) :: cl) (I + 1 + 1) env)) (compPost (model prog w) A E none Q (.ref (I + 1)) (I + 1 + 1)) s₃ := by
    rintro s₃ rfl
    refine codeAny_compLoop_tests
      (fun k s' => ∃ h' tk i ys m' cv oc, s' = { s₁ with heap := h', toks := tk } ∧ i ≤ n ∧ k = n + 1 - i ∧ ys.length = i ∧ IsRangeIter h' I (a + (i : Nat) * 1) ((n : Int) - (i : Nat)) 1 ∧ Fr h₀ L h' m ∧ h'.Ns (I + 1 + 1) m' ∧ h'.get? (I + 1 + 1 + 1) = some oc ∧ oc.data = .cell cv ∧
        h'.get? (I + 1) = some (LCg.lst ys) ∧ News h₀ L h' news ∧ P i ys) ?_ (n + 1) ?_
    · intro k s' hst0
      refine Classical.byContradiction fun hn0 => ?_
      obtain ⟨h', tk, i, ys, m', cv, oc, rfl, hi, rfl, hyl, hst', F', hn', hc', hcd', hD', N', hP'⟩ := hst0
      refine hn0 ?_
      clear hn0
      by_cases hlt : i < n
      · refine W.item i _ _ _ hlt hst' fun v h₂ tk₂ hPv hst₂ hk₂ => ?_
        obtain ⟨tv, rfl⟩ := hPv
        have k2 : ∀ b o, b ≠ I → h'.get? b = some o → h₂.get? b = some o := fun b o hb e => hk₂ b o (by simpa using hb) e
        refine wpAny_assign_Name (wpAny_storeName_cell (c := I + 1 + 1 + 1) (v₀ := cv) hkind hkx (by simp [compEnvC]) ⟨oc, k2 (I + 1 + 1 + 1) oc (by show @Ne Nat (I + 1 + 1 + 1) I; omega) hc', hcd'⟩ (fun h₃ hc₃ hs₃ => ?_))
        refine wpAny_tests_nil ?_
        simp only [if_true]
        obtain ⟨oc₃, hoc₃, hcd₃⟩ := hc₃
        have k3 : ∀ b o, b ≠ I → b ≠ I + 1 + 1 + 1 → h'.get? b = some o → h₃.get? b = some o := fun b o h1 h2 e => (hs₃.2 b h2).trans (k2 b o h1 e)
        have kI : ∀ b o, b < I → h'.get? b = some o → h₃.get? b = some o := fun b o h1 e => k3 b o (by omega) (by omega) e
        have st₃ : IsRangeIter h₃ I (a + ((i + 1 : Nat) : Int) * 1) ((n : Int) - ((i + 1 : Nat) : Int)) 1 := (hs₃.2 I (by show @Ne Nat I (I + 1 + 1 + 1); omega)).trans hst₂
        obtain ⟨oI, heI, hoI⟩ : ∃ o, h₃.get? I = some o ∧ ∀ h : Heap, h.get? I = some o → IsRangeIter h I (a + ((i + 1 : Nat) : Int) * 1) ((n : Int) - ((i + 1 : Nat) : Int)) 1 := ⟨_, st₃, fun _ e => e⟩
        have n₃ : h₃.Ns (I + 1 + 1) m' := hn'.at' fun o e => k3 _ o (by omega) (by omega) e
        obtain ⟨oC, heC, hoC⟩ := LCg.ns_obj n₃
        refine wpAny_mono (turn i ys hlt hP' I (I + 1 + 1) (I + 1 + 1 + 1) (I + 1) oI oC oc₃ tv h₃ _ _ hcd₃ (frk F' kI) (fun p hp => ?_)) (fun y s₄ h₄ => ?_) fun _ _ e => e
        · rcases List.mem_cons.mp hp with rfl | hp
          · exact ⟨heI, by show @Ne Nat (I) (L); omega, fresh _ (Nat.le_refl _)⟩
          · rcases List.mem_cons.mp hp with rfl | hp
            · exact ⟨heC, by show @Ne Nat (I + 1 + 1) (L); omega, fresh _ (by omega)⟩
            · rcases List.mem_cons.mp hp with rfl | hp
              · exact ⟨hoc₃, by show @Ne Nat (I + 1 + 1 + 1) (L); omega, fresh _ (by omega)⟩
              · rcases List.mem_cons.mp hp with rfl | hp
                · exact ⟨k3 (I + 1) _ (by omega) (by omega) hD', by show @Ne Nat (I + 1) (L); omega, fresh _ (by omega)⟩
                · exact nek N' kI p hp
        · obtain ⟨h₄, tk₄, rfl, F₄, N₄, P₄⟩ := h₄
          have zI := (N₄ _ (.head _)).1
          have zC := (N₄ _ (.tail _ (.head _))).1
          have zc := (N₄ _ (.tail _ (.tail _ (.head _)))).1
          have zD := (N₄ _ (.tail _ (.tail _ (.tail _ (.head _))))).1
          have N₄' : News h₀ L h₄ news := fun p hp => N₄ p (.tail _ (.tail _ (.tail _ (.tail _ hp))))
          refine append_at (hsz := by show ys.toArray.size ≤ sizeLine; rw [List.size_toArray, hyl, sizeLine_eq]; omega) zD fun h₅ hs₅ hD₅ => ?_
          have kI5 : ∀ b o, b < I → h₄.get? b = some o → h₅.get? b = some o := fun b o h1 e => (hs₅.2 b (by show b ≠ I + 1; omega)).trans e
          exact ⟨n + 1 - (i + 1), by omega, h₅, tk₄, i + 1, ys ++ [y], m', _, oc₃, rfl, hlt, rfl, by rw [List.length_append, List.length_singleton, hyl], hoI _ ((hs₅.2 I (by show @Ne Nat (I) (I + 1); omega)).trans zI), frk F₄ kI5, (hoC.ns zC).at' (fun o e => (hs₅.2 _ (by show @Ne Nat (I + 1 + 1) (I + 1); omega)).trans e),
            (hs₅.2 _ (by show @Ne Nat (I + 1 + 1 + 1) (I + 1); omega)).trans zc, hcd₃, hD₅.trans (congrArg some (LCg.lst_snoc ys y)), nek N₄' kI5, P₄⟩
      · obtain rfl : i = n := Nat.le_antisymm hi (Nat.not_lt.mp hlt)
        refine W.done _ _ _ hst' fun h₂ tk₂ hk₂ => ?_
        have k2 : ∀ b o, b ≠ I → h'.get? b = some o → h₂.get? b = some o := fun b o hb e => hk₂ b o (by simpa using hb) e
        refine ⟨m', hn'.at' fun o e => k2 _ o (by omega) e, fun h'' hs'' => ?_⟩
        have kI : ∀ b o, b < I → h'.get? b = some o → h''.get? b = some o := fun b o h1 e => (hs''.2 b (by show b ≠ I + 1 + 1; omega)).trans (k2 b o (by omega) e)
        refine fin (I + 1) ys h'' tk₂ hP' (frk F' kI) fun p hp => ?_
        rcases List.mem_cons.mp hp with rfl | hp
        · exact ⟨(hs''.2 _ (by show @Ne Nat (I + 1) (I + 1 + 1); omega)).trans (k2 (I + 1) _ (by show @Ne Nat (I + 1) I; omega) hD'), by show @Ne Nat (I + 1) (L); omega, fresh _ (by omega)⟩
        · exact nek N' kI p hp
    · have up : ∀ q o, s₁.heap.get? q = some o → ((((s₁.heap.push { cls := .type "range_iterator", data := .fields #[rawInt a, rawInt (Builtin.Range.rangeSize a b 1), rawInt 1] }).push { cls := .type "list", data := .seq ([] : List Value).toArray }).push { cls := .type "dict", data := .dict #[] }).push (cellO none)).get? q = some o :=
        fun q o e => Heap.get?_push_of_some _ (Heap.get?_push_of_some _ (Heap.get?_push_of_some _ (Heap.get?_push_of_some _ e)))
      have s1 : (s₁.heap.push { cls := .type "range_iterator", data := .fields #[rawInt a, rawInt (Builtin.Range.rangeSize a b 1), rawInt 1] }).objs.size = I + 1 := by rw [Heap.size_push, eI]
      have s2 : ((s₁.heap.push { cls := .type "range_iterator", data := .fields #[rawInt a, rawInt (Builtin.Range.rangeSize a b 1), rawInt 1] }).push { cls := .type "list", data := .seq ([] : List Value).toArray }).objs.size = I + 1 + 1 := by rw [Heap.size_push, s1]
      have s3 : (((s₁.heap.push { cls := .type "range_iterator", data := .fields #[rawInt a, rawInt (Builtin.Range.rangeSize a b 1), rawInt 1] }).push { cls := .type "list", data := .seq ([] : List Value).toArray }).push { cls := .type "dict", data := .dict #[] }).objs.size = I + 1 + 1 + 1 := by rw [Heap.size_push, s2]
      refine ⟨_, _, 0, [], (fun _ => none), none, cellO none, rfl, Nat.zero_le _, rfl, rfl, ?_, F.keeps up, ?n1, ?_, rfl, ?_, fun p hp => ⟨up _ _ (N p hp).1, (N p hp).2⟩, P0⟩
      · exact it0
      case n1 => rw [← s2]; exact (Heap.Ns.new _ _).at' fun o e => Heap.get?_push_of_some _ e
      · rw [← s3]; exact Heap.get?_push_size _ rfl
      · rw [← s1]; exact Heap.get?_push_of_some _ (Heap.get?_push_of_some _ (Heap.get?_push_size _ rfl))
  exact codeAny_compStart_list (loop _ rfl) (W.self 0 _ _ _ it0 (loop _ rfl))
end
end Mine

end
-- Rx1
section
open PySem PySem.Sre
set_option maxRecDepth 100000
set_option maxHeartbeats 8000000
namespace Mine
theorem fresh_Rx1 : True := by
  w_top off
  k_with_none
  k_with "omega" => lia
  trivial
theorem run_done {m : M} (h : m.outcome.isSome = true) : ∀ n, M.runFor n m = m
  | 0 => rfl
  | n + 1 => by show (if m.outcome.isSome then m else _) = m; rw [if_pos h]
theorem run_add : ∀ (a b : Nat) (m : M), M.runFor (a + b) m = M.runFor b (M.runFor a m)
  | 0, b, m => by rw [Nat.zero_add]; rfl
  | a + 1, b, m => by
    rw [show a + 1 + b = (a + b) + 1 by omega]
    show (if m.outcome.isSome then m else M.runFor (a + b) m.step) = M.runFor b (if m.outcome.isSome then m else M.runFor a m.step)
    by_cases h : m.outcome.isSome = true
    · rw [if_pos h, if_pos h, run_done h]
    · rw [if_neg h, if_neg h, run_add a b]
def Ends (m : M) (k : Nat) (P : M → Prop) : Prop := ∃ n, n ≤ k ∧ (M.runFor n m).outcome.isSome = true ∧ P (M.runFor n m)
theorem Ends.via {m m' : M} {k : Nat} {P : M → Prop} (h : m.outcome = none) (e : m.step = m') (r : Ends m' k P) : Ends m (k + 1) P := by
  obtain ⟨n, hn, ho, hp⟩ := r
  have q : M.runFor (n + 1) m = M.runFor n m' := by
    show (if m.outcome.isSome then m else M.runFor n m.step) = _
    rw [h, e]; rfl
  exact ⟨n + 1, by omega, by rw [q]; exact ho, by rw [q]; exact hp⟩
theorem Ends.more {m : M} {k k' : Nat} {P : M → Prop} (r : Ends m k P) (h : k ≤ k') : Ends m k' P := by
  obtain ⟨n, hn, x⟩ := r
  exact ⟨n, by omega, x⟩
theorem Ends.now {m : M} {P : M → Prop} (ho : m.outcome.isSome = true) (hp : P m) : Ends m 0 P := ⟨0, Nat.le_refl _, ho, hp⟩
def Found (b e : Nat) (m : M) : Prop := m.outcome = some .matched ∧ m.start = b ∧ m.handed = e
def Missed (m : M) : Prop := m.outcome = some .failed
theorem unwind : ∀ (fs : List Sre.Frame) (m : M), m.frames = fs → m.outcome = none → m.answer = some true → (∀ f ∈ fs, f.wait = .nextStart ∨ f.wait = .nextBranch) → Ends m (fs.length + 1) (Found m.start m.handed)
  | [], m, hf, ho, ha, _ => by
    refine Ends.via (m' := { m with outcome := some .matched }) ho ?_ (Ends.now rfl ⟨rfl, rfl, rfl⟩)
    unfold M.step
    rw [ho, ha, hf]; rfl
  | f :: fs, m, hf, ho, ha, hw => by
    have e : m.step = { m with answer := some true, frames := fs, weight := m.weight - (1 + f.kept.marks.size), pc := f.pc, pos := f.pos, outermost := f.outermost } := by
      unfold M.step
      rw [ho, ha, hf]
      show M.resume _ f true = _
      unfold M.resume
      rcases hw f (.head _) with q | q <;> rw [q] <;> rfl
    exact Ends.via ho e (unwind fs _ rfl ho rfl fun g hg => hw g (.tail _ hg))
theorem step_lit (m : M) (ho : m.outcome = none) (ha : m.answer = none) (hz : m.pc < m.code.size) (hw : ops[m.code.getD (m.pc + 0) 0]? = some .LITERAL) (hp : m.pos < m.lim) (hc : m.text.getD m.pos 0 = m.code.getD (m.pc + 1) 0) :
    ∃ sn, m.step = { m with seen := sn, pc := m.pc + 2, pos := m.pos + 1 } := by
  have hw' : ops[m.code.getD m.pc 0]? = some .LITERAL := hw
  refine ⟨m.seen.add (m.word 0), ?_⟩
  unfold M.step
  rw [ho, ha]
  simp only [Option.isSome_none, Bool.false_eq_true, if_false, if_pos hz]
  unfold M.exec
  rw [show ops[m.word 0]? = some .LITERAL from hw]
  simp only [ge_iff_le, if_neg (Nat.not_le.mpr hp)]
  unfold accepts
  simp only [hw', hc, beq_self_eq_true]
  unfold itemWidth
  simp only [hw', ho, ha]
theorem step_nolit (m : M) (ho : m.outcome = none) (ha : m.answer = none) (hz : m.pc < m.code.size) (hw : ops[m.code.getD (m.pc + 0) 0]? = some .LITERAL) (hc : m.pos < m.lim → m.text.getD m.pos 0 ≠ m.code.getD (m.pc + 1) 0) :
    ∃ sn, m.step = { m with seen := sn, answer := some false } := by
  have hw' : ops[m.code.getD m.pc 0]? = some .LITERAL := hw
  refine ⟨m.seen.add (m.word 0), ?_⟩
  unfold M.step
  rw [ho, ha]
  simp only [Option.isSome_none, Bool.false_eq_true, if_false, if_pos hz]
  unfold M.exec
  rw [show ops[m.word 0]? = some .LITERAL from hw]
  by_cases hp : m.pos < m.lim
  · simp only [ge_iff_le, if_neg (Nat.not_le.mpr hp)]
    unfold accepts
    simp only [hw', beq_false_of_ne (hc hp)]
    unfold M.say
    simp only [ho]
  · simp only [ge_iff_le, if_pos (Nat.le_of_not_lt hp)]
    unfold M.say
    simp only [ho]
end Mine

end
-- Rx2
section
open PySem PySem.Sre
set_option maxRecDepth 100000
set_option maxHeartbeats 8000000
namespace Mine
theorem fresh_Rx2 : True := by
  w_top off
  k_with_none
  k_with "omega" => lia
  trivial
def C2 : Array Nat := #[14, 9, 4, 1, 2, 16, 10, 16, 13, 0, 7, 7, 16, 13, 16, 10, 15, 18, 5, 16, 10, 15, 13, 11, 16, 13, 5, 5, 0, 16, 10, 1, 15, 2, 0, 1]
def Z (T : Array Nat) (lim b pc pos ha : Nat) (om : Bool) (frames : List Sre.Frame) (weight : Nat) (ans : Option Bool) (sn : Seen) : M :=
  { code := C2, text := T, lim := lim, start := b, lastStart := lim, mustAdvance := false, pc := pc, pos := pos, handed := ha, outermost := om, marks := #[], frames := frames, weight := weight, answer := ans, seen := sn }
def F0 (b : Nat) : Sre.Frame := { wait := .nextStart, pc := 10, pos := b, outermost := true }
def NB (pc b : Nat) : Sre.Frame := { wait := .nextBranch, pc := pc, pos := b, outermost := true }
def LN (b : Nat) : Sre.Frame := { wait := .lookNot, pc := 26, pos := b, outermost := true }
section
variable {T : Array Nat} {lim b : Nat}
theorem z_branch (sn : Seen) : ∃ sn', (Z T lim b 10 b b true [F0 b] 1 none sn).step = Z T lim b 12 b b true [NB 11 b, F0 b] 2 none sn' := ⟨_, rfl⟩
theorem z_jump1 {pos ha : Nat} {fs : List Sre.Frame} {wt : Nat} (sn : Seen) : ∃ sn', (Z T lim b 16 pos ha true fs wt none sn).step = Z T lim b 35 pos ha true fs wt none sn' := ⟨_, rfl⟩
theorem z_jump2 {pos ha : Nat} {fs : List Sre.Frame} {wt : Nat} (sn : Seen) : ∃ sn', (Z T lim b 21 pos ha true fs wt none sn).step = Z T lim b 35 pos ha true fs wt none sn' := ⟨_, rfl⟩
theorem z_jump3 {pos ha : Nat} {fs : List Sre.Frame} {wt : Nat} (sn : Seen) : ∃ sn', (Z T lim b 32 pos ha true fs wt none sn).step = Z T lim b 35 pos ha true fs wt none sn' := ⟨_, rfl⟩
theorem z_success {pos ha : Nat} {fs : List Sre.Frame} {wt : Nat} (sn : Seen) : ∃ sn', (Z T lim b 35 pos ha true fs wt none sn).step = Z T lim b 35 pos pos true fs wt (some true) sn' := ⟨_, rfl⟩
theorem z_lit (pc pos ha : Nat) (om : Bool) (fs : List Sre.Frame) (wt : Nat) (sn : Seen) (hz : pc < 36) (hw : ops[C2.getD (pc + 0) 0]? = some .LITERAL) (hp : pos < lim) (hc : T.getD pos 0 = C2.getD (pc + 1) 0) :
    ∃ sn', (Z T lim b pc pos ha om fs wt none sn).step = Z T lim b (pc + 2) (pos + 1) ha om fs wt none sn' := by
  obtain ⟨x, e⟩ := step_lit (Z T lim b pc pos ha om fs wt none sn) rfl rfl hz hw hp hc
  exact ⟨x, e⟩
theorem z_nolit (pc pos ha : Nat) (om : Bool) (fs : List Sre.Frame) (wt : Nat) (sn : Seen) (hz : pc < 36) (hw : ops[C2.getD (pc + 0) 0]? = some .LITERAL) (hc : pos < lim → T.getD pos 0 ≠ C2.getD (pc + 1) 0) :
    ∃ sn', (Z T lim b pc pos ha om fs wt none sn).step = Z T lim b pc pos ha om fs wt (some false) sn' := by
  obtain ⟨x, e⟩ := step_nolit (Z T lim b pc pos ha om fs wt none sn) rfl rfl hz hw hc
  exact ⟨x, e⟩
theorem z_next1 {pc pos ha : Nat} (sn : Seen) : ∃ sn', (Z T lim b pc pos ha true [NB 11 b, F0 b] 2 (some false) sn).step = Z T lim b 19 b b true [NB 18 b, F0 b] 2 none sn' := ⟨_, rfl⟩
theorem z_next2 {pc pos ha : Nat} (sn : Seen) : ∃ sn', (Z T lim b pc pos ha true [NB 18 b, F0 b] 2 (some false) sn).step = Z T lim b 24 b b true [NB 23 b, F0 b] 2 none sn' := ⟨_, rfl⟩
theorem z_look {ha : Nat} (sn : Seen) : ∃ sn', (Z T lim b 26 (b + 1) ha true [NB 23 b, F0 b] 2 none sn).step = Z T lim b 29 (b + 1) (b + 1) false [LN (b + 1), NB 23 b, F0 b] 3 none sn' := ⟨_, rfl⟩
theorem z_looked {pc pos ha : Nat} {om : Bool} (sn : Seen) : ∃ sn', (Z T lim b pc pos ha om [LN (b + 1), NB 23 b, F0 b] 3 (some false) sn).step = Z T lim b 32 (b + 1) ha true [NB 23 b, F0 b] 2 none sn' := ⟨_, rfl⟩
theorem z_end {e : Nat} {alt : Nat} {ha wt : Nat} (sn : Seen) : Ends (Z T lim b 35 e ha true [NB alt b, F0 b] wt none sn) 4 (Found b e) := by
  obtain ⟨s1, e1⟩ := z_success (T := T) (lim := lim) (b := b) (pos := e) (ha := ha) (fs := [NB alt b, F0 b]) (wt := wt) sn
  exact Ends.via rfl e1 (unwind [NB alt b, F0 b] _ rfl rfl rfl (by intro f hf; simp only [List.mem_cons, List.not_mem_nil, or_false] at hf; rcases hf with rfl | rfl <;> simp [NB, F0]))
theorem found_crlf (h1 : b + 1 < lim) (h2 : T.getD b 0 = 13) (h3 : T.getD (b + 1) 0 = 10) (sn : Seen) : Ends (Z T lim b 10 b b true [F0 b] 1 none sn) 8 (Found b (b + 2)) := by
  obtain ⟨s1, e1⟩ := z_branch (T := T) (lim := lim) (b := b) sn
  refine Ends.via rfl e1 ?_
  obtain ⟨s2, e2⟩ := z_lit (T := T) (lim := lim) (b := b) 12 b b true [NB 11 b, F0 b] 2 s1 (by decide) (by rfl) (by omega) h2
  refine Ends.via rfl e2 ?_
  obtain ⟨s3, e3⟩ := z_lit (T := T) (lim := lim) (b := b) 14 (b + 1) b true [NB 11 b, F0 b] 2 s2 (by decide) (by rfl) (by omega) h3
  refine Ends.via rfl e3 ?_
  obtain ⟨s4, e4⟩ := z_jump1 (T := T) (lim := lim) (b := b) (pos := b + 2) (ha := b) (fs := [NB 11 b, F0 b]) (wt := 2) s3
  exact Ends.via rfl e4 (z_end s4)
theorem found_lf (h1 : b < lim) (h2 : T.getD b 0 = 10) (sn : Seen) : Ends (Z T lim b 10 b b true [F0 b] 1 none sn) 9 (Found b (b + 1)) := by
  obtain ⟨s1, e1⟩ := z_branch (T := T) (lim := lim) (b := b) sn
  refine Ends.via rfl e1 ?_
  obtain ⟨s2, e2⟩ := z_nolit (T := T) (lim := lim) (b := b) 12 b b true [NB 11 b, F0 b] 2 s1 (by decide) (by rfl) (fun _ => by rw [h2]; decide)
  refine Ends.via rfl e2 ?_
  obtain ⟨s3, e3⟩ := z_next1 (T := T) (lim := lim) (b := b) (pc := 12) (pos := b) (ha := b) s2
  refine Ends.via rfl e3 ?_
  obtain ⟨s4, e4⟩ := z_lit (T := T) (lim := lim) (b := b) 19 b b true [NB 18 b, F0 b] 2 s3 (by decide) (by rfl) h1 h2
  refine Ends.via rfl e4 ?_
  obtain ⟨s5, e5⟩ := z_jump2 (T := T) (lim := lim) (b := b) (pos := b + 1) (ha := b) (fs := [NB 18 b, F0 b]) (wt := 2) s4
  exact Ends.via rfl e5 (z_end s5)
theorem found_cr (h1 : b < lim) (h2 : T.getD b 0 = 13) (h3 : b + 1 < lim → T.getD (b + 1) 0 ≠ 10) (sn : Seen) : Ends (Z T lim b 10 b b true [F0 b] 1 none sn) 20 (Found b (b + 1)) := by
  obtain ⟨s1, e1⟩ := z_branch (T := T) (lim := lim) (b := b) sn
  refine Ends.via rfl e1 ?_
  obtain ⟨s2, e2⟩ := z_lit (T := T) (lim := lim) (b := b) 12 b b true [NB 11 b, F0 b] 2 s1 (by decide) (by rfl) h1 h2
  refine Ends.via rfl e2 ?_
  obtain ⟨s3, e3⟩ := z_nolit (T := T) (lim := lim) (b := b) 14 (b + 1) b true [NB 11 b, F0 b] 2 s2 (by decide) (by rfl) h3
  refine Ends.via rfl e3 ?_
  obtain ⟨s4, e4⟩ := z_next1 (T := T) (lim := lim) (b := b) (pc := 14) (pos := b + 1) (ha := b) s3
  refine Ends.via rfl e4 ?_
  obtain ⟨s5, e5⟩ := z_nolit (T := T) (lim := lim) (b := b) 19 b b true [NB 18 b, F0 b] 2 s4 (by decide) (by rfl) (fun _ => by rw [h2]; decide)
  refine Ends.via rfl e5 ?_
  obtain ⟨s6, e6⟩ := z_next2 (T := T) (lim := lim) (b := b) (pc := 19) (pos := b) (ha := b) s5
  refine Ends.via rfl e6 ?_
  obtain ⟨s7, e7⟩ := z_lit (T := T) (lim := lim) (b := b) 24 b b true [NB 23 b, F0 b] 2 s6 (by decide) (by rfl) h1 h2
  refine Ends.via rfl e7 ?_
  obtain ⟨s8, e8⟩ := z_look (T := T) (lim := lim) (b := b) (ha := b) s7
  refine Ends.via rfl e8 ?_
  obtain ⟨s9, e9⟩ := z_nolit (T := T) (lim := lim) (b := b) 29 (b + 1) (b + 1) false [LN (b + 1), NB 23 b, F0 b] 3 s8 (by decide) (by rfl) h3
  refine Ends.via rfl e9 ?_
  obtain ⟨s10, e10⟩ := z_looked (T := T) (lim := lim) (b := b) (pc := 29) (pos := b + 1) (ha := b + 1) (om := false) s9
  refine Ends.via rfl e10 ?_
  obtain ⟨s11, e11⟩ := z_jump3 (T := T) (lim := lim) (b := b) (pos := b + 1) (ha := b + 1) (fs := [NB 23 b, F0 b]) (wt := 2) s10
  exact Ends.more (Ends.via rfl e11 (z_end s11)) (by omega)
end
theorem inSet2 (c : Nat) (sn : Seen) : ∃ sn', inSet C2 c 36 5 true sn = .ok (c == 10 || c == 13, sn') := by
  by_cases h : c = 10
  · subst h; exact ⟨_, rfl⟩
  · by_cases h' : c = 13
    · subst h'; exact ⟨_, rfl⟩
    · refine ⟨((sn.add 16).add 16).add 0, ?_⟩
      have e : inSet C2 c 36 5 true sn = if (c == 10) = true then .ok (true, sn.add 16) else if (c == 13) = true then .ok (true, (sn.add 16).add 16) else .ok (false, ((sn.add 16).add 16).add 0) := rfl
      rw [e, beq_false_of_ne h, beq_false_of_ne h']
      rfl
def nl (c : Nat) : Bool := c == 10 || c == 13
theorem adm_some (m : M) (hc : m.code = C2) (b : Nat) (hb : b < m.lim) (hn : nl (m.text.getD b 0) = true) : ∀ (fuel s : Nat) (sn : Seen), s ≤ b → b - s < fuel → (∀ j, s ≤ j → j < b → nl (m.text.getD j 0) = false) → ∃ sn', M.admitted m fuel s sn = .ok (some b, sn')
  | 0, s, sn, _, h, _ => absurd h (Nat.not_lt_zero _)
  | fuel + 1, s, sn, hs, hf, hj => by
    unfold M.admitted
    rw [if_neg (show ¬ s ≥ m.lim by omega)]
    obtain ⟨sn', e⟩ := inSet2 (m.text.getD s 0) sn
    rw [hc, show C2.size = 36 from rfl, e]
    by_cases q : s = b
    · subst q
      rw [show (m.text.getD s 0 == 10 || m.text.getD s 0 == 13) = true from hn]
      exact ⟨_, rfl⟩
    · rw [show (m.text.getD s 0 == 10 || m.text.getD s 0 == 13) = false from hj s (Nat.le_refl _) (by omega)]
      exact adm_some m hc b hb hn fuel (s + 1) sn' (by omega) (by omega) fun j h1 h2 => hj j (by omega) h2
theorem adm_none (m : M) (hc : m.code = C2) : ∀ (fuel s : Nat) (sn : Seen), (∀ j, s ≤ j → j < m.lim → nl (m.text.getD j 0) = false) → ∃ sn', M.admitted m fuel s sn = .ok (none, sn')
  | 0, s, sn, _ => ⟨_, rfl⟩
  | fuel + 1, s, sn, hj => by
    unfold M.admitted
    by_cases h : s ≥ m.lim
    · rw [if_pos h]; exact ⟨_, rfl⟩
    · rw [if_neg h]
      obtain ⟨sn', e⟩ := inSet2 (m.text.getD s 0) sn
      rw [hc, show C2.size = 36 from rfl, e]
      rw [show (m.text.getD s 0 == 10 || m.text.getD s 0 == 13) = false from hj s (Nat.le_refl _) (by omega)]
      exact adm_none m hc fuel (s + 1) sn' fun j h1 h2 => hj j (by omega) h2
def M2 (T : Array Nat) (lim s : Nat) (must : Bool) (sn : Seen) : M :=
  { code := C2, text := T, lim := lim, start := s, lastStart := lim, pc := 10, pos := s, handed := s, marks := #[], mustAdvance := must, seen := sn }
theorem search2 (T : Array Nat) (lim s : Nat) (must : Bool) (h : s < lim) : ∃ sn, forSearch C2 T 0 s lim must = M.attemptFrom (M2 T lim s must sn) s true := by
  refine ⟨({} : Seen).add 14, ?_⟩
  show (if (decide (s > lim) || decide (lim - s < 1)) = true then _ else _) = _
  rw [if_neg (by simp; omega)]
  rfl
theorem missed_say (m : M) (hf : m.frames = []) (ho : m.outcome = none) : Ends (m.say false) 1 Missed := by
  refine Ends.via (m' := { m with frames := [], answer := some false, outcome := some .failed }) ho ?_ (Ends.now rfl rfl)
  unfold M.step
  rw [show (m.say false).outcome = none from ho, show (m.say false).answer = some false from rfl, show (m.say false).frames = [] from hf]
  rfl
theorem search2_end (T : Array Nat) (lim : Nat) (must : Bool) : Ends (forSearch C2 T 0 lim lim must) 1 Missed := by
  have e : forSearch C2 T 0 lim lim must = if (decide (lim > lim) || decide (lim - lim < 1)) = true then M.say { M2 T lim lim must (({} : Seen).add 14) with lastStart := 0 } false else M.attemptFrom (M2 T lim lim must (({} : Seen).add 14)) lim true := rfl
  rw [e, if_pos (by simp)]
  exact missed_say _ rfl rfl
theorem search2_none (T : Array Nat) (lim s : Nat) (must : Bool) (h : s ≤ lim) (hj : ∀ j, s ≤ j → j < lim → nl (T.getD j 0) = false) : Ends (forSearch C2 T 0 s lim must) 1 Missed := by
  by_cases q : s = lim
  · subst q; exact search2_end T s must
  · obtain ⟨sn, e⟩ := search2 T lim s must (by omega)
    rw [e]
    obtain ⟨sn', e'⟩ := adm_none (M2 T lim s must sn) rfl (lim + 1 - s) s sn hj
    unfold M.attemptFrom
    rw [show (M2 T lim s must sn).hasFirstSet = true from rfl]
    simp only [Bool.not_true, Bool.false_eq_true, if_false]
    rw [show M.admitted (M2 T lim s must sn) ((M2 T lim s must sn).lim + 1 - s) s (M2 T lim s must sn).seen = .ok (none, sn') from e']
    exact missed_say _ rfl rfl
theorem search2_some (T : Array Nat) (lim s b e : Nat) (must : Bool) (hs : s ≤ b) (hb : b < lim) (hj : ∀ j, s ≤ j → j < b → nl (T.getD j 0) = false)
    (hc : (e = b + 2 ∧ b + 1 < lim ∧ T.getD b 0 = 13 ∧ T.getD (b + 1) 0 = 10) ∨ (e = b + 1 ∧ T.getD b 0 = 10) ∨ (e = b + 1 ∧ T.getD b 0 = 13 ∧ (b + 1 < lim → T.getD (b + 1) 0 ≠ 10))) :
    Ends (forSearch C2 T 0 s lim must) 20 (Found b e) := by
  have hn : nl (T.getD b 0) = true := by
    rcases hc with ⟨_, _, q, _⟩ | ⟨_, q⟩ | ⟨_, q, _⟩ <;> rw [q] <;> rfl
  obtain ⟨sn, e0⟩ := search2 T lim s must (by omega)
  rw [e0]
  obtain ⟨sn', e'⟩ := adm_some (M2 T lim s must sn) rfl b hb hn (lim + 1 - s) s sn hs (by omega) hj
  unfold M.attemptFrom
  rw [show (M2 T lim s must sn).hasFirstSet = true from rfl]
  simp only [Bool.not_true, Bool.false_eq_true, if_false]
  rw [show M.admitted (M2 T lim s must sn) ((M2 T lim s must sn).lim + 1 - s) s (M2 T lim s must sn).seen = .ok (some b, sn') from e']
  show Ends (Z T lim b 10 b b true [F0 b] 1 none sn') 20 _
  rcases hc with ⟨rfl, h1, h2, h3⟩ | ⟨rfl, h2⟩ | ⟨rfl, h2, h3⟩
  · exact Ends.more (found_crlf h1 h2 h3 sn') (by omega)
  · exact Ends.more (found_lf hb h2 sn') (by omega)
  · exact found_cr hb h2 h3 sn'
end Mine

end
-- Rx3
section
open PySem PySem.W PyProof.Rows PySem.Calls
open PySem.Builtin.Re
set_option maxRecDepth 100000
set_option maxHeartbeats 8000000
namespace Mine
theorem fresh_Rx3 : True := by
  w_top off
  k_with_none
  k_with "omega" => lia
  trivial
theorem run_same {m : Sre.M} {a b : Nat} (ha : (Sre.M.runFor a m).outcome.isSome = true) (hb : (Sre.M.runFor b m).outcome.isSome = true) : Sre.M.runFor a m = Sre.M.runFor b m := by
  rcases Nat.le_total a b with h | h
  · obtain ⟨k, rfl⟩ := Nat.le.dest h
    rw [run_add, run_done ha]
  · obtain ⟨k, rfl⟩ := Nat.le.dest h
    rw [run_add, run_done hb]
section
variable {MM : Model} {A : Around} {E : Value → Shared → Prop} {s : Shared}
theorem wp_drive {Q : Sre.M → Shared → Prop} : ∀ (t : Nat) (m : Sre.M) (n : Nat), (Sre.M.runFor n m).outcome.isSome = true → n ≤ 4 * (t + 1) → Q (Sre.M.runFor n m) s → wpAny MM A (reDrive (t + 1) m) Q E s
  | t, m, n, ho, hn, hq => by
    show wpAny MM A (if (Sre.M.runFor 4 m).outcome.isSome then pure (Sre.M.runFor 4 m) else do rule "sre.turn"; reDrive t (Sre.M.runFor 4 m)) Q E s
    by_cases h : (Sre.M.runFor 4 m).outcome.isSome = true
    · rw [if_pos h, run_same h ho]; exact wpAny_pure hq
    · rw [if_neg h]
      have h4 : 4 < n := by
        rcases Nat.lt_or_ge 4 n with q | q
        · exact q
        · exfalso
          obtain ⟨k, e⟩ := Nat.le.dest q
          apply h
          rw [← e, run_add, run_done ho]; exact ho
      obtain ⟨k, rfl⟩ := Nat.le.dest (Nat.le_of_lt h4)
      rw [run_add] at ho hq
      refine wpAny_bind (wpAny_rule ?_)
      cases t with
      | zero => omega
      | succ t => exact wp_drive t _ k ho (by omega) hq
theorem wp_toEnd {Q : Option Sre.M → Shared → Prop} {m : Sre.M} {k : Nat} {P : Sre.M → Prop} (r : Ends m k P) (hk : k ≤ 2 ^ 40) (hP : ∀ m', P m' → (m'.outcome = some .matched ∧ Q (some m') s) ∨ (m'.outcome = some .failed ∧ Q none s)) :
    wpAny MM A (reRunToEnd m) Q E s := by
  obtain ⟨n, hn, ho, hp⟩ := r
  unfold reRunToEnd
  obtain ⟨t, ht⟩ : ∃ t, 2 ^ 64 = t + 1 := ⟨2 ^ 64 - 1, by omega⟩
  rw [ht]
  refine wpAny_bind (wp_drive t m n ho (by omega) ?_)
  refine wpAny_bind (wpAny_forIn_list _ (fun _ _ s' => s' = s) _ ?_ ?_ _ _ rfl)
  · rintro x rest b s' rfl
    split
    · exact wpAny_bind (wpAny_rule (wpAny_pure rfl))
    · exact wpAny_pure rfl
  · rintro b s' rfl
    rcases hP _ hp with ⟨e, q⟩ | ⟨e, q⟩ <;> rw [e] <;> exact wpAny_pure q
end
end Mine

end
-- Rx4
section
open PySem PySem.W PyProof.Rows PySem.Calls
open PySem.Builtin.Re
set_option maxRecDepth 100000
set_option maxHeartbeats 8000000
namespace Mine
theorem fresh_Rx4 : True := by
  w_top off
  k_with_none
  k_with "omega" => lia
  trivial
theorem entry_sub_loop : entryFor table "re.Pattern.sub.loop" = some Builtin.«re.Pattern.sub.loop» := entryFor_of_tree (by kernel_rfl)
theorem entry_re_sub : entryFor table "re.Pattern.sub" = some Builtin.«re.Pattern.sub» := entryFor_of_tree (by kernel_rfl)
theorem plainAttrs_re : PlainAttrs "re.Pattern" :=
  ⟨⟨"object.__getattribute__", by rw [typeLookup_type, builtinLookup_eq_fast]; kernel_rfl, by decide +kernel⟩, by rw [typeLookup_type, builtinLookup_eq_fast]; kernel_rfl⟩
theorem slot_re_sub : Slot "re.Pattern" "sub" "re.Pattern.sub" :=
  .of (owner := "re.Pattern") (n := "sub") (by rw [typeLookup_type, builtinLookup_eq_fast]; kernel_rfl) (by decide +kernel) (by decide +kernel) (by decide +kernel)
    (by first | exact .inl (by decide +kernel) | exact .inr (by decide +kernel)) (by rw [isSubtype_type]; kernel_rfl)
theorem type_re_sub : typeOf (.builtin "re.Pattern.sub") = pure (.type "method_descriptor") := by show builtinType _ = _; rw [builtinType_eq_fast]; kernel_rfl
/-- the pattern stands: its object, and the tuple of its code -/
def PatAt (h : Heap) (p : Addr) (code : Array Nat) : Prop :=
  ∃ a b c d e tu its n, h.get? p = some { cls := .type "re.Pattern", data := .fields #[a, b, .int 0 c, d, e, .ref tu, .int 0 0] } ∧ h.get? tu = some { cls := .type "tuple", data := .seq its n } ∧ (its.map reRawOf).map (·.toNat) = code
theorem PatAt.keeps {h h' : Heap} {p : Addr} {code : Array Nat} (P : PatAt h p code) (hk : ∀ b o, h.get? b = some o → h'.get? b = some o) : PatAt h' p code := by
  obtain ⟨a, b, c, d, e, tu, its, n, h1, h2, h3⟩ := P
  exact ⟨a, b, c, d, e, tu, its, n, hk _ _ h1, hk _ _ h2, h3⟩
theorem PatAt.but {h h' : Heap} {p lp : Addr} {code : Array Nat} {vs : Array Value} {nn : Nat} (P : PatAt h p code) (hl : h.get? lp = some (listOf vs nn)) (hk : ∀ b, b ≠ lp → h'.get? b = h.get? b) : PatAt h' p code := by
  obtain ⟨a, b, c, d, e, tu, its, n, h1, h2, h3⟩ := P
  refine ⟨a, b, c, d, e, tu, its, n, (hk _ ?_).trans h1, (hk _ ?_).trans h2, h3⟩
  · rintro rfl; rw [hl] at h1; exact absurd (show Value.type "list" = Value.type "re.Pattern" from congrArg Obj.cls (Option.some.inj h1)) (by decide)
  · rintro rfl; rw [hl] at h2; exact absurd (show Value.type "list" = Value.type "tuple" from congrArg Obj.cls (Option.some.inj h2)) (by decide)
section
variable {MM : Model} {A : Around} {E : Value → Shared → Prop} {s : Shared}
theorem wp_target {p : Addr} {code : Array Nat} {x : Str} {t : Tok} {Q : ReTarget → Shared → Prop} (P : PatAt s.heap p code) (h : Q ⟨.ref p, .str x t, code, x.cps, 0, 0, 0, x.cps.size⟩ s) : wpAny MM A (reWholeTarget (.ref p) (.str x t)) Q E s := by
  obtain ⟨a, b, c, d, e, tu, its, n, h1, h2, rfl⟩ := P
  unfold reWholeTarget
  refine wpAny_bind (wpAny_fieldsOf h1 rfl ?_)
  refine wpAny_bind (wpAny_of_eq (a := (x.cps, 0)) rfl ?_)
  show wpAny MM A (do
    let c ← (do return ((← seqItems? (.ref tu)).getD #[]).map reRawOf)
    pure { pattern := .ref p, string := .str x t, code := c.map (·.toNat), text := x.cps, kind := 0, groups := 0, pos := 0, lim := x.cps.size }) Q E s
  exact wpAny_bind (wpAny_bind (wpAny_seqItems h2 rfl (wpAny_pure (wpAny_pure h))))
theorem wp_found {t : ReTarget} {d b e : Nat} {Q : Option Sre.M → Shared → Prop} (r : Ends (Sre.forSearch t.code t.text t.groups d t.lim false) (2 ^ 20) (Found b e)) (h : ∀ m', m'.start = b → m'.handed = e → Q (some m') s) :
    wpAny MM A (reNextFound t d false) Q E s := wp_toEnd r (by decide) fun m' hm => .inl ⟨hm.1, h m' hm.2.1 hm.2.2⟩
theorem wp_missed {t : ReTarget} {d : Nat} {Q : Option Sre.M → Shared → Prop} (r : Ends (Sre.forSearch t.code t.text t.groups d t.lim false) (2 ^ 20) Missed) (h : Q none s) :
    wpAny MM A (reNextFound t d false) Q E s := wp_toEnd r (by decide) fun m' hm => .inr ⟨hm, h⟩
end
/-- what a sub writes from `d` on: after how many finds, which code points -/
inductive Subs (code T : Array Nat) (rep : List Nat) : Nat → Nat → List Nat → Prop
  | stop {d : Nat} : d ≤ T.size → Ends (Sre.forSearch code T 0 d T.size false) (2 ^ 20) Missed → Subs code T rep d 0 (T.toList.drop d)
  | more {d b e k : Nat} {out : List Nat} : d ≤ b → b < e → e ≤ T.size → Ends (Sre.forSearch code T 0 d T.size false) (2 ^ 20) (Found b e) → Subs code T rep e k out →
      Subs code T rep d (k + 1) ((T.toList.drop d).take (b - d) ++ rep ++ out)
def cat (xs : List Str) : List Nat := xs.flatMap fun x => x.cps.toList
theorem cat_snoc (xs : List Str) (x : Str) : cat (xs ++ [x]) = cat xs ++ x.cps.toList := by simp [cat]
theorem strs_snoc {vs : List Value} {xs : List Str} (h : StrsAre vs xs) (x : Str) (t : Tok) : StrsAre (vs ++ [.str x t]) (xs ++ [x]) := by
  induction h with
  | nil => exact .cons _ _ .nil
  | cons y u _ ih => exact .cons y u ih
theorem join_cat : ∀ xs : List Str, Str.join ⟨#[]⟩ xs = ⟨(cat xs).toArray⟩
  | [] => rfl
  | [x] => by apply Str.ext'; simp [cat, Str.join]
  | x :: y :: xs => by
    have ih := join_cat (y :: xs)
    show x ++ ⟨#[]⟩ ++ Str.join ⟨#[]⟩ (y :: xs) = _
    rw [ih]
    apply Str.ext'
    simp [Str.cps_append, cat]
theorem cat_len (xs : List Str) : (xs.map (·.length)).sum = (cat xs).length := by
  induction xs with
  | nil => rfl
  | cons x xs ih => simp only [List.map_cons, List.sum_cons, ih, cat, List.flatMap_cons, List.length_append]; rfl
theorem slice_list (T : Array Nat) (b e : Nat) : (T.extract b e).toList = (T.toList.drop b).take (e - b) := by
  rw [Array.toList_extract, List.extract_eq_take_drop]
end Mine

end
-- Rx5
section
open PySem PySem.W PyProof.Rows PySem.Calls
open PySem.Builtin.Re
set_option maxRecDepth 100000
set_option maxHeartbeats 8000000
namespace Mine
theorem fresh_Rx5 : True := by
  w_top off
  k_with_none
  k_with "omega" => lia
  trivial
section
variable {MM : Model} {A : Around} {E : Value → Shared → Prop} {s : Shared}
theorem wp_slice {T : Array Nat} {b e : Nat} {Q : Value → Shared → Prop} (hT : T.size ≤ 1000) (h : ∀ t' tk, Q (.str ⟨T.extract b e⟩ t') { s with toks := tk }) : wpAny MM A (reSlice T 0 b e) Q E s := by
  show wpAny MM A (mkStr ⟨T.extract b e⟩) Q E s
  refine wpAny_mkStr (h _ _) ?_
  show (T.extract b e).size ≤ sizeLine
  rw [Array.size_extract, sizeLine_eq]
  omega
theorem wp_pushes {lp : Addr} {vs : List Value} {nn : Nat} {x : Value} {Q : Unit → Shared → Prop} (ho : s.heap.get? lp = some (listOf vs.toArray nn)) (hz : vs.length ≤ 600)
    (h : ∀ h' nn', h'.get? lp = some (listOf (vs ++ [x]).toArray nn') → (∀ b, b ≠ lp → h'.get? b = s.heap.get? b) → Q () { s with heap := h' }) : wpAny MM A (updateSeq lp fun v => v.push x) Q E s := by
  refine wpAny_updateSeq ho rfl (h _ (nn + 1) ?_ ?_) ?_ ?_
  · have q := PySem.IsL.update ho (fun v => v.push x)
    rw [q, if_neg (by simp)]
    simp
  · intro b hb
    exact Heap.get?_update_other _ _ (Ne.symm hb)
  · simp [sizeLine_eq]; omega
  · simp [sizeLine_eq]; omega
end
theorem sub_loop {prog : Program} {w : World} {p lp : Addr} {code : Array Nat} {T rep : Str} {tt tr : Tok} {R : Result → Shared → Prop} (hT : T.length ≤ 1000) : ∀ (k d : Nat) (out : List Nat), Subs code T.cps rep.cps.toList d k out →
   ∀ (A : Around) (s : Shared) (vs : List Value) (xs : List Str) (nn : Nat) (i : Int), PatAt s.heap p code → s.heap.get? lp = some (listOf vs.toArray nn) → StrsAre vs xs → (cat xs).length + out.length ≤ 4000 → vs.length + 2 * k ≤ 500 →
    (∀ h' tk t', (∀ b, b ≠ lp → h'.get? b = s.heap.get? b) → R (.ok (.ret (.str ⟨(cat xs ++ out).toArray⟩ t'))) { s with heap := h', toks := tk }) →
    codeAny (model prog w) A (.builtin "re.Pattern.sub.loop" ⟨[.ref p, .str T tt, .str rep tr, rawInt 0, rawInt 0, rawInt i, rawInt d, rawInt d, .bool false, .ref lp, .bool false], []⟩) R s
  | k, d, out, hS => by
    intro A s vs xs nn i P hl hx hc hv hR
    refine codeAny_builtin entry_sub_loop ?_
    unfold Builtin.«re.Pattern.sub.loop»
    refine wpAny_bind (wp_target P ?_)
    have hT' : T.cps.size ≤ 1000 := hT
    refine wpAny_bind (wpAny_of_eq (a := ()) rfl ?_)
    cases hS with
    | stop hd hE =>
      refine wpAny_bind (wp_missed (t := ⟨.ref p, .str T tt, code, T.cps, 0, 0, 0, T.cps.size⟩) hE ?_)
      have fin : ∀ (s' : Shared) (vs' : List Value) (xs' : List Str) (nn' : Nat), s'.heap.get? lp = some (listOf vs'.toArray nn') → StrsAre vs' xs' → (cat xs').length ≤ 4000 → vs'.length ≤ 600 →
          (∀ tk t', R (.ok (.ret (.str ⟨(cat xs').toArray⟩ t'))) { s' with toks := tk }) →
          wpAny (model prog w) (A.under (.builtin "re.Pattern.sub.loop" ⟨[.ref p, .str T tt, .str rep tr, rawInt 0, rawInt 0, rawInt i, rawInt d, rawInt d, .bool false, .ref lp, .bool false], []⟩)) (do
            let joiner ← reSlice T.cps 0 0 0
            let text ← if ((← seqItems? (.ref lp)).getD #[]).isEmpty then pure joiner else call (.builtin "str.join") [joiner, .ref lp]
            ret text) (fun fin s' => match fin with | .done f => R (.ok f) s' | .again c' => c'.quiet = true ∧ codeAny (model prog w) A c' R s') (fun e s' => R (.error e) s') s' := by
        intro s' vs' xs' nn' hl' hx' hc' hv' hR'
        refine wpAny_bind (wp_slice hT' fun t1 k1 => ?_)
        refine wpAny_bind (wpAny_seqItems (s := { s' with toks := k1 }) hl' rfl ?_)
        cases vs' with
        | nil =>
          cases hx'
          refine wpAny_bind (wpAny_pure ?_)
          refine wpAny_pure ?_
          have := hR' k1 t1
          simpa [cat] using this
        | cons v vs' =>
          have hn := StrsAre.len' hx'
          refine wpAny_bind ?_
          show wpAny _ _ (call (.builtin "str.join") [.str ⟨T.cps.extract 0 0⟩ t1, .ref lp]) _ _ _
          have e0 : (⟨T.cps.extract 0 0⟩ : Str) = ⟨#[]⟩ := by simp
          rw [e0]
          refine join_list (s := { s' with toks := k1 }) ⟨_, hl', rfl, _, rfl⟩ hx' ?_ fun t2 k2 => ?_
          · rw [cat_len, show Str.length ⟨#[]⟩ = 0 from rfl]; omega
          · refine wpAny_pure ?_
            have e1 : PySem.Txt.join ⟨#[]⟩ xs' = ⟨(cat xs').toArray⟩ := by unfold PySem.Txt.join; rw [PySem.StrLaws.glued_eq_join]; exact join_cat xs'
            show R (.ok (.ret (.str (PySem.Txt.join ⟨#[]⟩ xs') t2))) _
            rw [e1]
            exact hR' k2 t2
      have hlen : vs.length = xs.length := StrsAre.len' hx
      by_cases q : d < T.cps.size
      · show wpAny _ _ (if ((d : Int)).toNat < T.cps.size then _ else _) _ _ _
        rw [if_pos (show ((d : Int)).toNat < T.cps.size from q)]
        refine wpAny_bind (wp_slice hT' fun t1 k1 => ?_)
        refine wpAny_bind (wp_pushes (s := { s with toks := k1 }) hl (by omega) fun h1 n1 g1 o1 => ?_)
        have e1 : cat (xs ++ [⟨T.cps.extract ((d : Int)).toNat T.cps.size⟩]) = cat xs ++ T.cps.toList.drop d := by
          rw [cat_snoc]
          show cat xs ++ (T.cps.extract d T.cps.size).toList = _
          rw [slice_list, List.take_of_length_le (by simp)]
        refine fin { s with heap := h1, toks := k1 } _ _ n1 g1 (strs_snoc hx _ _) ?_ (by simp; omega) ?_
        · rw [e1, List.length_append]; exact hc
        · intro tk t'
          rw [e1]; exact hR h1 tk t' o1
      · show wpAny _ _ (if ((d : Int)).toNat < T.cps.size then _ else _) _ _ _
        rw [if_neg (show ¬ ((d : Int)).toNat < T.cps.size from q)]
        have e1 : T.cps.toList.drop d = [] := List.drop_eq_nil_iff.mpr (by simp; omega)
        rw [e1] at hR hc
        refine fin s vs xs nn hl hx (by simpa using hc) (by omega) ?_
        intro tk t'
        have := hR s.heap tk t' (fun _ _ => rfl)
        simpa using this
    | @more _ b e k out' h1 h2 h3 hE hS' =>
      refine wpAny_bind (wp_found (t := ⟨.ref p, .str T tt, code, T.cps, 0, 0, 0, T.cps.size⟩) hE fun m hm1 hm2 => ?_)
      have hlen : vs.length = xs.length := StrsAre.len' hx
      have go : ∀ (s' : Shared) (vs' : List Value) (xs' : List Str) (nn' : Nat), PatAt s'.heap p code → s'.heap.get? lp = some (listOf vs'.toArray nn') → StrsAre vs' xs' → (cat xs').length + rep.cps.toList.length + out'.length ≤ 4000 → vs'.length + 1 + 2 * k ≤ 500 →
          (∀ h' tk t', (∀ b, b ≠ lp → h'.get? b = s'.heap.get? b) → R (.ok (.ret (.str ⟨(cat xs' ++ rep.cps.toList ++ out').toArray⟩ t'))) { s' with heap := h', toks := tk }) →
          wpAny (model prog w) (A.under (.builtin "re.Pattern.sub.loop" ⟨[.ref p, .str T tt, .str rep tr, rawInt 0, rawInt 0, rawInt i, rawInt d, rawInt d, .bool false, .ref lp, .bool false], []⟩)) (do
            updateSeq lp fun x => x.push (.str rep tr)
            again (.builtin "re.Pattern.sub.loop" ⟨[.ref p, .str T tt, .str rep tr, rawInt 0, rawInt 0, rawInt (i + 1), rawInt m.handed, rawInt m.handed, .bool (m.handed == m.start), .ref lp, .bool false], []⟩)) (fun fin s' => match fin with | .done f => R (.ok f) s' | .again c' => c'.quiet = true ∧ codeAny (model prog w) A c' R s') (fun e s' => R (.error e) s') s' := by
        intro s' vs' xs' nn' P' hl' hx' hc' hv' hR'
        refine wpAny_bind (wp_pushes hl' (by omega) fun h2' n2 g2 o2 => ?_)
        rw [hm1, hm2, show (e == b) = false from beq_false_of_ne (by omega)]
        refine wpAny_pure ⟨Code.quiet_builtin _ (by decide +kernel), ?_⟩
        refine sub_loop hT k e out' hS' A { s' with heap := h2' } _ _ n2 (i + 1) (P'.but hl' o2) g2 (strs_snoc hx' rep tr) ?_ ?_ ?_
        · rw [cat_snoc, List.length_append]; exact hc'
        · simp; omega
        · intro h' tk t' ho
          rw [cat_snoc]
          exact hR' h' tk t' fun b hb => (ho b hb).trans (o2 b hb)
      have hz : (T.cps.toList.drop d).length ≤ 1000 := by simp; omega
      simp only [List.length_append] at hc
      by_cases q : d < b
      · show wpAny _ _ (if ((d : Int)).toNat < m.start then _ else _) _ _ _
        rw [if_pos (show ((d : Int)).toNat < m.start by rw [hm1]; exact q)]
        refine wpAny_bind (wp_slice hT' fun t1 k1 => ?_)
        refine wpAny_bind (wp_pushes (s := { s with toks := k1 }) hl (by omega) fun h1' n1 g1 o1 => ?_)
        have e1 : cat (xs ++ [⟨T.cps.extract ((d : Int)).toNat m.start⟩]) = cat xs ++ (T.cps.toList.drop d).take (b - d) := by
          rw [cat_snoc, hm1]
          show cat xs ++ (T.cps.extract d b).toList = _
          rw [slice_list]
        refine go { s with heap := h1', toks := k1 } _ _ n1 (P.but hl o1) g1 (strs_snoc hx _ _) ?_ (by simp; omega) ?_
        · rw [e1, List.length_append]; omega
        · intro h' tk t' ho
          rw [e1]
          have := hR h' tk t' fun b hb => (ho b hb).trans (o1 b hb)
          simpa [List.append_assoc] using this
      · show wpAny _ _ (if ((d : Int)).toNat < m.start then _ else _) _ _ _
        rw [if_neg (show ¬ ((d : Int)).toNat < m.start by rw [hm1]; exact q)]
        have e0 : b - d = 0 := by omega
        rw [e0, List.take_zero] at hR hc
        refine go s vs xs nn P hl hx (by simp only [List.length_nil] at hc; omega) (by omega) ?_
        intro h' tk t' ho
        have := hR h' tk t' ho
        simpa [List.append_assoc] using this
end Mine

end
-- Rx6
section
open PySem PySem.W PyProof.Rows PySem.Calls PySem.F
open PySem.Builtin.Re
set_option maxRecDepth 100000
set_option maxHeartbeats 8000000
namespace Mine
theorem fresh_Rx6 : True := by
  w_top off
  k_with_none
  k_with "omega" => lia
  trivial
theorem owner_re : Manifest.owners.lookup (String.ofList ['n', 'r', 'e', 't', 't', 'a', 'P', '.', 'e', 'r'].reverse) = some Manifest.sig_re_Pattern := by kernel_rfl
theorem args_re_sub (a b c : Value) : argsOk "re.Pattern.sub" ⟨[a, b, c], []⟩ := by
  unfold argsOk; rw [signature?_of (id := "re.Pattern.sub") (n := ['b', 'u', 's']) (o := ['n', 'r', 'e', 't', 't', 'a', 'P', '.', 'e', 'r']) (by kernel_rfl) owner_re]; kernel_rfl
theorem str_no_call : typeLookup (.type "str") "__call__" = pure none := by rw [typeLookup_type, builtinLookup_eq_fast]; kernel_rfl
section
variable {prog : Program} {w : World} {A : Around} {E : Value → Shared → Prop} {s : Shared}
theorem call_sub {p : Addr} {code : Array Nat} {T rep : Str} {tt tr : Tok} {k : Nat} {out : List Nat} {Q : Value → Shared → Prop} (P : PatAt s.heap p code) (hS : Subs code T.cps rep.cps.toList 0 k out) (hT : T.length ≤ 1000) (ho : out.length ≤ 4000) (hk : 2 * k ≤ 500) (hrep : rep.cps.contains 92 = false)
    (h : ∀ h' tk t', (∀ b o, s.heap.get? b = some o → h'.get? b = some o) → Q (.str ⟨out.toArray⟩ t') { s with heap := h', toks := tk }) : wpAny (model prog w) A (call (.builtin "re.Pattern.sub") [.ref p, .str rep tr, .str T tt]) Q E s := by
  have hTy : s.TypeIs (.ref p) "re.Pattern" := by
    obtain ⟨a, b, c, d, e, tu, its, n, h1, _⟩ := P
    exact ⟨_, h1, rfl⟩
  refine wpAny_call (codeAny_call_builtin slot_re_sub.plain entry_re_sub (slot_re_sub.check _ _ _ _ _ _ _ _ hTy (args_re_sub _ _ _) ?_))
  unfold Builtin.«re.Pattern.sub» reSubstitute
  dsimp only
  refine wpAny_bind (wpAny_of_eq (a := [some (.str rep tr), some (.str T tt), none]) rfl ?_)
  dsimp only
  refine wpAny_bind (wpAny_pure ?_)
  refine wpAny_bind (wpAny_specialOf (typeIs_str _ _ _) str_no_call ?_)
  simp only [Option.isSome_none, Bool.false_eq_true, if_false]
  refine wpAny_bind (wpAny_of_eq (a := some rep) rfl ?_)
  dsimp only
  refine wpAny_bind (wpAny_pure ?_)
  rw [hrep]
  simp only [Bool.not_false, if_true]
  refine wpAny_bind (wpAny_pure ?_)
  dsimp only
  refine wpAny_bind (show wpAny _ _ (reWholeTarget (.ref p) (.str T tt)) _ _ _ from wp_target P ?_)
  rw [if_neg (show ¬ (((0 : Int) == 1) = true) by decide)]
  refine wpAny_bind (wpAny_newObj_type ?_)
  have up : ∀ b o, s.heap.get? b = some o → (s.heap.push { cls := .type "list", data := .seq ([] : List Value).toArray }).get? b = some o := fun b o e => Heap.get?_push_of_some _ e
  refine wpAny_pure ⟨Code.quiet_builtin _ (by decide +kernel), ?_⟩
  refine sub_loop hT k 0 out hS _ _ [] [] 0 0 (P.keeps up) (Heap.get?_push_size _ rfl) .nil (by simpa [cat] using ho) (by simpa using hk) ?_
  intro h' tk t' ho'
  have := h h' tk t' fun b o e => (ho' b (Nat.ne_of_lt (Heap.lt_size e))).trans (up b o e)
  simpa [cat] using this
end
end Mine

end
-- Rx7
section
open PySem PySem.Sre
set_option maxRecDepth 100000
set_option maxHeartbeats 8000000
namespace Mine
theorem fresh_Rx7 : True := by
  w_top off
  k_with_none
  k_with "omega" => lia
  trivial
def C1 : Array Nat := #[14, 4, 0, 1, 1, 6, 1, 16, 46, 1]
def Y (T : Array Nat) (lim b pc pos ha : Nat) (om : Bool) (frames : List Sre.Frame) (weight : Nat) (ans : Option Bool) (sn : Seen) : M :=
  { code := C1, text := T, lim := lim, start := b, lastStart := lim, mustAdvance := false, pc := pc, pos := pos, handed := ha, outermost := om, marks := #[], frames := frames, weight := weight, answer := ans, seen := sn }
def G0 (b : Nat) (om : Bool) : Sre.Frame := { wait := .nextStart, pc := 5, pos := b, outermost := om }
section
variable {T : Array Nat} {lim b : Nat} {om : Bool}
def bol (T : Array Nat) (b : Nat) : Bool := b == 0 || T.getD (b - 1) 0 == 10
theorem y_at (sn : Seen) (h : bol T b = true) : ∃ sn', (Y T lim b 5 b b om [G0 b om] 1 none sn).step = Y T lim b 7 b b om [G0 b om] 1 none sn' := by
  have e : ∃ sn', (Y T lim b 5 b b om [G0 b om] 1 none sn).step = if bol T b = true then Y T lim b 7 b b om [G0 b om] 1 none sn' else Y T lim b 5 b b om [G0 b om] 1 (some false) sn' := ⟨_, rfl⟩
  obtain ⟨sn', e⟩ := e
  exact ⟨sn', by rw [e, if_pos h]⟩
theorem y_noat (sn : Seen) (h : ¬ bol T b = true) : ∃ sn', (Y T lim b 5 b b om [G0 b om] 1 none sn).step = Y T lim b 5 b b om [G0 b om] 1 (some false) sn' := by
  have e : ∃ sn', (Y T lim b 5 b b om [G0 b om] 1 none sn).step = if bol T b = true then Y T lim b 7 b b om [G0 b om] 1 none sn' else Y T lim b 5 b b om [G0 b om] 1 (some false) sn' := ⟨_, rfl⟩
  obtain ⟨sn', e⟩ := e
  exact ⟨sn', by rw [e, if_neg h]⟩
theorem y_lit (sn : Seen) (hp : b < lim) (hc : T.getD b 0 = 46) : ∃ sn', (Y T lim b 7 b b om [G0 b om] 1 none sn).step = Y T lim b 9 (b + 1) b om [G0 b om] 1 none sn' := by
  obtain ⟨x, e⟩ := step_lit (Y T lim b 7 b b om [G0 b om] 1 none sn) rfl rfl (by decide : 7 < 10) rfl hp hc
  exact ⟨x, e⟩
theorem y_nolit (sn : Seen) (hc : b < lim → T.getD b 0 ≠ 46) : ∃ sn', (Y T lim b 7 b b om [G0 b om] 1 none sn).step = Y T lim b 7 b b om [G0 b om] 1 (some false) sn' := by
  obtain ⟨x, e⟩ := step_nolit (Y T lim b 7 b b om [G0 b om] 1 none sn) rfl rfl (by decide : 7 < 10) rfl hc
  exact ⟨x, e⟩
theorem y_success (sn : Seen) : ∃ sn', (Y T lim b 9 (b + 1) b om [G0 b om] 1 none sn).step = Y T lim b 9 (b + 1) (b + 1) om [G0 b om] 1 (some true) sn' := by
  refine ⟨sn.add 1, ?_⟩
  cases om <;> rfl
theorem y_next {pc pos ha : Nat} {o : Bool} (sn : Seen) (h : b < lim) : (Y T lim b pc pos ha o [G0 b om] 1 (some false) sn).step = Y T lim (b + 1) 5 (b + 1) (b + 1) false [G0 (b + 1) false] 1 none sn := by
  show (if b < lim then _ else _) = _
  rw [if_pos h]; rfl
theorem y_last {pc pos ha : Nat} {o : Bool} (sn : Seen) (h : ¬ b < lim) : (Y T lim b pc pos ha o [G0 b om] 1 (some false) sn).step = Y T lim b 5 b ha om [] 0 (some false) sn := by
  show (if b < lim then _ else _) = _
  rw [if_neg h]; rfl
theorem y_out {pc pos ha : Nat} {o : Bool} (sn : Seen) : Ends (Y T lim b pc pos ha o [] 0 (some false) sn) 1 Missed := missed_say (Y T lim b pc pos ha o [] 0 none sn) rfl rfl
theorem y_found (sn : Seen) (h1 : bol T b = true) (h2 : b < lim) (h3 : T.getD b 0 = 46) : Ends (Y T lim b 5 b b om [G0 b om] 1 none sn) 5 (Found b (b + 1)) := by
  obtain ⟨s1, e1⟩ := y_at (T := T) (lim := lim) (b := b) (om := om) sn h1
  refine Ends.via rfl e1 ?_
  obtain ⟨s2, e2⟩ := y_lit (T := T) (lim := lim) (b := b) (om := om) s1 h2 h3
  refine Ends.via rfl e2 ?_
  obtain ⟨s3, e3⟩ := y_success (T := T) (lim := lim) (b := b) (om := om) s2
  exact Ends.via rfl e3 (unwind [G0 b om] _ rfl rfl rfl (by intro f hf; simp only [List.mem_cons, List.not_mem_nil, or_false] at hf; rcases hf with rfl; simp [G0]))
/-- a place where a dot opens a line -/
def okAt (T : Array Nat) (lim j : Nat) : Prop := bol T j = true ∧ j < lim ∧ T.getD j 0 = 46
theorem y_skip {k : Nat} {P : M → Prop} (sn : Seen) (h : ¬ okAt T lim b) (hl : b < lim) (r : ∀ sn', Ends (Y T lim (b + 1) 5 (b + 1) (b + 1) false [G0 (b + 1) false] 1 none sn') k P) : Ends (Y T lim b 5 b b om [G0 b om] 1 none sn) (k + 3) P := by
  by_cases q : bol T b = true
  · obtain ⟨s1, e1⟩ := y_at (T := T) (lim := lim) (b := b) (om := om) sn q
    refine Ends.via rfl e1 ?_
    obtain ⟨s2, e2⟩ := y_nolit (T := T) (lim := lim) (b := b) (om := om) s1 (fun _ z => h ⟨q, hl, z⟩)
    refine Ends.via rfl e2 ?_
    exact Ends.via rfl (y_next s2 hl) (r s2)
  · obtain ⟨s1, e1⟩ := y_noat (T := T) (lim := lim) (b := b) (om := om) sn q
    exact Ends.more (Ends.via rfl e1 (Ends.via rfl (y_next s1 hl) (r s1))) (by omega)
theorem y_miss1 (sn : Seen) (hl : ¬ b < lim) : Ends (Y T lim b 5 b b om [G0 b om] 1 none sn) 4 Missed := by
  by_cases q : bol T b = true
  · obtain ⟨s1, e1⟩ := y_at (T := T) (lim := lim) (b := b) (om := om) sn q
    refine Ends.via rfl e1 ?_
    obtain ⟨s2, e2⟩ := y_nolit (T := T) (lim := lim) (b := b) (om := om) s1 (fun z => absurd z hl)
    refine Ends.via rfl e2 ?_
    exact Ends.via rfl (y_last s2 hl) (y_out s2)
  · obtain ⟨s1, e1⟩ := y_noat (T := T) (lim := lim) (b := b) (om := om) sn q
    exact Ends.more (Ends.via rfl e1 (Ends.via rfl (y_last s1 hl) (y_out s1))) (by omega)
end
theorem scan_found {T : Array Nat} {lim c : Nat} (hc : okAt T lim c) : ∀ (g b : Nat) (om : Bool) (sn : Seen), b + g = c → (∀ j, b ≤ j → j < c → ¬ okAt T lim j) → Ends (Y T lim b 5 b b om [G0 b om] 1 none sn) (3 * g + 5) (Found c (c + 1))
  | 0, b, om, sn, e, _ => by
    obtain rfl : b = c := e
    exact y_found sn hc.1 hc.2.1 hc.2.2
  | g + 1, b, om, sn, e, h => by
    have hl := hc.2.1
    exact Ends.more (y_skip sn (h b (Nat.le_refl _) (by omega)) (by omega) fun sn' => scan_found hc g (b + 1) false sn' (by omega) fun j h1 h2 => h j (by omega) h2) (by omega)
theorem scan_missed {T : Array Nat} {lim : Nat} : ∀ (g b : Nat) (om : Bool) (sn : Seen), b + g = lim → (∀ j, b ≤ j → ¬ okAt T lim j) → Ends (Y T lim b 5 b b om [G0 b om] 1 none sn) (3 * g + 4) Missed
  | 0, b, om, sn, e, _ => y_miss1 sn (by omega)
  | g + 1, b, om, sn, e, h => Ends.more (y_skip sn (h b (Nat.le_refl _)) (by omega) fun sn' => scan_missed g (b + 1) false sn' (by omega) fun j h1 => h j (by omega)) (by omega)
theorem search1 (T : Array Nat) (lim s : Nat) (h : s < lim) : ∃ sn, forSearch C1 T 0 s lim false = Y T lim s 5 s s true [G0 s true] 1 none sn := by
  refine ⟨({} : Seen).add 14, ?_⟩
  show (if (decide (s > lim) || decide (lim - s < 1)) = true then _ else _) = _
  rw [if_neg (by simp; omega)]
  rfl
theorem search1_end (T : Array Nat) (lim : Nat) : Ends (forSearch C1 T 0 lim lim false) 1 Missed := by
  have e : forSearch C1 T 0 lim lim false = if (decide (lim > lim) || decide (lim - lim < 1)) = true then M.say { Y T lim lim 5 lim lim true [] 0 none (({} : Seen).add 14) with lastStart := 0 } false else M.attemptFrom (Y T lim lim 5 lim lim true [] 0 none (({} : Seen).add 14)) lim true := rfl
  rw [e, if_pos (by simp)]
  exact missed_say _ rfl rfl
theorem search1_none (T : Array Nat) (lim s : Nat) (hs : s ≤ lim) (hl : lim ≤ 1000) (h : ∀ j, s ≤ j → ¬ okAt T lim j) : Ends (forSearch C1 T 0 s lim false) (2 ^ 20) Missed := by
  by_cases q : s = lim
  · subst q; exact Ends.more (search1_end T s) (by decide)
  · obtain ⟨sn, e⟩ := search1 T lim s (by omega)
    rw [e]
    exact Ends.more (scan_missed (lim - s) s true sn (by omega) h) (by omega)
theorem search1_some (T : Array Nat) (lim s c : Nat) (hs : s ≤ c) (hl : lim ≤ 1000) (hc : okAt T lim c) (h : ∀ j, s ≤ j → j < c → ¬ okAt T lim j) : Ends (forSearch C1 T 0 s lim false) (2 ^ 20) (Found c (c + 1)) := by
  have := hc.2.1
  obtain ⟨sn, e⟩ := search1 T lim s (by omega)
  rw [e]
  exact Ends.more (scan_found hc (c - s) s true sn (by omega) h) (by omega)
end Mine

end
-- Rx8
section
open PySem PySem.Sre
set_option maxRecDepth 100000
set_option maxHeartbeats 8000000
namespace Mine
theorem fresh_Rx8 : True := by
  w_top off
  k_with_none
  k_with "omega" => lia
  trivial
theorem getD_arr (l : List Nat) (j : Nat) : l.toArray.getD j 0 = l[j]?.getD 0 := by simp [Array.getD_eq_getD_getElem?]
theorem get_past (pre x : List Nat) (i : Nat) : (pre ++ x)[pre.length + i]? = x[i]? := by
  rw [List.getElem?_append_right (by omega)]; congr 1; omega
def crlf (r : Row) : Row := (r.1, [13, 10])
def dot (r : Row) : Row := (if r.1.head? = some 46 then 46 :: r.1 else r.1, r.2)
theorem dot_crlf (r : Row) : dot (crlf r) = quote1 r := rfl
theorem subs2 : ∀ (rs : List Row) (pre : List Nat), (∀ r ∈ rs, good r) → (pre ++ flat rs).length ≤ 1000 → Subs C2 (pre ++ flat rs).toArray [13, 10] pre.length rs.length (flat (rs.map crlf))
  | [], pre, _, hl => by
    have e : flat ([] : List Row) = [] := rfl
    rw [e, List.append_nil]
    have := Subs.stop (code := C2) (T := pre.toArray) (rep := [13, 10]) (d := pre.length) (by simp) (Ends.more (search2_none _ _ _ _ (by simp) (fun j h1 h2 => by simp at h2; omega)) (by decide))
    show Subs C2 pre.toArray [13, 10] pre.length 0 []
    simpa using this
  | r :: rs, pre, hg, hl => by
    obtain ⟨g1, g2, g3⟩ := hg r (.head _)
    have ih := subs2 rs (pre ++ r.1 ++ r.2) (fun x hx => hg x (.tail _ hx)) (by rw [flat_cons] at hl; simpa [List.append_assoc] using hl)
    have e : pre ++ r.1 ++ r.2 ++ flat rs = pre ++ flat (r :: rs) := by rw [flat_cons]; simp [List.append_assoc]
    rw [e] at ih
    have hT : (pre ++ flat (r :: rs)).toArray.toList = pre ++ (r.1 ++ (r.2 ++ flat rs)) := by rw [flat_cons]; simp [List.append_assoc]
    have hsz : (pre ++ flat (r :: rs)).toArray.size = pre.length + (r.1.length + (r.2.length + (flat rs).length)) := by rw [flat_cons]; simp <;> omega
    have at1 : ∀ i, i < r.1.length → (pre ++ flat (r :: rs)).toArray.getD (pre.length + i) 0 = r.1[i]?.getD 0 := fun i hi => by
      rw [getD_arr, get_past, flat_cons, List.append_assoc, List.getElem?_append_left hi]
    have at2 : ∀ i, (pre ++ flat (r :: rs)).toArray.getD (pre.length + r.1.length + i) 0 = (r.2 ++ flat rs)[i]?.getD 0 := fun i => by
      rw [getD_arr, Nat.add_assoc, get_past, flat_cons, List.append_assoc, get_past]
    have r2 : 0 < r.2.length := by rcases g3 with q | q | q <;> rw [q] <;> decide
    have out := Subs.more (rep := [13, 10]) (d := pre.length) (b := pre.length + r.1.length) (e := (pre ++ r.1 ++ r.2).length) (by omega) (by simp <;> omega) (by rw [hsz]; simp <;> omega)
      (Ends.more (search2_some (pre ++ flat (r :: rs)).toArray (pre ++ flat (r :: rs)).toArray.size pre.length (pre.length + r.1.length) (pre ++ r.1 ++ r.2).length false (by omega) (by rw [hsz]; omega) ?_ ?_) (by decide)) ih
    · rw [hT] at out
      have e3 : (pre ++ (r.1 ++ (r.2 ++ flat rs))).drop pre.length = r.1 ++ (r.2 ++ flat rs) := by simp
      rw [e3, show pre.length + r.1.length - pre.length = r.1.length by omega, show (r.1 ++ (r.2 ++ flat rs)).take r.1.length = r.1 by simp] at out
      exact out
    · intro j h1 h2
      obtain ⟨i, rfl⟩ := Nat.le.dest h1
      have hi : i < r.1.length := by omega
      rw [at1 i hi, List.getElem?_eq_getElem hi]
      have := g2 _ (List.getElem_mem hi)
      show ((r.1[i] == 10) || (r.1[i] == 13)) = false
      rw [beq_false_of_ne this.1, beq_false_of_ne this.2]; rfl
    · have a0 := at2 0
      have a1 := at2 1
      rw [Nat.add_zero] at a0
      rw [a0, a1, hsz]
      rcases g3 with q | q | q
      · refine .inl ⟨by simp [q] <;> omega, by rw [q]; simp <;> omega, by rw [q]; rfl, by rw [q]; rfl⟩
      · refine .inr (.inl ⟨by simp [q] <;> omega, by rw [q]; rfl⟩)
      · refine .inr (.inr ⟨by simp [q] <;> omega, by rw [q]; rfl, fun hb => ?_⟩)
        rw [q] at hb ⊢
        cases rs with
        | nil => simp [flat] at hb; omega
        | cons r' rs =>
          obtain ⟨k1, k2, _⟩ := hg r' (.tail _ (.head _))
          rw [flat_cons]
          cases hr' : r'.1 with
          | nil => exact absurd hr' k1
          | cons c cs =>
            show c ≠ 10
            exact (k2 c (by rw [hr']; exact .head _)).1
theorem last10 (l : List Nat) : (l ++ [13, 10])[(l ++ [13, 10]).length - 1]? = some 10 := by simp
/-- no dot opens a line within x -/
theorem subs1 : ∀ (rs : List Row) (pre x : List Nat), (∀ r ∈ rs, good r ∧ r.2 = [13, 10]) → (pre ++ (x ++ flat rs)).length ≤ 1000 →
   (∀ j, pre.length ≤ j → j < pre.length + x.length → ¬ okAt (pre ++ (x ++ flat rs)).toArray (pre ++ (x ++ flat rs)).length j) → (pre ++ x = [] ∨ (pre ++ x)[(pre ++ x).length - 1]? = some 10) →
    ∃ k, k ≤ rs.length ∧ Subs C1 (pre ++ (x ++ flat rs)).toArray [46, 46] pre.length k (x ++ flat (rs.map dot))
  | [], pre, x, _, hl, hno, _ => by
    refine ⟨0, Nat.le_refl _, ?_⟩
    have e : flat ([] : List Row) = [] := rfl
    simp only [List.map_nil, e, List.append_nil] at *
    have := Subs.stop (code := C1) (T := (pre ++ x).toArray) (rep := [46, 46]) (d := pre.length) (by simp) (search1_none _ _ _ (by simp) (by simpa using hl) (fun j h1 => ?_))
    · simpa using this
    · rcases Nat.lt_or_ge j (pre.length + x.length) with q | q
      · simpa using hno j h1 q
      · rintro ⟨_, z, _⟩
        simp at z; omega
  | r :: rs, pre, x, hg, hl, hno, hend => by
    obtain ⟨⟨g1, g2, g3⟩, g4⟩ := hg r (.head _)
    have hg' : ∀ y ∈ rs, good y ∧ y.2 = [13, 10] := fun y hy => hg y (.tail _ hy)
    cases hr : r.1 with
    | nil => exact absurd hr g1
    | cons c cs =>
    have ef : flat (r :: rs) = c :: (cs ++ ([13, 10] ++ flat rs)) := by rw [flat_cons, hr, g4]; simp
    have el : (pre ++ (x ++ flat (r :: rs))).length = pre.length + x.length + (cs.length + (flat rs).length + 3) := by rw [ef]; simp <;> omega
    -- within the row no line opens but at its head
    have inner : ∀ i, i ≤ cs.length + 1 → bol (pre ++ (x ++ flat (r :: rs))).toArray (pre.length + x.length + i + 1) = false := by
      intro i hi
      unfold bol
      rw [getD_arr, show pre.length + x.length + i + 1 - 1 = pre.length + (x.length + i) by omega, get_past, get_past, ef]
      rw [beq_false_of_ne (show pre.length + x.length + i + 1 ≠ 0 by omega), Bool.false_or]
      apply beq_false_of_ne
      cases i with
      | zero => exact (g2 c (by rw [hr]; exact .head _)).1
      | succ i =>
        rw [List.getElem?_cons_succ]
        rcases Nat.lt_or_ge i cs.length with q | q
        · rw [List.getElem?_append_left q, List.getElem?_eq_getElem q]
          exact (g2 _ (by rw [hr]; exact .tail _ (List.getElem_mem q))).1
        · have : i = cs.length := by omega
          subst this
          rw [List.getElem?_append_right (Nat.le_refl _)]
          simp
    by_cases hc : c = 46
    · subst hc
      have ok : okAt (pre ++ (x ++ flat (r :: rs))).toArray (pre ++ (x ++ flat (r :: rs))).length (pre.length + x.length) := by
        refine ⟨?_, by rw [el]; omega, ?_⟩
        · unfold bol
          rcases hend with q | q
          · have : pre = [] ∧ x = [] := by simpa using q
            rw [this.1, this.2]; rfl
          · by_cases q0 : pre.length + x.length = 0
            · rw [q0]; rfl
            · rw [getD_arr, ← List.append_assoc, List.getElem?_append_left (by simp <;> omega)]
              rw [show pre.length + x.length - 1 = (pre ++ x).length - 1 by simp, q]
              simp
        · rw [getD_arr, get_past, show x.length = x.length + 0 from rfl, get_past, ef]; rfl
      obtain ⟨k, hk, ih⟩ := subs1 rs (pre ++ x ++ [46]) (cs ++ [13, 10]) hg' (by rw [el] at hl; simp <;> omega) (by
        have e : pre ++ x ++ [46] ++ (cs ++ [13, 10] ++ flat rs) = pre ++ (x ++ flat (r :: rs)) := by rw [ef]; simp
        rw [e]
        intro j h1 h2 ⟨z, _⟩
        simp at h1 h2
        have := inner (j - (pre.length + x.length + 1)) (by omega)
        rw [show pre.length + x.length + (j - (pre.length + x.length + 1)) + 1 = j by omega] at this
        rw [this] at z; cases z) (.inr (by have := last10 (pre ++ x ++ [46] ++ cs); simpa [List.append_assoc] using this))
      have e : pre ++ x ++ [46] ++ (cs ++ [13, 10] ++ flat rs) = pre ++ (x ++ flat (r :: rs)) := by rw [ef]; simp
      have e9 : (pre ++ x ++ [46]).length = pre.length + x.length + 1 := by simp only [List.length_append, List.length_cons, List.length_nil]
      rw [e, e9] at ih
      refine ⟨k + 1, by simp <;> omega, ?_⟩
      have out := Subs.more (rep := [46, 46]) (d := pre.length) (b := pre.length + x.length) (e := pre.length + x.length + 1) (by omega) (by simp <;> omega) (by simp; rw [ef]; simp <;> omega)
        (by
          have := search1_some (pre ++ (x ++ flat (r :: rs))).toArray (pre ++ (x ++ flat (r :: rs))).length pre.length (pre.length + x.length) (by omega) hl ok (fun j h1 h2 => hno j h1 h2)
          simpa using this) ih
      have e1 : ((pre ++ (x ++ flat (r :: rs))).toArray.toList.drop pre.length).take (pre.length + x.length - pre.length) = x := by
        rw [show pre.length + x.length - pre.length = x.length by omega]; simp
      rw [e1] at out
      have e2 : x ++ [46, 46] ++ (cs ++ [13, 10] ++ flat (rs.map dot)) = x ++ flat ((r :: rs).map dot) := by
        rw [List.map_cons, flat_cons]
        simp [dot, hr, g4]
      rw [e2] at out
      exact out
    · obtain ⟨k, hk, ih⟩ := subs1 rs pre (x ++ (c :: (cs ++ [13, 10]))) hg' (by rw [el] at hl; simp <;> omega) (by
        have e : pre ++ (x ++ (c :: (cs ++ [13, 10])) ++ flat rs) = pre ++ (x ++ flat (r :: rs)) := by rw [ef]; simp
        rw [e]
        intro j h1 h2
        rcases Nat.lt_or_ge j (pre.length + x.length) with q | q
        · exact hno j h1 q
        · rintro ⟨z, z2, z3⟩
          simp at h2
          by_cases q2 : j = pre.length + x.length
          · subst q2
            rw [getD_arr, get_past, show x.length = x.length + 0 from rfl, get_past, ef] at z3
            exact hc z3
          · have := inner (j - (pre.length + x.length + 1)) (by omega)
            rw [show pre.length + x.length + (j - (pre.length + x.length + 1)) + 1 = j by omega] at this
            rw [this] at z; cases z) (.inr (by have := last10 (pre ++ x ++ (c :: cs)); simpa [List.append_assoc] using this))
      have e : pre ++ (x ++ (c :: (cs ++ [13, 10])) ++ flat rs) = pre ++ (x ++ flat (r :: rs)) := by rw [ef]; simp
      rw [e] at ih
      refine ⟨k, by simp <;> omega, ?_⟩
      have e2 : x ++ (c :: (cs ++ [13, 10])) ++ flat (rs.map dot) = x ++ flat ((r :: rs).map dot) := by
        rw [List.map_cons, flat_cons]
        simp [dot, hr, g4, hc]
      rw [e2] at ih
      exact ih
end Mine

end
-- Rx9
section
open PySem PySem.W PyProof.Rows PySem.Calls
set_option maxRecDepth 100000
set_option maxHeartbeats 8000000
namespace Mine
theorem fresh_Rx9 : True := by
  w_top off
  k_with_none
  k_with "omega" => lia
  trivial
theorem good_quote {r : Row} (h : good r) : good (quote1 r) := by
  obtain ⟨h1, h2, _⟩ := h
  unfold quote1
  refine ⟨?_, ?_, .inl rfl⟩
  · dsimp only; split <;> simp_all
  · dsimp only; split
    · intro c hc; rcases List.mem_cons.mp hc with rfl | hc
      · decide
      · exact h2 c hc
    · exact h2
theorem good_map {rs : List Row} (hr : ∀ r ∈ rs, good r) : ∀ r ∈ rs.map quote1, good r := by
  intro r h
  obtain ⟨r', h', rfl⟩ := List.mem_map.mp h
  exact good_quote (hr r' h')
theorem good_len {r : Row} (h : good r) : 2 ≤ (r.1 ++ r.2).length := by
  obtain ⟨h1, _, h3⟩ := h
  have : 0 < r.1.length := List.length_pos_iff.mpr h1
  rcases h3 with q | q | q <;> rw [q] <;> simp <;> omega
theorem rows_count {rs : List Row} (hr : ∀ r ∈ rs, good r) : 2 * rs.length ≤ (flat rs).length := by
  induction rs with
  | nil => exact Nat.le_refl _
  | cons r rs ih =>
    have h1 := good_len (hr r (.head _))
    have h2 := ih fun x hx => hr x (.tail _ hx)
    rw [flat_cons, List.length_append, List.length_cons]; omega
theorem crlf_len {rs : List Row} (hr : ∀ r ∈ rs, good r) : (flat (rs.map crlf)).length ≤ 2 * (flat rs).length := by
  induction rs with
  | nil => exact Nat.le_refl _
  | cons r rs ih =>
    obtain ⟨h1, _, h3⟩ := hr r (.head _)
    have h2 := ih fun x hx => hr x (.tail _ hx)
    have : 0 < r.1.length := List.length_pos_iff.mpr h1
    rw [List.map_cons, flat_cons, flat_cons]
    simp only [crlf, List.length_append, List.length_cons, List.length_nil]
    rcases h3 with q | q | q <;> rw [q] <;> simp <;> omega
theorem quote_len {rs : List Row} (hr : ∀ r ∈ rs, good r) : (flat (rs.map quote1)).length ≤ 3 * (flat rs).length := by
  induction rs with
  | nil => exact Nat.zero_le _
  | cons r rs ih =>
    obtain ⟨h1, _, h3⟩ := hr r (.head _)
    have h2 := ih fun x hx => hr x (.tail _ hx)
    have : 0 < r.1.length := List.length_pos_iff.mpr h1
    rw [List.map_cons, flat_cons, flat_cons]
    have e : (quote1 r).1.length ≤ r.1.length + 1 := by unfold quote1; dsimp only; split <;> simp
    simp only [List.length_append, show (quote1 r).2 = [13, 10] from rfl, List.length_cons, List.length_nil]
    rcases h3 with q | q | q <;> rw [q] <;> simp <;> omega
theorem mail_quote2 {rs : List Row} (hr : ∀ r ∈ rs, good r) (hn : (flat rs).length ≤ 200) : Subs C2 (mailStr rs).cps [13, 10] 0 rs.length (flat (rs.map crlf)) := subs2 rs [] hr (by simpa using Nat.le_trans hn (by decide))
theorem mail_quote1 {rs : List Row} (hr : ∀ r ∈ rs, good r) (hn : (flat rs).length ≤ 200) : ∃ k, k ≤ rs.length ∧ Subs C1 (mailStr (rs.map crlf)).cps [46, 46] 0 k (flat (rs.map quote1)) := by
  have h1 := crlf_len hr
  obtain ⟨k, hk, h⟩ := subs1 (rs.map crlf) [] [] (by
    intro r h
    obtain ⟨r', h', rfl⟩ := List.mem_map.mp h
    obtain ⟨g1, g2, _⟩ := hr r' h'
    exact ⟨⟨g1, g2, .inl rfl⟩, rfl⟩) (by simp; omega) (fun j h1 h2 => absurd h2 (by simpa using h1)) (.inl rfl)
  refine ⟨k, by simpa using hk, ?_⟩
  have e : (rs.map crlf).map dot = rs.map quote1 := by rw [List.map_map]; rfl
  rw [e] at h
  exact h
section
variable {w : World} {A : Around} {E : Value → Shared → Prop} {s : Shared} {h₀ : Heap} {L : Addr} {m : Str → Option Value}
theorem meth_sub {prog : Program} {p : Addr} {d : Data} {sl : Array (Option Value)} {pl : Sem Bool} {Q : Value × List Value → Shared → Prop} (X : (hd.heap_39 w.params).In h₀) (F : Fr h₀ L s.heap m) (ho : (hd.heap_39 w.params).lookup p = some ⟨.type "re.Pattern", none, d, sl⟩)
    (h : Q (.builtin "re.Pattern.sub", [.ref p]) s) : wpAny (model prog w) A (getMethod (.ref p) (Str.ofString "sub") pl) Q E s :=
  getMethod_builtin ⟨_, F.keep _ _ (X _ _ ho), rfl⟩ plainAttrs_re slot_re_sub type_re_sub (fun a e => by cases e; exact ⟨_, F.keep _ _ (X _ _ ho), rfl⟩) h
theorem pat2 (X : (hd.heap_39 w.params).In h₀) (F : Fr h₀ L s.heap m) : PatAt s.heap 62 C2 := ⟨_, _, _, _, _, _, _, _, F.keep _ _ (X _ _ rfl), F.keep _ _ (X _ _ rfl), by decide +kernel⟩
theorem pat1 (X : (hd.heap_39 w.params).In h₀) (F : Fr h₀ L s.heap m) : PatAt s.heap 57 C1 := ⟨_, _, _, _, _, _, _, _, F.keep _ _ (X _ _ rfl), F.keep _ _ (X _ _ rfl), by decide +kernel⟩
theorem sub2_call {prog : Program} {rs : List Row} {tr tt : Tok} {Q : Value → Shared → Prop} (X : (hd.heap_39 w.params).In h₀) (F : Fr h₀ L s.heap m) (N : News h₀ L s.heap []) (hr : ∀ r ∈ rs, good r) (hn : (flat rs).length ≤ 200)
    (h : ∀ h' tk t', Fr h₀ L h' m → News h₀ L h' [] → (∀ b o, s.heap.get? b = some o → h'.get? b = some o) → Q (.str (mailStr (rs.map crlf)) t') { s with heap := h', toks := tk }) :
    wpAny (model prog w) A (call (.builtin "re.Pattern.sub") [.ref 62, .str (Str.ofString "\r\n") tr, .str (mailStr rs) tt]) Q E s := by
  have h1 := crlf_len hr
  have h2 := rows_count hr
  have e : (Str.ofString "\r\n").cps.toList = [13, 10] := by decide +kernel
  refine call_sub (pat2 X F) (by rw [e]; exact mail_quote2 hr hn) (by rw [mail_len]; omega) (by omega) (by omega) (by decide +kernel) fun h' tk t' hk => h h' tk t' (F.grownK hk) News.nil hk
theorem sub1_call {prog : Program} {rs : List Row} {tr tt : Tok} {Q : Value → Shared → Prop} (X : (hd.heap_39 w.params).In h₀) (F : Fr h₀ L s.heap m) (N : News h₀ L s.heap []) (hr : ∀ r ∈ rs, good r) (hn : (flat rs).length ≤ 200)
    (h : ∀ h' tk t', Fr h₀ L h' m → News h₀ L h' [] → (∀ b o, s.heap.get? b = some o → h'.get? b = some o) → Q (.str (mailStr (rs.map quote1)) t') { s with heap := h', toks := tk }) :
    wpAny (model prog w) A (call (.builtin "re.Pattern.sub") [.ref 57, .str (Str.ofString "..") tr, .str (mailStr (rs.map crlf)) tt]) Q E s := by
  have h1 := crlf_len hr
  have h2 := rows_count hr
  have h3 := quote_len hr
  obtain ⟨k, hk, hs⟩ := mail_quote1 hr hn
  have e : (Str.ofString "..").cps.toList = [46, 46] := by decide +kernel
  refine call_sub (pat1 X F) (by rw [e]; exact hs) (by rw [mail_len]; omega) (by omega) (by omega) (by decide +kernel) fun h' tk t' hk => h h' tk t' (F.grownK hk) News.nil hk
end
theorem rows_Rx9_1 : True := by
  k_with "cell_enter" => (refine' code_defE ?k1 ?k2 ?k3 ?k5 ?kA ?kF ?kK ?k6 ?k7 ?k8 ?k9 ?kB ?_ ?c2 ?c3 ?c4 ?c5; (case kA => exact rfl); (case kF => exact rfl); (case kK => assumption); (case k1 => k_asm); (case k2 => k_asm); (case k3 => k_asm); (case k5 => k_asm); (case k6 => k_is); (case k7 => k_is); (case k8 => ktr_room); (case k9 => exact BindsTo.of_eq rfl); (case c5 => decide); (case kB => exact locs rfl); (case c2 => exact rfl); (case c3 => exact rfl); (case c4 => exact rfl); k_whole; intro L' h' F' N' B' X' T'; (try dsimp only); (try k_lift B'); (try k_fold))
  k_with "getMethod ref" => (k_here; (with_reducible show wpAny _ _ (getMethod (Value.ref _) (Str.ofString "sub") _) _ _ _); k_dflt (refine' meth_sub ?k1 ?k2 ?k3 ?_; (case k1 => assumption); (case k2 => k_asm); (case k3 => exact rfl)))
  k_with "call builtin:re.Pattern.sub" => (k_here; (with_reducible show wpAny _ _ (call (Value.builtin "re.Pattern.sub") [Value.ref 62, Value.str _ _, Value.str _ _]) _ _ _); k_dflt (refine' sub2_call ?k1 ?k2 ?k3 ?k4 ?k5 ?_; (case k1 => assumption); (case k2 => k_asm); (case k3 => k_asm); (case k4 => assumption); (case k5 => assumption); intro h9 tk9 t9 F9 N9 K9; (try dsimp only)))
  k_with "call builtin:re.Pattern.sub" => (k_here; (with_reducible show wpAny _ _ (call (Value.builtin "re.Pattern.sub") [Value.ref 57, Value.str _ _, Value.str _ _]) _ _ _); k_dflt (refine' sub1_call ?k1 ?k2 ?k3 ?k4 ?k5 ?_; (case k1 => assumption); (case k2 => k_asm); (case k3 => k_asm); (case k4 => assumption); (case k5 => assumption); intro h9 tk9 t9 F9 N9 K9; (try dsimp only)))
  trivial
theorem c_quote (w : World) (mean : ExcName → Option Value) (mg mb : Str → Option Value) (rs : List Row) (hr : ∀ r ∈ rs, good r) (hn : (flat rs).length ≤ 200) (t : Tok) :
    Claim0 w mean mg mb 69 2 [.str (mailStr rs) t] (fun _ => True) (fun tl r => tl = [] ∧ (mailStr (rs.map quote1)).length ≤ 600 ∧ ∃ t', r = .str (mailStr (rs.map quote1)) t') := by
  unfold Claim0
  k_fill
  intro dp un gd cn cs a ccd cl outer A₀ base h₀ L m s Q E B F X T hk hpre hd1 hu hret
  clear hpre
  have hl9 : (mailStr (rs.map quote1)).length ≤ 600 := by have := quote_len hr; rw [mail_len]; omega
  refine wpAny_call ?_
  k_dflt cell_enter
  k_steps
  exact hret _ [] _ _ (Fr.keep (by assumption)) (fun p hp => nomatch hp) ⟨rfl, hl9, _, rfl⟩
end Mine

end
-- T1
section
open PySem PySem.W PyProof.Rows PySem.Calls
set_option maxRecDepth 100000
set_option maxHeartbeats 8000000
namespace Mine
theorem fresh_T1 : True := by
  w_top off
  k_with_none
  k_with "omega" => lia
  trivial
theorem rows_T1_1 : True := by
  k_with "cell_enter" => (refine' code_defE ?k1 ?k2 ?k3 ?k5 ?kA ?kF ?kK ?k6 ?k7 ?k8 ?k9 ?kB ?_ ?c2 ?c3 ?c4 ?c5; (case kA => exact rfl); (case kF => exact rfl); (case kK => assumption); (case k1 => k_asm); (case k2 => k_asm); (case k3 => k_asm); (case k5 => k_asm); (case k6 => k_is); (case k7 => k_is); (case k8 => ktr_room); (case k9 => exact BindsTo.of_eq rfl); (case c5 => decide); (case kB => exact locs rfl); (case c2 => exact rfl); (case c3 => exact rfl); (case c4 => exact rfl); k_whole; intro L' h' F' N' B' X' T'; (try dsimp only); (try k_lift B'); (try k_fold))
  trivial

theorem rows_T1_2 : True := by
  k_with "call ref" => (k_here; k_dflt (refine' claim0_use (c_quote _ _ _ _ _ ?kg ?kn _) ?k1 ?k2 ?k3 ?k4 ?k5 ?kK ?kp ?kd ?ku ?_; (case kg => first | assumption | exact good_map (by assumption)); (case kn => first | assumption | omega); (case k1 => k_asm); (case k2 => k_asm); (case k3 => k_asm); (case k4 => k_asm); (case k5 => k_asm); (case kK => first | exact rfl | assumption); (case kp => trivial); (case kd => ktr_room); (case ku => ktr_units); intro r9 tl9 h9 tk9 F9 N9 K9 l9 R9; obtain ⟨e9, b9, t9, e9'⟩ := R9; subst e9; subst e9'; clear l9; simp only [List.nil_append] at N9; (try dsimp only)))
  trivial
def colR (rs : List Row) : Int := ((flat ((rs.map quote1).map quote1)).length : Int) - ((flat (rs.map quote1)).length : Int)
def colG (rs : List Row) : Int := ((flat (rs.map quote1)).length : Int) - ((flat rs).length : Int) - colR rs
def colB (rs : List Row) : Int := (((flat rs).length : Int) - 3 * colR rs - 3 * colG rs).fdiv 4
theorem t_col (w : World) (mean : ExcName → Option Value) (mg mb : Str → Option Value)
   (rs : List Row) (hr : ∀ r ∈ rs, good r) (hn : (flat rs).length ≤ 60) (t : Tok) : Claim0 w mean mg mb 102 4 [.str (mailStr rs) t] (fun _ => True) (fun tl r => ∃ a n t1 t2 t3, tl = [(a, listOf #[.int (colR rs) t1, .int (colG rs) t2, .int (colB rs) t3] n)] ∧ r = .ref a) := by
  unfold Claim0
  k_fill
  intro dp un gd cn cs a ccd cl outer A₀ base h₀ L m s Q E B F X T hk hpre hd1 hu hret
  clear hpre
  have hl0 : (mailStr rs).length ≤ 60 := hn
  have hl1 := quote_len hr
  have hl2 := quote_len (good_map hr)
  refine wpAny_call ?_
  k_dflt cell_enter
  k_steps
  exact hret _ _ _ _ (Fr.keep (by assumption)) (made_of (by assumption) (fun p hp => hp)) ⟨_, _, _, _, _, rfl, rfl⟩
end Mine

end
-- T5
section
open PySem PySem.W PyProof.Rows PySem.Calls
set_option maxRecDepth 100000
set_option maxHeartbeats 8000000
namespace Mine
theorem fresh_T5 : True := by
  w_top off
  k_with_none
  k_with "omega" => lia
  trivial
theorem rows_T5_1 : True := by
  k_with "cell_enter" => (refine' code_defE ?k1 ?k2 ?k3 ?k5 ?kA ?kF ?kK ?k6 ?k7 ?k8 ?k9 ?kB ?_ ?c2 ?c3 ?c4 ?c5; (case kA => exact rfl); (case kF => exact rfl); (case kK => assumption); (case k1 => k_asm); (case k2 => k_asm); (case k3 => k_asm); (case k5 => k_asm); (case k6 => k_is); (case k7 => k_is); (case k8 => ktr_room); (case k9 => exact BindsTo.of_eq rfl); (case c5 => decide); (case kB => exact locs rfl); (case c2 => exact rfl); (case c3 => exact rfl); (case c4 => exact rfl); k_whole; intro L' h' F' N' B' X' T'; (try dsimp only); (try k_lift B'); (try k_fold))
  trivial
theorem news_sub {h₀ h : Heap} {L : Addr} {l all : List (Addr × Obj)} (N : News h₀ L h all) (hs : ∀ p ∈ l, p ∈ all) : News h₀ L h l := fun p hp => N p (hs p hp)
theorem off_cls {h₀ h : Heap} {L I : Addr} {it : Obj} {l all : List (Addr × Obj)} (N : News h₀ L h all) (hI : (I, it) ∈ all) (hs : ∀ p ∈ l, p ∈ all) (hc : ∀ p ∈ l, p.2.cls ≠ it.cls) : ∀ p ∈ l, p.1 ≠ I := by
  intro p hp e
  have h1 := (N p (hs p hp)).1
  have h2 := (N _ hI).1
  rw [e, h2] at h1
  exact hc p hp (congrArg Obj.cls (Option.some.inj h1)).symm
def BeadsOk (k : Nat) (bs : List Int) : Prop := bs.length = 2 * k ∧ (∀ b ∈ bs, 0 ≤ b ∧ b ≤ 2) ∧ ∀ c, bs.count c % 2 = 0
theorem beads_start : BeadsOk ([] : List Int).length [] := ⟨rfl, by simp, by simp⟩
theorem beads_turn {n : Nat} {bs : List Int} {y : Int} {p : Nat} (h : BeadsOk n bs) : BeadsOk (n + 1) (bs.take p ++ [y.fmod 3] ++ bs.drop p ++ [y.fmod 3]) := by
  obtain ⟨h1, h2, h3⟩ := h
  have hm : 0 ≤ y.fmod 3 ∧ y.fmod 3 ≤ 2 := ⟨Int.fmod_nonneg_of_pos y (by omega), by have := Int.fmod_lt_of_pos y (show (0:Int) < 3 by omega); omega⟩
  refine ⟨?_, ?_, ?_⟩
  · simp only [List.length_append, List.length_take, List.length_drop, List.length_cons, List.length_nil]; omega
  · intro b hb
    simp only [List.mem_append, List.mem_cons, List.not_mem_nil, or_false] at hb
    rcases hb with ((hb | hb) | hb) | hb
    · exact h2 b (List.mem_of_mem_take hb)
    · rw [hb]; exact hm
    · exact h2 b (List.mem_of_mem_drop hb)
    · rw [hb]; exact hm
  · intro c
    have e := h3 c
    rw [← List.take_append_drop p bs, List.count_append] at e
    simp only [List.count_append]
    omega
def neckM (lb ld : Addr) (u : Str → Option Value) : Str → Option Value := fun y => if y = Str.ofString "beads" then some (.ref lb) else if y = Str.ofString "draws" then some (.ref ld) else u y
theorem neckM_of {m : Str → Option Value} {lb ld : Addr} (h1 : m (Str.ofString "beads") = some (.ref lb)) (h2 : m (Str.ofString "draws") = some (.ref ld)) : m = neckM lb ld m := by
  funext y
  unfold neckM
  split
  · rename_i e; rw [e]; exact h1
  · split
    · rename_i e; rw [e]; exact h2
    · rfl
def neckJ (G : Array GenState) (i : Nat) (m : Str → Option Value) (news : List (Addr × Obj)) (g : Array GenState) : Prop :=
  ∃ (lb ld : Addr) (ws dws : List Value) (nb nd : Nat) (bs ds : List Int) (u : Str → Option Value), m = neckM lb ld u ∧ news = [(lb, listOf (List.toArray ws) nb), (ld, listOf (List.toArray dws) nd)] ∧ IntsAre ws bs ∧ IntsAre dws ds ∧ ds.length = 5 ∧ BeadsOk i bs ∧ g = G
theorem c_neck (w : World) (mean : ExcName → Option Value) (mg mb : Str → Option Value) (l : Addr) (vs : List Value) (ns : List Int) (hi : IntsAre vs ns) (hlen : ns.length ≤ 63) :
   Claim w mean mg mb 76 2 [.ref l] (fun h => h.IsList l vs.toArray) (fun tl v => ∃ a ws bs n, tl = [(a, listOf (List.toArray ws) n)] ∧ v = .ref a ∧ IntsAre ws bs ∧ BeadsOk 5 bs) := by
  unfold Claim
  k_fill
  intro dp un gd cn cs a ccd cl outer A₀ base h₀ L m s Q E B F X T hk hl hd1 hu hret
  have hlen' : ns.length < 2 ^ 62 := by omega
  refine wpAny_call ?_
  k_dflt cell_enter
  k_with "pyIter ref" => (k_of "i" => k_state (fun pre (draws : List Int) => draws.length = 5) "draws")
  k_with "exec For Name Call cons nil" => ((with_reducible show wpAny _ _ (exec (Stmt.For (Expr.Name (Str.ofString "k") _) _ _ _ _) _) _ _ _); (rename Fr _ _ _ _ => lF'); with_reducible refine' for_range lF' ?hx ?hp ?hs ?h ?hE; (case hx => with_unfolding_all exact rfl); (case hp => with_unfolding_all exact rfl); (case hs => with_unfolding_all (intro _; rfl)); (case hE => passes_own))
  k_steps
  (rename IsRange _ _ _ _ _ _ _ _ => rgX)
  refine ⟨_, _, _, 5, _, _, _, _, _, neckJ s.gens, rfl, rfl, rgX, by decide, by rfl, by assumption, by assumption, ?_, ?_, ?_⟩
  · exact ⟨_, _, [], _, _, _, [], _, _, neckM_of rfl rfl, rfl, .nil, by assumption, by assumption, beads_start, rfl⟩
  · intro I i m news h tk g t hi hJ off F' N'
    obtain ⟨lb, ld, ws, dws, nb, nd, bs, ds, u, rfl, rfl, hws, hdws, hdl, hbs, rfl⟩ := hJ
    clear rgX
    unfold neckM at F'
    have hp0 : 0 ≤ ((ds.getD (0 + (i : Int)).toNat 0).fdiv 3).fmod (2 * (0 + (i : Int)) + 1) := Int.fmod_nonneg_of_pos _ (by omega)
    have hp1 : ((ds.getD (0 + (i : Int)).toNat 0).fdiv 3).fmod (2 * (0 + (i : Int)) + 1) < 2 * (0 + (i : Int)) + 1 := Int.fmod_lt_of_pos _ (by omega)
    have hbl : bs.length = 2 * i := hbs.1
    have hwl : ws.length = bs.length := hws.length
    have hwd : dws.length = ds.length := hdws.length
    k_steps
    (rename News _ _ _ _ => NE)
    (rename IntsAre _ _ => hWE)
    refine RangePost.next [(_, listOf (List.toArray _) 0), (ld, listOf (List.toArray dws) nd)] (by assumption) NE ?hI ?hs ?hc ⟨_, ld, _, dws, 0, nd, _, ds, _, neckM_of rfl rfl, rfl, hWE, hdws, hdl, ?hB, rfl⟩
    case hI => simp
    case hs =>
      intro p hp
      rcases List.mem_cons.mp hp with rfl | hp
      · exact List.Mem.head _
      · rcases List.mem_cons.mp hp with rfl | hp
        · simp
        · cases hp
    case hc =>
      intro p hp
      rcases List.mem_cons.mp hp with rfl | hp
      · intro e; exact absurd (Value.type.inj e) (by decide)
      · rcases List.mem_cons.mp hp with rfl | hp
        · intro e; exact absurd (Value.type.inj e) (by decide)
        · cases hp
    case hB => exact beads_turn hbs
  · intro h' tk g m news hJ F' N'
    obtain ⟨lb, ld, ws, dws, nb, nd, bs, ds, u, rfl, rfl, hws, hdws, hdl, hbs, rfl⟩ := hJ
    clear rgX
    unfold neckM at F'
    k_steps
    refine hret _ [(lb, listOf (List.toArray ws) nb)] _ _ _ (Fr.keep (by assumption)) (made_of (by assumption) (fun p hp => ?_)) (fun x => x) ⟨_, _, _, _, rfl, rfl, hws, hbs⟩
    rcases List.mem_cons.mp hp with rfl | hp
    · simp
    · cases hp
end Mine

end
-- Col
section
open PySem PySem.W PyProof.Rows PySem.Calls
set_option maxRecDepth 100000
set_option maxHeartbeats 8000000
namespace Mine
theorem fresh_Col : True := by
  w_top off
  k_with_none
  k_with "omega" => lia
  trivial
/-- the row that the law lays for a bead -/
def rowOf (i : Nat) (b : Int) : Row := if b = 0 then ([46], [13, 10]) else if b = 1 then ([103, 46], [if i % 2 = 0 then 10 else 13]) else ([98, 46], [13, 10])
def rowsFrom : Nat → List Int → List Row
  | _, [] => []
  | i, b :: bs => rowOf i b :: rowsFrom (i + 1) bs
def rowsOf (bs : List Int) : List Row := rowsFrom 0 bs
def kind (r : Row) : Int := if r.1.head? = some 46 then 0 else if r.1.head? = some 103 then 1 else 2
theorem rowK_of (i : Nat) (b : Int) : rowK (rowOf i b) := by
  unfold rowOf rowK
  split
  · exact .inl rfl
  · split
    · split
      · exact .inr (.inl rfl)
      · exact .inr (.inr (.inl rfl))
    · exact .inr (.inr (.inr rfl))
theorem rowsFrom_K : ∀ (bs : List Int) (i : Nat), ∀ r ∈ rowsFrom i bs, rowK r
  | [], _, r, h => nomatch h
  | b :: bs, i, r, h => by
    rcases List.mem_cons.mp h with rfl | h
    · exact rowK_of i b
    · exact rowsFrom_K bs (i + 1) r h
theorem rowsOf_K (bs : List Int) : ∀ r ∈ rowsOf bs, rowK r := rowsFrom_K bs 0
theorem rowsFrom_len : ∀ (bs : List Int) (i : Nat), (rowsFrom i bs).length = bs.length
  | [], _ => rfl
  | b :: bs, i => by show (rowsFrom (i + 1) bs).length + 1 = _; rw [rowsFrom_len bs]; rfl
theorem rowsOf_len (bs : List Int) : (rowsOf bs).length = bs.length := rowsFrom_len bs 0
theorem rowsFrom_get : ∀ (bs : List Int) (i j : Nat), (rowsFrom i bs)[j]? = (bs[j]?).map (rowOf (i + j))
  | [], _, _ => by simp [rowsFrom]
  | b :: bs, i, 0 => rfl
  | b :: bs, i, j + 1 => by
    show (rowsFrom (i + 1) bs)[j]? = _
    rw [rowsFrom_get bs (i + 1) j, List.getElem?_cons_succ]
    congr 2; omega
theorem rowsOf_take {bs : List Int} {i : Nat} {b : Int} (h : bs[i]? = some b) : (rowsOf bs).take (i + 1) = (rowsOf bs).take i ++ [rowOf i b] := by
  have e : (rowsOf bs)[i]? = some (rowOf i b) := by
    have := rowsFrom_get bs 0 i
    rw [h, Nat.zero_add] at this; exact this
  rw [List.take_succ, e]; rfl
theorem kind_of {i : Nat} {b : Int} (h : 0 ≤ b ∧ b ≤ 2) : kind (rowOf i b) = b := by
  have : b = 0 ∨ b = 1 ∨ b = 2 := by omega
  rcases this with rfl | rfl | rfl <;> rfl
theorem kinds_from : ∀ (bs : List Int) (i : Nat), (∀ b ∈ bs, 0 ≤ b ∧ b ≤ 2) → (rowsFrom i bs).map kind = bs
  | [], _, _ => rfl
  | b :: bs, i, h => by
    show kind (rowOf i b) :: (rowsFrom (i + 1) bs).map kind = _
    rw [kind_of (h b (.head _)), kinds_from bs (i + 1) fun x hx => h x (.tail _ hx)]
theorem kinds_rows {bs : List Int} (h : ∀ b ∈ bs, 0 ≤ b ∧ b ≤ 2) : (rowsOf bs).map kind = bs := kinds_from bs 0 h
def cnt (k : Int) (rs : List Row) : Nat := (rs.map kind).count k
theorem cnt_cons (k : Int) (r : Row) (rs : List Row) : cnt k (r :: rs) = cnt k rs + if kind r = k then 1 else 0 := by
  unfold cnt
  rw [List.map_cons, List.count_cons]
  simp only [beq_iff_eq]
theorem lens (rs : List Row) (h : ∀ r ∈ rs, rowK r) : (flat rs).length = 3 * cnt 0 rs + 3 * cnt 1 rs + 4 * cnt 2 rs ∧ (flat (rs.map quote1)).length = 4 * cnt 0 rs + 4 * cnt 1 rs + 4 * cnt 2 rs ∧
    (flat ((rs.map quote1).map quote1)).length = 5 * cnt 0 rs + 4 * cnt 1 rs + 4 * cnt 2 rs := by
  induction rs with
  | nil => exact ⟨rfl, rfl, rfl⟩
  | cons r rs ih =>
    obtain ⟨i1, i2, i3⟩ := ih fun x hx => h x (.tail _ hx)
    simp only [List.map_cons, flat_cons, cnt_cons, List.length_append, i1, i2, i3]
    rcases h r (.head _) with rfl | rfl | rfl | rfl
    · simp [kind, quote1]; omega
    · simp [kind, quote1]; omega
    · simp [kind, quote1]; omega
    · simp [kind, quote1]; omega
theorem col_R {rs : List Row} (h : ∀ r ∈ rs, rowK r) : colR rs = cnt 0 rs := by
  obtain ⟨h1, h2, h3⟩ := lens rs h
  unfold colR; rw [h2, h3]; omega
theorem col_G {rs : List Row} (h : ∀ r ∈ rs, rowK r) : colG rs = cnt 1 rs := by
  obtain ⟨h1, h2, h3⟩ := lens rs h
  unfold colG; rw [col_R h, h1, h2]; omega
theorem col_B {rs : List Row} (h : ∀ r ∈ rs, rowK r) : colB rs = cnt 2 rs := by
  obtain ⟨h1, h2, h3⟩ := lens rs h
  unfold colB; rw [col_R h, col_G h, h1]
  rw [show ((3 * cnt 0 rs + 3 * cnt 1 rs + 4 * cnt 2 rs : Nat) : Int) - 3 * (cnt 0 rs : Int) - 3 * (cnt 1 rs : Int) = (cnt 2 rs : Int) * 4 by omega]
  exact Int.mul_fdiv_cancel _ (by decide)
theorem cnt_sum {rs : List Row} (h : ∀ r ∈ rs, rowK r) : cnt 0 rs + cnt 1 rs + cnt 2 rs = rs.length := by
  induction rs with
  | nil => rfl
  | cons r rs ih =>
    have := ih fun x hx => h x (.tail _ hx)
    simp only [cnt_cons, List.length_cons]
    rcases h r (.head _) with rfl | rfl | rfl | rfl <;> simp [kind] <;> omega
end Mine

end
-- T7
section
open PySem PySem.W PyProof.Rows PySem.Calls
set_option maxRecDepth 100000
set_option maxHeartbeats 8000000
namespace Mine
theorem fresh_T7 : True := by
  w_top off
  k_with_none
  k_with "omega" => lia
  trivial
theorem rows_take {rs : List Row} {n : Nat} (h : ∀ r ∈ rs, rowK r) : ∀ r ∈ rs.take n, rowK r := fun r hr => h r (List.mem_of_mem_take hr)
theorem rows_drop {rs : List Row} {n : Nat} (h : ∀ r ∈ rs, rowK r) : ∀ r ∈ rs.drop n, rowK r := fun r hr => h r (List.mem_of_mem_drop hr)
theorem rows_T7_1 : True := by
  k_with "cell_enter" => (refine' code_defE ?k1 ?k2 ?k3 ?k5 ?kA ?kF ?kK ?k6 ?k7 ?k8 ?k9 ?kB ?_ ?c2 ?c3 ?c4 ?c5; (case kA => exact rfl); (case kF => exact rfl); (case kK => assumption); (case k1 => k_asm); (case k2 => k_asm); (case k3 => k_asm); (case k5 => k_asm); (case k6 => k_is); (case k7 => k_is); (case k8 => ktr_room); (case k9 => exact BindsTo.of_eq rfl); (case c5 => decide); (case kB => exact locs rfl); (case c2 => exact rfl); (case c3 => exact rfl); (case c4 => exact rfl); k_whole; intro L' h' F' N' B' X' T'; (try dsimp only); (try k_lift B'); (try k_fold))
  k_with "compareOp Eq ref ref" => (k_here; (with_reducible show wpAny _ _ (compareOp CmpOp.Eq (Value.ref _) (Value.ref _)) _ _ _); (with_unfolding_all refine' rows_nil ?k1 ?k2 ?k3 ?k4 ?k5 ?_; (case k1 => is_list); (case k2 => with_reducible assumption); (case k3 => assumption); (case k4 => is_list); (case k5 => first | units_room | ktr_units); k_whole))
  k_with "subscriptTail Name Slice ref ref" => (k_here; (with_reducible show wpAny _ _ (subscriptTail _ (PySem.Expr.Slice _ _ none _) (Value.ref _) (Value.ref _)) _ _ _); k_dflt (first | (refine' rows_upto ?F ?N ?l ?i ?n ?p ?q ?z ?_ ?s ?t; (case F => k_asm); (case N => k_asm); (case l => kmk_list); (case i => with_reducible assumption); (case n => omega); (case p => kmk_part); (case q => kmk_part); (case z => omega); (case s => with_unfolding_all rfl); (case t => kmk_pure)) | (refine' rows_from ?F ?N ?l ?i ?n ?p ?q ?z ?_ ?s ?t; (case F => k_asm); (case N => k_asm); (case l => kmk_list); (case i => with_reducible assumption); (case n => omega); (case p => kmk_part); (case q => kmk_part); (case z => omega); (case s => with_unfolding_all rfl); (case t => kmk_pure))); intro D' ws' h' F' N' l1 hI'; (try k_lt l1); (try k_sweep))
  k_with "call builtin:str.join" => (k_here; (with_reducible show wpAny _ _ (call (Value.builtin "str.join") [Value.str _ _, Value.ref _]) _ _ _); (refine' rows_join ?e ?l ?i ?x ?n ?_); (case e => with_unfolding_all rfl); (case l => is_list); (case i => with_reducible assumption); (case x => first | assumption | exact rows_take (by assumption) | exact rows_drop (by assumption)); (case n => first | omega | (simp only [List.length_take, List.length_drop]; omega)); (intro t9 k9))
  k_with "call ref" => (k_here; (with_reducible show wpAny _ _ (call (Value.ref 38) [Value.ref _]) _ _ _); (refine' gen_use _ _ _ _ ?k1 ?k2 ?k3 ?k4 ?k5 ?k6 ?k7 ?k8 ?_; (case k1 => k_asm); (case k2 => assumption); (case k3 => k_asm); (case k4 => assumption); (case k5 => assumption); (case k6 => assumption); (case k7 => assumption); (case k8 => ktr_room)); intro ga Lg oG oL c h' tk' F' N' o1 o2 o3 gm)
  trivial
/-- what a cut has told, laid and left after i sizes -/
def cutAt (ns : List Int) (rs : List Row) : Nat → List Int × List (List Row) × List Row
  | 0 => ([], [], rs)
  | i + 1 => match valAt ns i with
    | some k => ((cutAt ns rs i).1 ++ [k], (cutAt ns rs i).2.1 ++ [(cutAt ns rs i).2.2.take k.toNat], (cutAt ns rs i).2.2.drop k.toNat)
    | none => cutAt ns rs i
def cutM (lt lp ll : Addr) (u : Str → Option Value) : Str → Option Value := fun y => if y = Str.ofString "told" then some (.ref lt) else if y = Str.ofString "pieces" then some (.ref lp) else if y = Str.ofString "left" then some (.ref ll) else u y
inductive cutJ (h₀ : Heap) (l : Addr) (ns : List Int) (rs : List Row) (i : Nat) (m : Str → Option Value) (news : List (Addr × Obj)) : Prop
  | mk (lt lp ll : Addr) (ts ps ls : List Value) (nt np nl : Nat) (u : Str → Option Value) (c1 : m = cutM lt lp ll u)
     (c2 : IntsAre ts (cutAt ns rs i).1)
     (c3 : StrsAre ps ((cutAt ns rs i).2.1.map mailStr))
     (c4 : StrsAre ls ((cutAt ns rs i).2.2.map rowS))
     (c5 : i ≤ 10)
     (c6 : (∀ r ∈ (cutAt ns rs i).2.2, rowK r))
     (c7 : (cutAt ns rs i).2.2.length + i ≤ 10)
     (c8 : @LT.lt Nat _ lt lp)
     (c9 : (∀ j, j < i → (cutAt ns rs j).2.2 ≠ [] ∧ valAt ns j ≠ none))
     (c10 : ((ll = l ∧ h₀.IsList l ls.toArray ∧ news = [(lp, listOf ps.toArray np), (lt, listOf ts.toArray nt)]) ∨ (@LT.lt Nat _ lp ll ∧ news = [(ll, listOf ls.toArray nl), (lp, listOf ps.toArray np), (lt, listOf ts.toArray nt)]))) : cutJ h₀ l ns rs i m news
theorem cutM_of {m : Str → Option Value} {lt lp ll : Addr} (h1 : m (Str.ofString "told") = some (.ref lt)) (h2 : m (Str.ofString "pieces") = some (.ref lp)) (h3 : m (Str.ofString "left") = some (.ref ll)) : m = cutM lt lp ll m := by
  funext y
  unfold cutM
  split
  · rename_i e; rw [e]; exact h1
  · split
    · rename_i e; rw [e]; exact h2
    · split
      · rename_i e; rw [e]; exact h3
      · rfl
theorem off_all {news : List (Addr × Obj)} {Lg ga : Addr} (h : AllLt news Lg) (h2 : @LT.lt Nat _ Lg ga) : ∀ p ∈ news, p.1 ≠ ga ∧ p.1 ≠ Lg :=
  fun p hp => ⟨Nat.ne_of_lt (Nat.lt_trans (h p hp) h2), Nat.ne_of_lt (h p hp)⟩
theorem list_not_it (its : Array Value) (n : Nat) : (listOf its n).cls ≠ .type "list_iterator" := by simp
abbrev Off (p it ga Lg : Addr) : Prop := @Ne Nat p it ∧ @Ne Nat p ga ∧ @Ne Nat p Lg
theorem off2 {a b it ga Lg : Addr} {o1 o2 : Obj} (h : ∀ p ∈ [(a, o1), (b, o2)], p.1 ≠ it ∧ p.1 ≠ ga ∧ p.1 ≠ Lg) : Off a it ga Lg ∧ Off b it ga Lg ∧ True :=
  ⟨h _ (.head _), h _ (.tail _ (.head _)), trivial⟩
theorem off3 {a b c it ga Lg : Addr} {o1 o2 o3 : Obj} (h : ∀ p ∈ [(a, o1), (b, o2), (c, o3)], p.1 ≠ it ∧ p.1 ≠ ga ∧ p.1 ≠ Lg) : Off a it ga Lg ∧ Off b it ga Lg ∧ Off c it ga Lg ∧ True :=
  ⟨h _ (.head _), h _ (.tail _ (.head _)), h _ (.tail _ (.tail _ (.head _))), trivial⟩
theorem cut_lens (ns : List Int) (rs : List Row) : ∀ i, (cutAt ns rs i).1.length ≤ i ∧ (cutAt ns rs i).2.1.length ≤ i
  | 0 => ⟨Nat.le_refl _, Nat.le_refl _⟩
  | i + 1 => by
    have ih := cut_lens ns rs i
    unfold cutAt
    split
    · simp only [List.length_append, List.length_cons, List.length_nil]; omega
    · omega
theorem val_in {ns : List Int} {i : Nat} {y : Int} (h : valAt ns i = some y) (hp : ∀ x ∈ pre ns, 1 ≤ x ∧ x ≤ 5) : 1 ≤ y ∧ y ≤ 5 := by
  unfold valAt at h
  split at h
  · exact hp y (List.mem_of_getElem? h)
  · split at h
    · exact hp y (List.mem_of_getLast? h)
    · cases h
theorem cut_step {ns : List Int} {rs : List Row} {i : Nat} {k : Int} (h : valAt ns i = some k) : cutAt ns rs (i + 1) = ((cutAt ns rs i).1 ++ [k], (cutAt ns rs i).2.1 ++ [(cutAt ns rs i).2.2.take k.toNat], (cutAt ns rs i).2.2.drop k.toNat) := by
  show (match valAt ns i with | some k => _ | none => _) = _
  rw [h]
/-- what a cut gives back: what is told and the pieces' texts -/
def CutEnd (ns : List Int) (rs : List Row) (told : List Int) (pieces : List (List Row)) : Prop :=
  ∃ i, i ≤ 10 ∧ (∀ j, j < i → (cutAt ns rs j).2.2 ≠ [] ∧ valAt ns j ≠ none) ∧ ((cutAt ns rs i).2.2 = [] ∨ valAt ns i = none) ∧ told = (cutAt ns rs i).1 ∧ pieces = (cutAt ns rs i).2.1 ++ [(cutAt ns rs i).2.2]
inductive CutR (ns : List Int) (rs : List Row) (tl : List (Addr × Obj)) (v : Value) : Prop
  | mk (a lt lx : Addr) (ws xs : List Value) (n1 n2 n3 : Nat) (told : List Int) (pieces : List (List Row)) (c1 : tl = [(a, { cls := .type "tuple", data := .seq #[.ref lt, .ref lx] n3 }), (lx, listOf xs.toArray n2), (lt, listOf ws.toArray n1)])
     (c2 : v = .ref a)
     (c3 : IntsAre ws told)
     (c4 : StrsAre xs (pieces.map mailStr))
     (c5 : CutEnd ns rs told pieces) : CutR ns rs tl v
theorem GenPost.nxt {h₀ : Heap} {L : Addr} {s : Shared} {it ga Lg : Addr} {oit oG oL : Obj} {Jn : (Str → Option Value) → List (Addr × Obj) → Prop} {Q : Flow → Shared → Prop} {h' : Heap} {tk' : Nat} {m' : Str → Option Value} {all : List (Addr × Obj)}
   (news' : List (Addr × Obj)) (F : Fr h₀ L h' m') (N : News h₀ L h' all) (hs : ∀ p ∈ (it, oit) :: (ga, oG) :: (Lg, oL) :: news', p ∈ all) (ho : ∀ p ∈ news', p.1 ≠ it ∧ p.1 ≠ ga ∧ p.1 ≠ Lg ∧ p.2.cls ≠ .type "list_iterator") (hJ : Jn m' news') :
   GenPost h₀ L s it ga Lg oit oG oL Jn Q .next { s with heap := h', toks := tk' } :=
  ⟨h', tk', m', news', rfl, F, fun p hp => N p (hs p hp), ho, hJ⟩
theorem cut_turn {ns : List Int} {rs : List Row} {h₀ h' : Heap} {s : Shared} {L l D it ga Lg lp lt : Addr} {oit oG oL : Obj} {x1 x2 : Addr × Obj} {rest : List (Addr × Obj)} {Q : Flow → Shared → Prop} {tk' : Nat} {m' u : Str → Option Value} {i : Nat} {y : Int} {t t9 : Tok} {ws' ts ps : List Value} {np nt : Nat}
   (F : Fr h₀ L h' m') (N : News h₀ L h' ((D, listOf (List.toArray ws') 0) :: x1 :: x2 :: (it, oit) :: (ga, oG) :: (Lg, oL) :: rest))
   (hrest : rest = [(lp, listOf (ps.toArray.push (.str (mailStr ((cutAt ns rs i).2.2.take y.toNat)) t9)) (np + 1)), (lt, listOf (ts.toArray.push (.int y t)) (nt + 1))] ∨ ∃ x3, rest = [x3, (lp, listOf (ps.toArray.push (.str (mailStr ((cutAt ns rs i).2.2.take y.toNat)) t9)) (np + 1)), (lt, listOf (ts.toArray.push (.int y t)) (nt + 1))])
   (hm : m' = cutM lt lp D u) (o : @LT.lt Nat _ it D ∧ @LT.lt Nat _ ga D ∧ @LT.lt Nat _ Lg D ∧ @LT.lt Nat _ lp D) (d1 : Off lp it ga Lg) (d2 : Off lt it ga Lg)
   (i1 : IntsAre ts (cutAt ns rs i).1) (i2 : StrsAre ps ((cutAt ns rs i).2.1.map mailStr)) (i3 : StrsAre ws' (((cutAt ns rs i).2.2.drop y.toNat).map rowS)) (b2 : ∀ r ∈ (cutAt ns rs i).2.2, rowK r) (b3 : (cutAt ns rs i).2.2.length + i ≤ 10)
   (o1 : @LT.lt Nat _ lt lp) (bj : ∀ j, j < i → (cutAt ns rs j).2.2 ≠ [] ∧ valAt ns j ≠ none) (hne : ¬ (cutAt ns rs i).2.2 = []) (hy : valAt ns i = some y) (y1 : 1 ≤ y) :
   GenPost h₀ L s it ga Lg oit oG oL (cutJ h₀ l ns rs (i + 1)) Q .next { s with heap := h', toks := tk' } := by
  have hin : (lp, listOf (ps.toArray.push (.str (mailStr ((cutAt ns rs i).2.2.take y.toNat)) t9)) (np + 1)) ∈ rest ∧ (lt, listOf (ts.toArray.push (.int y t)) (nt + 1)) ∈ rest := by
    rcases hrest with rfl | ⟨x3, rfl⟩ <;> simp
  clear hrest
  simp only [List.push_toArray] at hin
  have hpos := List.length_pos_iff.mpr hne
  refine GenPost.nxt [(D, listOf (List.toArray ws') 0), (lp, listOf (ps ++ [Value.str (mailStr ((cutAt ns rs i).2.2.take y.toNat)) t9]).toArray (np + 1)), (lt, listOf (ts ++ [Value.int y t]).toArray (nt + 1))] F N ?_ ?_ ⟨lt, lp, D, _, _, ws', _, _, 0, u, hm, ?_, ?_, ?_, ?_, ?_, ?_, o1, ?_, .inr ⟨o.2.2.2, rfl⟩⟩
  · intro p hp
    simp only [List.mem_cons, List.not_mem_nil, or_false] at hp
    rcases hp with rfl | rfl | rfl | rfl | rfl | rfl
    · exact .tail _ (.tail _ (.tail _ (.head _)))
    · exact .tail _ (.tail _ (.tail _ (.tail _ (.head _))))
    · exact .tail _ (.tail _ (.tail _ (.tail _ (.tail _ (.head _)))))
    · exact .head _
    · exact .tail _ (.tail _ (.tail _ (.tail _ (.tail _ (.tail _ hin.1)))))
    · exact .tail _ (.tail _ (.tail _ (.tail _ (.tail _ (.tail _ hin.2)))))
  · intro p hp
    simp only [List.mem_cons, List.not_mem_nil, or_false] at hp
    rcases hp with rfl | rfl | rfl <;> (refine ⟨?_, ?_, ?_, list_not_it _ _⟩ <;> (refine neN ?_; dsimp only; omega))
  · rw [cut_step hy]; exact i1.append (.cons _ _ .nil)
  · rw [cut_step hy]; dsimp only; rw [List.map_append]; exact i2.append' (.cons _ _ .nil)
  · rw [cut_step hy]; exact i3
  · omega
  · rw [cut_step hy]; exact rows_drop b2
  · rw [cut_step hy]; simp only [List.length_drop]; omega
  · intro j hj
    rcases Nat.lt_succ_iff_lt_or_eq.mp hj with hj | rfl
    · exact bj j hj
    · exact ⟨hne, by rw [hy]; simp⟩
theorem cut_ret {ns : List Int} {rs : List Row} {s : Shared} {Q : Value → Shared → Prop} {h' : Heap} {tk' : Nat} {gens : Array GenState} {a lt lx L : Addr} {ts ps : List Value} {nt n2 n3 : Nat} {t9 : Tok} {rest : List (Addr × Obj)} {i : Nat} {c0 : Code}
   (hret : ∀ r tl h' tk' gens', (∀ b o, s.heap.get? b = some o → h'.get? b = some o) → Made s.heap h' tl → (leftWithCleanup s.gens = false → leftWithCleanup gens' = false) → CutR ns rs tl r → Q r { s with heap := h', toks := tk', gens := gens' })
   (hk : ∀ b o, s.heap.get? b = some o → h'.get? b = some o) (hq : leftWithCleanup (s.gens.push (.fresh c0)) = false → leftWithCleanup gens = false)
   (N : News s.heap L h' ((a, { cls := .type "tuple", data := .seq #[.ref lt, .ref lx] n3 }) :: (lx, { cls := .type "list", data := .seq (ps.toArray.toList ++ #[Value.str (mailStr (cutAt ns rs i).2.2) t9].toList).toArray n2 }) :: rest)) (hlt : (lt, listOf ts.toArray nt) ∈ rest)
   (hi : i ≤ 10) (bj : ∀ j, j < i → (cutAt ns rs j).2.2 ≠ [] ∧ valAt ns j ≠ none) (he : (cutAt ns rs i).2.2 = [] ∨ valAt ns i = none) (i1 : IntsAre ts (cutAt ns rs i).1) (i2 : StrsAre ps ((cutAt ns rs i).2.1.map mailStr)) :
   Q (.ref a) { s with heap := h', toks := tk', gens := gens } := by
  refine hret _ [(a, { cls := .type "tuple", data := .seq #[.ref lt, .ref lx] n3 }), (lx, listOf (ps ++ [Value.str (mailStr (cutAt ns rs i).2.2) t9]).toArray n2), (lt, listOf ts.toArray nt)] h' tk' gens hk ?_ ?_ ⟨a, lt, lx, ts, _, nt, n2, n3, _, _, rfl, rfl, i1, ?_, i, hi, bj, he, rfl, rfl⟩
  · intro p hp
    simp only [List.mem_cons, List.not_mem_nil, or_false] at hp
    rcases hp with rfl | rfl | rfl
    · exact ⟨(N _ (.head _)).1, (N _ (.head _)).2.2⟩
    · exact ⟨(N _ (.tail _ (.head _))).1, (N _ (.tail _ (.head _))).2.2⟩
    · exact ⟨(N _ (.tail _ (.tail _ hlt))).1, (N _ (.tail _ (.tail _ hlt))).2.2⟩
  · exact fun z => hq (left_push z)
  · rw [List.map_append]; exact i2.append' (.cons _ _ .nil)
theorem c_cut (w : World) (mean : ExcName → Option Value) (mg mb : Str → Option Value) (l rl : Addr) (vs : List Value) (ns : List Int) (hi : IntsAre vs ns) (ws : List Value) (rs : List Row) (hx : StrsAre ws (rs.map rowS)) (hr : ∀ r ∈ rs, rowK r) (hrl : rs.length ≤ 10) (hpre : pre ns ≠ []) (hpv : ∀ x ∈ pre ns, 1 ≤ x ∧ x ≤ 5) :
   Claim w mean mg mb 90 9 [.ref l, .ref rl] (fun h => h.IsList l ws.toArray ∧ h.IsList rl vs.toArray) (CutR ns rs) := by
  unfold Claim
  k_fill
  intro dp un gd cn cs a ccd cl outer A₀ base h₀ L m s Q E B F X T hk hl hd1 hu hret
  obtain ⟨hl1, hl2⟩ := hl
  refine wpAny_call ?_
  k_dflt cell_enter
  k_with "exec For Name Call cons nil" => ((with_reducible show wpAny _ _ (exec (Stmt.For (Expr.Name (Str.ofString "size") _) _ _ _ _) _) _ _ _); (rename Fr _ _ _ _ => lF'); with_reducible refine' for_gen lF' ?hx ?hp ?hs ?h ?hE; (case hx => with_unfolding_all exact rfl); (case hp => with_unfolding_all exact rfl); (case hs => with_unfolding_all (intro _; rfl)); (case hE => passes_own))
  k_steps
  (rename GenMade _ _ _ _ _ _ _ _ _ _ _ => gm)
  (rename News _ _ _ (_ :: _ :: _) => NE)
  (rename AllLt _ _ => oo2)
  (rename @LT.lt Nat _ _ _ => oo3)
  have offs := off_all oo2 oo3
  refine ⟨_, _, _, _, 20, _, _, _, _, _, _, cutJ s.heap l ns rs, rfl, rfl, by ktr_room, T.nolimit.keeps (Fr.keep (by assumption)), gm, by simp, by assumption, NE, ?_, by assumption, by assumption, ?_, ?_, ?_, ?_⟩
  · intro p hp
    refine ⟨(offs p hp).1, (offs p hp).2, ?_⟩
    rcases List.mem_cons.mp hp with rfl | hp
    · exact list_not_it _ _
    · rcases List.mem_cons.mp hp with rfl | hp
      · exact list_not_it _ _
      · cases hp
  · exact ⟨_, _, l, [], [], ws, 0, 0, 0, _, cutM_of rfl rfl rfl, .nil, .nil, hx, Nat.zero_le _, hr, hrl, by assumption, fun j hj => absurd hj (Nat.not_lt_zero _), .inl ⟨rfl, hl1, rfl⟩⟩
  · intro i m news hJ
    obtain ⟨_, _, _, _, _, _, _, _, _, _, _, _, _, _, h10, _⟩ := hJ
    omega
  · intro i y t it oit oL m news h tk gens hy hJ hq hit off F' N'
    obtain ⟨lt, lp, ll, ts, ps, ls, nt, np, nl, u, rfl, i1, i2, i3, b1, b2, b3, o1, bj, hc⟩ := hJ
    obtain ⟨y1, y5⟩ := val_in hy hpv
    obtain ⟨c1, c2⟩ := cut_lens ns rs i
    replace c1 : ts.length ≤ 10 := by have := i1.length; omega
    replace c2 : ps.length ≤ 10 := by have := StrsAre.len' i2; simp at this; omega
    have c3 : ls.length ≤ 10 := by have := StrsAre.len' i3; simp at this; omega
    have c4 : (cutAt ns rs i).2.2.length ≤ 10 := by omega
    clear gm NE
    unfold cutM at F'
    rcases hc with ⟨rfl, hll, rfl⟩ | ⟨o2, rfl⟩
    · obtain ⟨d1, d2, d3⟩ := off2 off
      k_steps
      · (show wpAny _ _ (execs [_] _) _ _ _)
        k_steps
        exact cut_ret hret (Fr.keep (by assumption)) hq (by assumption) (by first | exact .head _ | exact .tail _ (.head _) | exact .tail _ (.tail _ (.head _)) | exact .tail _ (.tail _ (.tail _ (.head _))) | exact .tail _ (.tail _ (.tail _ (.tail _ (.head _))))| exact .tail _ (.tail _ (.tail _ (.tail _ (.tail _ (.head _))))) | exact .tail _ (.tail _ (.tail _ (.tail _ (.tail _ (.tail _ (.head _)))))) | exact .tail _ (.tail _ (.tail _ (.tail _ (.tail _ (.tail _ (.tail _ (.head _)))))))) b1 bj (.inl (by assumption)) i1 i2
      · (rename News _ _ _ (_ :: _ :: _ :: _) => NN)
        (rename ¬ (cutAt ns rs i).2.2 = [] => hne)
        (rename StrsAre _ (List.map rowS (List.drop _ _)) => i3')
        exact cut_turn (by assumption) NN (.inl rfl) (cutM_of rfl rfl rfl) (by omega) d1 d2 i1 i2 i3' b2 b3 o1 bj hne hy y1
    · obtain ⟨d0, d1, d2, d3⟩ := off3 off
      k_steps
      · (show wpAny _ _ (execs [_] _) _ _ _)
        k_steps
        exact cut_ret hret (Fr.keep (by assumption)) hq (by assumption) (by first | exact .head _ | exact .tail _ (.head _) | exact .tail _ (.tail _ (.head _)) | exact .tail _ (.tail _ (.tail _ (.head _))) | exact .tail _ (.tail _ (.tail _ (.tail _ (.head _))))| exact .tail _ (.tail _ (.tail _ (.tail _ (.tail _ (.head _))))) | exact .tail _ (.tail _ (.tail _ (.tail _ (.tail _ (.tail _ (.head _)))))) | exact .tail _ (.tail _ (.tail _ (.tail _ (.tail _ (.tail _ (.tail _ (.head _)))))))) b1 bj (.inl (by assumption)) i1 i2
      · (rename News _ _ _ (_ :: _ :: _ :: _) => NN)
        (rename ¬ (cutAt ns rs i).2.2 = [] => hne)
        (rename StrsAre _ (List.map rowS (List.drop _ _)) => i3')
        exact cut_turn (by assumption) NN (.inr ⟨_, rfl⟩) (cutM_of rfl rfl rfl) (by omega) d1 d2 i1 i2 i3' b2 b3 o1 bj hne hy y1
  · intro i m news h tk gens hy hJ hq F' N'
    obtain ⟨lt, lp, ll, ts, ps, ls, nt, np, nl, u, rfl, i1, i2, i3, b1, b2, b3, o1, bj, hc⟩ := hJ
    obtain ⟨c1, c2⟩ := cut_lens ns rs i
    replace c1 : ts.length ≤ 10 := by have := i1.length; omega
    replace c2 : ps.length ≤ 10 := by have := StrsAre.len' i2; simp at this; omega
    have c3 : ls.length ≤ 10 := by have := StrsAre.len' i3; simp at this; omega
    have c4 : (cutAt ns rs i).2.2.length ≤ 10 := by omega
    clear gm NE
    unfold cutM at F'
    rcases hc with ⟨rfl, hll, rfl⟩ | ⟨o2, rfl⟩
    · k_steps
      exact cut_ret hret (Fr.keep (by assumption)) hq (by assumption) (by first | exact .head _ | exact .tail _ (.head _) | exact .tail _ (.tail _ (.head _)) | exact .tail _ (.tail _ (.tail _ (.head _))) | exact .tail _ (.tail _ (.tail _ (.tail _ (.head _))))| exact .tail _ (.tail _ (.tail _ (.tail _ (.tail _ (.head _))))) | exact .tail _ (.tail _ (.tail _ (.tail _ (.tail _ (.tail _ (.head _)))))) | exact .tail _ (.tail _ (.tail _ (.tail _ (.tail _ (.tail _ (.tail _ (.head _)))))))) b1 bj (.inr hy) i1 i2
    · k_steps
      exact cut_ret hret (Fr.keep (by assumption)) hq (by assumption) (by first | exact .head _ | exact .tail _ (.head _) | exact .tail _ (.tail _ (.head _)) | exact .tail _ (.tail _ (.tail _ (.head _))) | exact .tail _ (.tail _ (.tail _ (.tail _ (.head _))))| exact .tail _ (.tail _ (.tail _ (.tail _ (.tail _ (.head _))))) | exact .tail _ (.tail _ (.tail _ (.tail _ (.tail _ (.tail _ (.head _)))))) | exact .tail _ (.tail _ (.tail _ (.tail _ (.tail _ (.tail _ (.tail _ (.head _)))))))) b1 bj (.inr hy) i1 i2
end Mine

end
-- Cut
section
open PySem PySem.W PyProof.Rows PySem.Calls
set_option maxRecDepth 100000
set_option maxHeartbeats 8000000
namespace Mine
theorem fresh_Cut : True := by
  w_top off
  k_with_none
  k_with "omega" => lia
  trivial
theorem cut_unique {ns : List Int} {rs : List Row} {t t' : List Int} {p p' : List (List Row)} (h : CutEnd ns rs t p) (h' : CutEnd ns rs t' p') : t = t' ∧ p = p' := by
  obtain ⟨i, _, bi, ei, rfl, rfl⟩ := h
  obtain ⟨j, _, bj, ej, rfl, rfl⟩ := h'
  have : i = j := by
    rcases Nat.lt_trichotomy i j with q | q | q
    · have := bj i q
      rcases ei with e | e
      · exact absurd e this.1
      · exact absurd e this.2
    · exact q
    · have := bi j q
      rcases ej with e | e
      · exact absurd e this.1
      · exact absurd e this.2
  subst this
  exact ⟨rfl, rfl⟩
theorem drop_ne {rs : List Row} {n : Nat} (h : n < rs.length) : rs.drop n ≠ [] := fun e => by
  have := List.drop_eq_nil_iff.mp e; omega
theorem cut_two {ns : List Int} {rs : List Row} {x y : Int} (hp : pre ns = [x, y]) (h0 : ns[2]? ≠ some 0) (hr : rs.length = 10) (hx : 1 ≤ x) (hy : 1 ≤ y) (hs : x + y ≤ 10) :
   CutEnd ns rs [x, y] [rs.take x.toNat, (rs.drop x.toNat).take y.toNat, rs.drop (x.toNat + y.toNat)] := by
  have hne : rs ≠ [] := by intro e; rw [e] at hr; cases hr
  have v0 : valAt ns 0 = some x := by simp [valAt, hp]
  have v1 : valAt ns 1 = some y := by simp [valAt, hp]
  have v2 : valAt ns 2 = none := by simp [valAt, hp, h0]
  have c1 := cut_step (rs := rs) v0
  rw [show cutAt ns rs 0 = ([], [], rs) from rfl] at c1
  dsimp only at c1
  have c2 := cut_step (rs := rs) v1
  rw [c1] at c2
  refine ⟨2, by omega, ?_, .inr v2, ?_, ?_⟩
  · intro j hj
    have : j = 0 ∨ j = 1 := by omega
    rcases this with rfl | rfl
    · exact ⟨hne, by rw [v0]; simp⟩
    · exact ⟨by rw [c1]; exact drop_ne (by omega), by rw [v1]; simp⟩
  · rw [c2]; rfl
  · rw [c2]; simp
theorem cut_three {ns : List Int} {rs : List Row} {x y z : Int} (hp : pre ns = [x, y, z]) (h0 : ns[3]? ≠ some 0) (hr : rs.length = 10) (hx : 1 ≤ x) (hy : 1 ≤ y) (hz : 1 ≤ z) (hs : x + y + z ≤ 10) :
   CutEnd ns rs [x, y, z] [rs.take x.toNat, (rs.drop x.toNat).take y.toNat, (rs.drop (x.toNat + y.toNat)).take z.toNat, rs.drop (x.toNat + y.toNat + z.toNat)] := by
  have hne : rs ≠ [] := by intro e; rw [e] at hr; cases hr
  have v0 : valAt ns 0 = some x := by simp [valAt, hp]
  have v1 : valAt ns 1 = some y := by simp [valAt, hp]
  have v2 : valAt ns 2 = some z := by simp [valAt, hp]
  have v3 : valAt ns 3 = none := by simp [valAt, hp, h0]
  have c1 := cut_step (rs := rs) v0
  rw [show cutAt ns rs 0 = ([], [], rs) from rfl] at c1
  dsimp only at c1
  have c2 := cut_step (rs := rs) v1
  rw [c1] at c2
  have c3 := cut_step (rs := rs) v2
  rw [c2] at c3
  refine ⟨3, by omega, ?_, .inr v3, ?_, ?_⟩
  · intro j hj
    have : j = 0 ∨ j = 1 ∨ j = 2 := by omega
    rcases this with rfl | rfl | rfl
    · exact ⟨hne, by rw [v0]; simp⟩
    · exact ⟨by rw [c1]; exact drop_ne (by omega), by rw [v1]; simp⟩
    · exact ⟨by rw [c2]; simp only [List.drop_drop]; exact drop_ne (by omega), by rw [v2]; simp⟩
  · rw [c3]; rfl
  · rw [c3]; simp [Nat.add_assoc]
theorem cut_three_again {ns : List Int} {rs : List Row} {x y z : Int} (hp : pre ns = [x, y, z]) (h0 : ns[3]? = some 0) (hr : rs.length = 10) (hx : 1 ≤ x) (hy : 1 ≤ y) (hz : 1 ≤ z) (hs : x + y + z + z = 10) :
   CutEnd ns rs [x, y, z, z] [rs.take x.toNat, (rs.drop x.toNat).take y.toNat, (rs.drop (x.toNat + y.toNat)).take z.toNat, rs.drop (x.toNat + y.toNat + z.toNat), []] := by
  have hne : rs ≠ [] := by intro e; rw [e] at hr; cases hr
  have v0 : valAt ns 0 = some x := by simp [valAt, hp]
  have v1 : valAt ns 1 = some y := by simp [valAt, hp]
  have v2 : valAt ns 2 = some z := by simp [valAt, hp]
  have v3 : valAt ns 3 = some z := by simp [valAt, hp, h0]
  have c1 := cut_step (rs := rs) v0
  rw [show cutAt ns rs 0 = ([], [], rs) from rfl] at c1
  dsimp only at c1
  have c2 := cut_step (rs := rs) v1
  rw [c1] at c2
  have c3 := cut_step (rs := rs) v2
  rw [c2] at c3
  have c4 := cut_step (rs := rs) v3
  rw [c3] at c4
  have e4 : (cutAt ns rs 4).2.2 = [] := by
    rw [c4]; simp only [List.drop_drop]; exact List.drop_eq_nil_iff.mpr (by omega)
  refine ⟨4, by omega, ?_, .inl e4, ?_, ?_⟩
  · intro j hj
    have : j = 0 ∨ j = 1 ∨ j = 2 ∨ j = 3 := by omega
    rcases this with rfl | rfl | rfl | rfl
    · exact ⟨hne, by rw [v0]; simp⟩
    · exact ⟨by rw [c1]; exact drop_ne (by omega), by rw [v1]; simp⟩
    · exact ⟨by rw [c2]; simp only [List.drop_drop]; exact drop_ne (by omega), by rw [v2]; simp⟩
    · exact ⟨by rw [c3]; simp only [List.drop_drop]; exact drop_ne (by omega), by rw [v3]; simp⟩
  · rw [c4]; rfl
  · rw [e4, c4]
    simp only [List.drop_drop, List.nil_append, List.cons_append]
    rw [List.take_of_length_le (show (rs.drop (x.toNat + y.toNat + z.toNat)).length ≤ z.toNat by simp; omega)]
theorem cut_one_again {ns : List Int} {rs : List Row} (hp : pre ns = [5]) (h0 : ns[1]? = some 0) (hr : rs.length = 10) :
   CutEnd ns rs [5, 5] [rs.take 5, rs.drop 5, []] := by
  have hne : rs ≠ [] := by intro e; rw [e] at hr; cases hr
  have v0 : valAt ns 0 = some 5 := by simp [valAt, hp]
  have v1 : valAt ns 1 = some 5 := by simp [valAt, hp, h0]
  have c1 := cut_step (rs := rs) v0
  rw [show cutAt ns rs 0 = ([], [], rs) from rfl] at c1
  dsimp only at c1
  have c2 := cut_step (rs := rs) v1
  rw [c1] at c2
  have e2 : (cutAt ns rs 2).2.2 = [] := by
    rw [c2]; simp only [List.drop_drop]; exact List.drop_eq_nil_iff.mpr (by simp [hr])
  refine ⟨2, by omega, ?_, .inl e2, ?_, ?_⟩
  · intro j hj
    have : j = 0 ∨ j = 1 := by omega
    rcases this with rfl | rfl
    · exact ⟨hne, by rw [v0]; simp⟩
    · exact ⟨by rw [c1]; exact drop_ne (by simp [hr]), by rw [v1]; simp⟩
  · rw [c2]; rfl
  · rw [e2, c2]
    have e : (rs.drop 5).take 5 = rs.drop 5 := List.take_of_length_le (by simp [hr])
    simp [e]
end Mine

end
-- T10
section
open PySem PySem.W PyProof.Rows PySem.Calls
set_option maxRecDepth 100000
set_option maxHeartbeats 8000000
namespace Mine
theorem fresh_T10 : True := by
  w_top off
  k_with_none
  k_with "omega" => lia
  trivial
def mineR (rs : List Row) (a d : Nat) : List Row := (rs.drop a).take d ++ rs.drop (5 + d)
section
variable {prog : Program} {w : World} {A : Around} {E : Value → Shared → Prop} {s : Shared} {Q : Value → Shared → Prop}
theorem cmp_yes {a b : Int} {t u : Tok} (e : a = b) (h : Q (.bool true) s) : wpAny (model prog w) A (compareOp .Eq (.int a t) (.int b u)) Q E s :=
  PyProof.Rows.eq_int (by rw [e, beq_self_eq_true]; exact h)
theorem cmp_no {a b : Int} {t u : Tok} (e : a ≠ b) (h : Q (.bool false) s) : wpAny (model prog w) A (compareOp .Eq (.int a t) (.int b u)) Q E s :=
  PyProof.Rows.eq_int (by rw [beq_false_of_ne e]; exact h)
theorem int_bool {b : Bool} (h : ∀ t tk, Q (.int (if b then 1 else 0) t) { s with toks := tk }) : wpAny (model prog w) A (call (.type "int") [.bool b]) Q E s :=
  call_int_bool (h _ _)
end
theorem pre_cons {x : Int} {ns : List Int} (h0 : x ≠ 0) (h1 : x ≠ 127) : pre (x :: ns) = x :: pre ns := by
  unfold pre
  rw [List.takeWhile_cons, if_pos (by simp [h0, h1])]
theorem pre_zero (ns : List Int) : pre (0 :: ns) = [] := rfl
theorem pre_stop (ns : List Int) : pre (127 :: ns) = [] := rfl
theorem pre_nil : pre [] = [] := rfl
def intsOf : List Value → List Int
  | .int n _ :: r => n :: intsOf r
  | _ => []
theorem c_cutI (w : World) (mean : ExcName → Option Value) (mg mb : Str → Option Value) (l rl : Addr) (vs : List Value) (hi : IntsAre vs (intsOf vs)) (ws : List Value) (rs : List Row) (hx : StrsAre ws (rs.map rowS)) (hr : ∀ r ∈ rs, rowK r) (hrl : rs.length ≤ 10) (hpre : pre (intsOf vs) ≠ []) (hpv : ∀ x ∈ pre (intsOf vs), 1 ≤ x ∧ x ≤ 5) : Claim w mean mg mb 90 9 [.ref l, .ref rl] (fun h => h.IsList l ws.toArray ∧ h.IsList rl vs.toArray) (CutR (intsOf vs) rs) := c_cut w mean mg mb l rl vs (intsOf vs) hi ws rs hx hr hrl hpre hpv
theorem ints2 {vs : List Value} {a b : Int} (h : IntsAre vs [a, b]) : ∃ t u, vs = [.int a t, .int b u] := by
  cases h with | cons _ t h => cases h with | cons _ u h => cases h; exact ⟨t, u, rfl⟩
theorem ints3 {vs : List Value} {a b c : Int} (h : IntsAre vs [a, b, c]) : ∃ t u v, vs = [.int a t, .int b u, .int c v] := by
  cases h with | cons _ t h => obtain ⟨u, v, rfl⟩ := ints2 h; exact ⟨t, u, v, rfl⟩
theorem ints4 {vs : List Value} {a b c d : Int} (h : IntsAre vs [a, b, c, d]) : ∃ t u v w, vs = [.int a t, .int b u, .int c v, .int d w] := by
  cases h with | cons _ t h => obtain ⟨u, v, w, rfl⟩ := ints3 h; exact ⟨t, u, v, w, rfl⟩
theorem strs3 {vs : List Value} {a b c : Str} (h : StrsAre vs [a, b, c]) : ∃ t u v, vs = [.str a t, .str b u, .str c v] := by
  cases h with | cons _ t h => cases h with | cons _ u h => cases h with | cons _ v h => cases h; exact ⟨t, u, v, rfl⟩
theorem strs4 {vs : List Value} {a b c d : Str} (h : StrsAre vs [a, b, c, d]) : ∃ t u v w, vs = [.str a t, .str b u, .str c v, .str d w] := by
  cases h with | cons _ t h => obtain ⟨u, v, w, rfl⟩ := strs3 h; exact ⟨t, u, v, w, rfl⟩
theorem strs5 {vs : List Value} {a b c d e : Str} (h : StrsAre vs [a, b, c, d, e]) : ∃ t u v w x, vs = [.str a t, .str b u, .str c v, .str d w, .str e x] := by
  cases h with | cons _ t h => obtain ⟨u, v, w, x, rfl⟩ := strs4 h; exact ⟨t, u, v, w, x, rfl⟩
/-- apart from the two oldest alone: with more of such facts omega takes too long -/
def ApartN (a : Addr) : List (Addr × Obj) → Prop
  | [] => True
  | [p] => @Ne Nat a p.1
  | [p, q] => @Ne Nat a p.1 ∧ @Ne Nat a q.1
  | _ :: r => ApartN a r
theorem apartN_of {a : Addr} : ∀ {l : List (Addr × Obj)}, AllApart a (l.map (·.1)) → ApartN a l
  | [], _ => trivial
  | [p], h => h p.1 (.head _)
  | [p, q], h => ⟨h p.1 (.head _), h q.1 (.tail _ (.head _))⟩
  | _ :: q :: r :: l, h => apartN_of (l := q :: r :: l) fun b hb => h b (.tail _ hb)
/-- what a cut gives back, where what is told and the pieces are known -/
inductive Cut23 (x1 x2 : Int) (p1 p2 p3 : List Row) : List (Addr × Obj) → Value → Prop
  | mk (a lt lx : Addr) (t1 t2 u1 u2 u3 : Tok) (n1 n2 n3 : Nat) : Cut23 x1 x2 p1 p2 p3 [(a, { cls := .type "tuple", data := .seq #[.ref lt, .ref lx] n3 }), (lx, listOf (List.toArray [.str (mailStr p1) u1, .str (mailStr p2) u2, .str (mailStr p3) u3]) n2), (lt, listOf (List.toArray [.int x1 t1, .int x2 t2]) n1)] (.ref a)
theorem cut23_of {ns : List Int} {rs : List Row} {tl : List (Addr × Obj)} {v : Value} {x1 x2 : Int} {p1 p2 p3 : List Row} (R : CutR ns rs tl v) (hc : CutEnd ns rs [x1, x2] [p1, p2, p3]) : Cut23 x1 x2 p1 p2 p3 tl v := by
  obtain ⟨a, lt, lx, ws, xs, n1, n2, n3, told, pieces, rfl, rfl, i1, i2, c⟩ := R
  obtain ⟨rfl, rfl⟩ := cut_unique c hc
  obtain ⟨t1, t2, rfl⟩ := ints2 i1
  obtain ⟨u1, u2, u3, rfl⟩ := strs3 i2
  exact .mk ..
inductive Cut34 (x1 x2 x3 : Int) (p1 p2 p3 p4 : List Row) : List (Addr × Obj) → Value → Prop
  | mk (a lt lx : Addr) (t1 t2 t3 u1 u2 u3 u4 : Tok) (n1 n2 n3 : Nat) : Cut34 x1 x2 x3 p1 p2 p3 p4 [(a, { cls := .type "tuple", data := .seq #[.ref lt, .ref lx] n3 }), (lx, listOf (List.toArray [.str (mailStr p1) u1, .str (mailStr p2) u2, .str (mailStr p3) u3, .str (mailStr p4) u4]) n2), (lt, listOf (List.toArray [.int x1 t1, .int x2 t2, .int x3 t3]) n1)] (.ref a)
theorem cut34_of {ns : List Int} {rs : List Row} {tl : List (Addr × Obj)} {v : Value} {x1 x2 x3 : Int} {p1 p2 p3 p4 : List Row} (R : CutR ns rs tl v) (hc : CutEnd ns rs [x1, x2, x3] [p1, p2, p3, p4]) : Cut34 x1 x2 x3 p1 p2 p3 p4 tl v := by
  obtain ⟨a, lt, lx, ws, xs, n1, n2, n3, told, pieces, rfl, rfl, i1, i2, c⟩ := R
  obtain ⟨rfl, rfl⟩ := cut_unique c hc
  obtain ⟨t1, t2, t3, rfl⟩ := ints3 i1
  obtain ⟨u1, u2, u3, u4, rfl⟩ := strs4 i2
  exact .mk ..
inductive Cut45 (x1 x2 x3 x4 : Int) (p1 p2 p3 p4 p5 : List Row) : List (Addr × Obj) → Value → Prop
  | mk (a lt lx : Addr) (t1 t2 t3 t4 u1 u2 u3 u4 u5 : Tok) (n1 n2 n3 : Nat) : Cut45 x1 x2 x3 x4 p1 p2 p3 p4 p5 [(a, { cls := .type "tuple", data := .seq #[.ref lt, .ref lx] n3 }), (lx, listOf (List.toArray [.str (mailStr p1) u1, .str (mailStr p2) u2, .str (mailStr p3) u3, .str (mailStr p4) u4, .str (mailStr p5) u5]) n2), (lt, listOf (List.toArray [.int x1 t1, .int x2 t2, .int x3 t3, .int x4 t4]) n1)] (.ref a)
theorem cut45_of {ns : List Int} {rs : List Row} {tl : List (Addr × Obj)} {v : Value} {x1 x2 x3 x4 : Int} {p1 p2 p3 p4 p5 : List Row} (R : CutR ns rs tl v) (hc : CutEnd ns rs [x1, x2, x3, x4] [p1, p2, p3, p4, p5]) : Cut45 x1 x2 x3 x4 p1 p2 p3 p4 p5 tl v := by
  obtain ⟨a, lt, lx, ws, xs, n1, n2, n3, told, pieces, rfl, rfl, i1, i2, c⟩ := R
  obtain ⟨rfl, rfl⟩ := cut_unique c hc
  obtain ⟨t1, t2, t3, t4, rfl⟩ := ints4 i1
  obtain ⟨u1, u2, u3, u4, u5, rfl⟩ := strs5 i2
  exact .mk ..
def CutIs (ns : List Int) (rs : List Row) (told : List Int) (pieces : List (List Row)) : Prop := CutEnd ns rs told pieces
theorem shrink {h₀ h : Heap} {L : Addr} {x1 x2 x3 c2 c1 : Addr × Obj} {r : List (Addr × Obj)} (N : News h₀ L h (x1 :: x2 :: x3 :: r)) (e : r.drop (r.length - 2) = [c2, c1]) : News h₀ L h [x3, c2, c1] := by
  intro p hp
  rcases List.mem_cons.mp hp with rfl | hp
  · exact N _ (.tail _ (.tail _ (.head _)))
  · exact N _ (.tail _ (.tail _ (.tail _ (List.mem_of_mem_drop (e ▸ hp)))))
section
variable {prog : Program} {w : World} {A : Around} {E : Value → Shared → Prop} {s : Shared}
theorem item_new {h₀ : Heap} {L : Addr} {news : List (Addr × Obj)} {value slice : PySem.Expr} {a : Addr} {l : List Value} {n : Nat} {k : Int} {u : Tok} {x : Value} {Q : Value → Shared → Prop} (N : News h₀ L s.heap news) (hm : (a, listOf l.toArray n) ∈ news)
    (h0 : 0 ≤ k) (hfit : k < 2 ^ 63) (hx : l[k.toNat]? = some x) (h : Q x s)
    (hs : subscripted slice false (.ref a) (.int k u) = operate [.ref a, .int k u] (getItem (.ref a) (.int k u))) (hg : ∀ r, letTemporaryGo value (.ref a) r = pure ()) :
    wpAny (model prog w) A (subscriptTail value slice (.ref a) (.int k u)) Q E s := item_listL ⟨_, (N _ hm).1, rfl, _, rfl⟩ h0 hfit hx h hs hg
end

theorem shrinkT {h₀ h : Heap} {L ta : Addr} {v : Array Value} {n : Nat} {x2 c2 c1 : Addr × Obj} {r : List (Addr × Obj)} (N : News h₀ L h ((ta, { cls := .type "tuple", data := .seq v n }) :: x2 :: r)) (e : r.drop (r.length - 2) = [c2, c1]) : News h₀ L h [x2, c2, c1] := by
  intro p hp
  rcases List.mem_cons.mp hp with rfl | hp
  · exact N _ (.tail _ (.head _))
  · exact N _ (.tail _ (.tail _ (List.mem_of_mem_drop (e ▸ hp))))
section
variable {prog : Program} {w : World} {A : Around} {E : Value → Shared → Prop} {s : Shared}
theorem join_one {a : Addr} {vs : List Value} {p : List Row} {t t1 : Tok} {e : Str} {Q : Value → Shared → Prop} (he : e = ⟨#[]⟩) (hl : s.heap.IsList a vs.toArray) (hv : vs = [.str (mailStr p) t1]) (hp : ∀ r ∈ p, rowK r) (hn : p.length ≤ 10)
    (h : ∀ t' k, Q (.str (mailStr p) t') { s with toks := k }) : wpAny (model prog w) A (call (.builtin "str.join") [.str e t, .ref a]) Q E s := by
  subst he; subst hv
  have := flat_len hp
  refine join_list hl (ys := [mailStr p]) (.cons _ _ .nil) ?_ fun t' k => ?_
  · simp only [List.map_cons, List.map_nil, List.sum_cons, List.sum_nil, mail_len]
    simp only [List.length_cons, List.length_nil, show Str.length ⟨#[]⟩ = 0 from rfl]
    omega
  · have e : PySem.Txt.join ⟨#[]⟩ [mailStr p] = mailStr p := by unfold PySem.Txt.join; rw [PySem.StrLaws.glued_eq_join]; rfl
    rw [e]; exact h t' k
theorem join_two {a : Addr} {vs : List Value} {p q : List Row} {t t1 t2 : Tok} {e : Str} {Q : Value → Shared → Prop} (he : e = ⟨#[]⟩) (hl : s.heap.IsList a vs.toArray) (hv : vs = [.str (mailStr p) t1, .str (mailStr q) t2]) (hp : ∀ r ∈ p, rowK r) (hn : p.length ≤ 10)
    (hq : ∀ r ∈ q, rowK r) (hm : q.length ≤ 10) (h : ∀ t' k, Q (.str (mailStr (p ++ q)) t') { s with toks := k }) : wpAny (model prog w) A (call (.builtin "str.join") [.str e t, .ref a]) Q E s := by
  subst he; subst hv
  have := flat_len hp
  have := flat_len hq
  refine join_list hl (ys := [mailStr p, mailStr q]) (.cons _ _ (.cons _ _ .nil)) ?_ fun t' k => ?_
  · simp only [List.map_cons, List.map_nil, List.sum_cons, List.sum_nil, mail_len]
    simp only [List.length_cons, List.length_nil, show Str.length ⟨#[]⟩ = 0 from rfl]
    omega
  · have e : PySem.Txt.join ⟨#[]⟩ [mailStr p, mailStr q] = mailStr (p ++ q) := by
      unfold PySem.Txt.join; rw [PySem.StrLaws.glued_eq_join]
      show mailStr p ++ ⟨#[]⟩ ++ mailStr q = _
      apply Str.ext'
      simp [Str.cps_append, mailStr, flat]
    rw [e]; exact h t' k
end
abbrev ShareR (rs : List Row) (a d : Nat) (tl : List (Addr × Obj)) (v : Value) : Prop := tl = [] ∧ ∃ t, v = .str (mailStr (mineR rs a d)) t
theorem share_of {rs ps : List Row} {a d : Nat} {t : Tok} (e : ps = mineR rs a d) : ShareR rs a d [] (.str (mailStr ps) t) := ⟨rfl, t, by rw [e]⟩
theorem mine_two {rs : List Row} {a d n : Nat} (e : n = 5 + d) : (rs.drop a).take d ++ rs.drop n = mineR rs a d := by rw [e]; rfl
theorem mine_one {rs : List Row} {a d : Nat} (hr : rs.length = 10) (e : d = 5) : (rs.drop a).take d = mineR rs a 5 := by
  subst e; unfold mineR
  rw [List.drop_eq_nil_iff.mpr (show rs.length ≤ 5 + 5 by omega), List.append_nil]
theorem mine_zero {rs : List Row} {d n : Nat} (e : n = 5 + d) : rs.take d ++ rs.drop n = mineR rs 0 d := by rw [e]; rfl
theorem mine_end {rs : List Row} (hr : rs.length = 10) : rs.take 5 ++ [] = mineR rs 0 5 := by
  unfold mineR
  rw [List.drop_eq_nil_iff.mpr (show rs.length ≤ 5 + 5 by omega)]; rfl
theorem not_frames {name : Str} {scope : Scope} {L : Addr} {a : Addr} {cd : Value} {cl : List (Str × Addr)} {outer : List Env} {b : Addr} (n1 : b ≠ L) (n2 : b ∉ outer.filterMap (·.frame)) : b ∉ (envX name scope L a cd cl :: outer).filterMap (·.frame) := by
  intro hm
  obtain ⟨env', he', hf'⟩ := List.mem_filterMap.mp hm
  rcases List.mem_cons.mp he' with rfl | he'
  · exact n1 (Option.some.inj hf').symm
  · exact n2 (List.mem_filterMap.mpr ⟨env', he', hf'⟩)
theorem list_turn {fs : List Addr} {g g' : Heap} {l : Addr} {its : Array Value} (T : KtsTurn fs g g') (hl : g.IsList l its) : g'.IsList l its := by
  obtain ⟨o, ho, r⟩ := hl
  obtain ⟨sl, hs⟩ := T.up ho
  exact ⟨_, hs, r⟩
end Mine

end
-- LawLem
section
open PySem PySem.W PyProof.Rows PySem.Calls PySem.Spec PyProof.V
set_option maxRecDepth 100000
set_option maxHeartbeats 8000000
namespace Mine
theorem fresh_LawLem : True := by
  w_top off
  k_with_none
  k_with "omega" => lia
  trivial
theorem ints_get {vs : List Value} {ns : List Int} (h : IntsAre vs ns) : ∀ (i : Nat) (v : Value), vs[i]? = some v → ∃ n t, v = .int n t ∧ ns[i]? = some n := by
  induction h with
  | nil => intro i v e; simp at e
  | cons n t _ ih =>
    intro i v e
    cases i with
    | zero => exact ⟨n, t, by simpa using e.symm, rfl⟩
    | succ i => exact ih i v (by simpa using e)
theorem ints_len {vs : List Value} {ns : List Int} (h : IntsAre vs ns) : vs.length = ns.length := by
  induction h with
  | nil => rfl
  | cons _ _ _ ih => simp [ih]
theorem strs_get {vs : List Value} {ns : List Str} (h : StrsAre vs ns) : ∀ (i : Nat) (v : Value), vs[i]? = some v → ∃ n t, v = .str n t ∧ ns[i]? = some n := by
  induction h with
  | nil => intro i v e; simp at e
  | cons n t _ ih =>
    intro i v e
    cases i with
    | zero => exact ⟨n, t, by simpa using e.symm, rfl⟩
    | succ i => exact ih i v (by simpa using e)
theorem ints_snoc {vs : List Value} {ns : List Int} (h : IntsAre vs ns) (n : Int) (t : Tok) : IntsAre (vs ++ [.int n t]) (ns ++ [n]) := by
  induction h with
  | nil => exact .cons _ _ .nil
  | cons y u _ ih => exact .cons y u ih
theorem bead_three {bs : List Int} {k : Nat} (hB : BeadsOk k bs) {i : Nat} {b : Int} (e : bs[i]? = some b) : b = 0 ∨ b = 1 ∨ b = 2 := by
  have := hB.2.1 b (List.mem_of_getElem? e)
  omega
theorem bead_at {ws : List Value} {bs : List Int} {k : Nat} (hB : BeadsOk k bs) (hI : IntsAre ws bs) {i : Nat} {v : Value} (h : ws.toArray[i]? = some v) : ∃ b t, v = .int b t ∧ bs[i]? = some b ∧ (b = 0 ∨ b = 1 ∨ b = 2) := by
  obtain ⟨b, t, rfl, e⟩ := ints_get hI i v (by simpa using h)
  exact ⟨b, t, rfl, e, bead_three hB e⟩
section
variable {prog : Program} {w : World} {A : Around} {E : Value → Shared → Prop} {s : Shared}
theorem item_bead {value slice : PySem.Expr} {a : Addr} {ws : List Value} {bs : List Int} {i : Nat} {u : Tok} {Q : Value → Shared → Prop} (hl : s.heap.IsList a ws.toArray) (hI : IntsAre ws bs) (hB : BeadsOk 5 bs) (hi : i < 10)
    (h : ∀ b t, bs[i]? = some b → (b = 0 ∨ b = 1 ∨ b = 2) → Q (.int b t) s)
    (hs : subscripted slice false (.ref a) (.int (0 + (i : Int)) u) = operate [.ref a, .int (0 + (i : Int)) u] (getItem (.ref a) (.int (0 + (i : Int)) u))) (hg : ∀ r, letTemporaryGo value (.ref a) r = pure ()) :
    wpAny (model prog w) A (subscriptTail value slice (.ref a) (.int (0 + (i : Int)) u)) Q E s := by
  have hlen := ints_len hI
  rw [hB.1] at hlen
  have e : ws[i]? = some (ws[i]'(by omega)) := List.getElem?_eq_getElem _
  obtain ⟨b, t, eb, hb⟩ := ints_get hI i _ e
  rw [eb] at e
  refine item_listL hl (by omega) (by omega) (x := .int b t) ?_ (h b t hb (bead_three hB hb)) hs hg
  rw [show (0 + (i : Int)).toNat = i by omega]; exact e
theorem join_rows {rs : List Row} {a : Addr} {vs : List Value} {t : Tok} {e : Str} {Q : Value → Shared → Prop} (he : e = ⟨#[]⟩) (hl : s.heap.IsList a vs.toArray) (hi : StrsAre vs (rs.map rowS)) (hn : (flat rs).length ≤ 1000)
    (h : ∀ t' k, Q (.str (mailStr rs) t') { s with toks := k }) : wpAny (model prog w) A (call (.builtin "str.join") [.str e t, .ref a]) Q E s := by
  subst he
  have ec : cat (rs.map rowS) = flat rs := by
    clear hi hn h
    induction rs with
    | nil => rfl
    | cons r rs ih =>
      show (rowS r).cps.toList ++ cat (rs.map rowS) = _
      rw [ih, flat_cons]
      simp [rowS, mailStr, flat]
  refine join_list hl (by simpa using hi) ?_ fun t' k => ?_
  · rw [cat_len, ec, show Str.length ⟨#[]⟩ = 0 from rfl]; omega
  · have e : PySem.Txt.join ⟨#[]⟩ (rs.map rowS) = mailStr rs := by unfold PySem.Txt.join; rw [PySem.StrLaws.glued_eq_join]; exact join_mail rs
    rw [e]; exact h t' k
end
theorem ne_obj {h₀ h : Heap} {L c : Addr} {news : List (Addr × Obj)} {p : Addr × Obj} {o : Obj} {v₀ : Option Value} (N : News h₀ L h news) (hp : p ∈ news) (hc : (c, o) ∈ news) (hd : o.data = .cell v₀) (hn : ∀ v, p.2.data ≠ .cell v) : p.1 ≠ c := by
  intro e
  have h1 := (N p hp).1
  have h2 := (N _ hc).1
  rw [e] at h1
  rw [h1] at h2
  exact hn v₀ (by rw [Option.some.inj h2]; exact hd)
def Apt (d : Addr) (p : Addr × Obj) : Prop := (∀ v, p.2.data ≠ .cell v) ∨ @Ne Nat p.1 d
inductive UpdN (d : Addr) (o : Obj) : List (Addr × Obj) → (Obj → List (Addr × Obj)) → Prop
  | head {r : List (Addr × Obj)} : (∀ p ∈ r, Apt d p) → UpdN d o ((d, o) :: r) (fun o' => (d, o') :: r)
  | tail {p : Addr × Obj} {r : List (Addr × Obj)} {g : Obj → List (Addr × Obj)} : Apt d p → UpdN d o r g → UpdN d o (p :: r) (fun o' => p :: g o')
theorem apt_ne {h₀ h : Heap} {L c : Addr} {all : List (Addr × Obj)} {p : Addr × Obj} {o : Obj} {v₀ : Option Value} (N : News h₀ L h all) (hp : p ∈ all) (hc : (c, o) ∈ all) (hd : o.data = .cell v₀) (ha : Apt c p) : p.1 ≠ c := by
  rcases ha with hn | hn
  · exact ne_obj N hp hc hd hn
  · exact hn
theorem UpdN.toF {h₀ h : Heap} {L c : Addr} {o : Obj} {v₀ : Option Value} {all : List (Addr × Obj)} (N : News h₀ L h all) (hc : (c, o) ∈ all) (hd : o.data = .cell v₀) : ∀ {l : List (Addr × Obj)} {g : Obj → List (Addr × Obj)}, (∀ p ∈ l, p ∈ all) → UpdN c o l g → UpdF c o l g
  | _, _, hs, .head h => .head fun p hp => apt_ne N (hs p (.tail _ hp)) hc hd (h p hp)
  | _, _, hs, .tail h r => .tail (apt_ne N (hs _ (.head _)) hc hd h) (UpdN.toF N hc hd (fun p hp => hs p (.tail _ hp)) r)
theorem store_cell {M : Model} {A : Around} {E : Value → Shared → Prop} {s : Shared} {h₀ : Heap} {L c : Addr} {m : Str → Option Value} {news : List (Addr × Obj)} {g : Obj → List (Addr × Obj)} {o : Obj} {v₀ : Option Value} {v : Value} {env : Env} {x : Str} {Q : Unit → Shared → Prop}
    (hc : env.cells.lookup x = some c) (hm : (c, o) ∈ news) (hd : o.data = .cell v₀) (U : UpdN c o news g) (F : Fr h₀ L s.heap m) (N : News h₀ L s.heap news)
    (h : ∀ h' o', Fr h₀ L h' m → News h₀ L h' (g o') → o'.data = .cell (some v) → Q () { s with heap := h' })
    (hk : env.scope.kind = .function) (hx : env.kindOf x = some .cell) : wpAny M A (storeName env x v) Q E s := by
  obtain ⟨own, rest, e, hg, h1, h2⟩ := (U.toF N hm hd fun _ h => h).split
  have hmem := N (c, o) hm
  refine wpAny_storeName_cell hk hx hc ⟨o, hmem.1, hd⟩ fun h' hv hs => ?_
  obtain ⟨o', ho', hd'⟩ := hv
  subst e
  refine h h' o' ⟨F.ns.sameBut hs (Ne.symm hmem.2.1), fun b ob e => (hs.2 b (fun q => ?_)).trans (F.keep b ob e), F.above⟩ (hg o' ▸ N.setAt h1 h2 hs ho') hd'
  rw [q, hmem.2.2] at e; cases e
def Stop (p : Prop) : Prop := p
theorem stopHere {p : Prop} (h : Stop p) : p := h
noncomputable abbrev lawEnv (L fa : Addr) (cd : Value) : Env := envOfC lawRec.name lawRec.scope L fa cd
/-- the law's body from its k-th row on -/
def LawGo (k : Nat) (w : World) (L fa : Addr) (cd : Value) (Q : Flow → Shared → Prop) (E : Value → Shared → Prop) (s : Shared) : Prop :=
  wpAny (model PySem.Challenge.rw_sr0007_01.row.prog w) (callerA.deeper (lawEnv L fa cd)) (execs (lawRec.body.drop k) (lawEnv L fa cd)) Q E s
def AfterRow (k : Nat) (w : World) (L fa : Addr) (cd : Value) (Q : Flow → Shared → Prop) (E : Value → Shared → Prop) (f : Flow) (s' : Shared) : Prop := match f with
  | .next => LawGo k w L fa cd Q E s'
  | f => Q f s'
/-- the row's end, and that the tokens did not run back -/
def AfterRowT (n k : Nat) (w : World) (L fa : Addr) (cd : Value) (Q : Flow → Shared → Prop) (E : Value → Shared → Prop) (f : Flow) (s' : Shared) : Prop := n ≤ s'.toks → AfterRow k w L fa cd Q E f s'
theorem law_row {k : Nat} {w : World} {L fa : Addr} {cd : Value} {Q : Flow → Shared → Prop} {E : Value → Shared → Prop} {s : Shared} {st : Stmt} {rest : List Stmt} (hst : lawRec.body.drop k = st :: rest)
   (h : wpAny (model PySem.Challenge.rw_sr0007_01.row.prog w) (callerA.deeper (lawEnv L fa cd)) (exec st (lawEnv L fa cd)) (AfterRowT s.toks (k + 1) w L fa cd Q E) E s) : LawGo k w L fa cd Q E s := by
  have e : rest = lawRec.body.drop (k + 1) := by rw [← List.tail_drop, hst]; rfl
  unfold LawGo
  rw [hst]
  refine wpAny_execs_cons (wpAny_with_toks (Nat.le_refl s.toks) (wpAny_mono h (fun f s' h' hk => ?_) fun _ _ e _ => e))
  have h'' := h' hk
  cases f <;> first | exact h'' | (rw [e]; exact h'')
/-- where the law's body stands: its ground -/
structure Here (w : World) (mean : ExcName → Option Value) (mg mb : Str → Option Value) (h₀ base : Heap) : Prop where
  B : Below callerA base [] h₀
  X : (hd.heap_39 w.params).In h₀
  T : Top hd.view_39 (looseW hd.view_39 lse) mean mg mb h₀
  XB : (hd.heap_39 w.params).In base
  TB : Top hd.view_39 (looseW hd.view_39 lse) mean mg mb base
def pairsOf (rs : List Row) : List (List Row) := [rs.take 2, (rs.drop 2).take 2, (rs.drop 4).take 2, (rs.drop 6).take 2, (rs.drop 8).take 2, []]
theorem cut_pairs {rs : List Row} (hr : rs.length = 10) : CutEnd [2, 0, 9] rs [2, 2, 2, 2, 2] (pairsOf rs) := by
  have hne : rs ≠ [] := by intro e; rw [e] at hr; cases hr
  have v : ∀ i, valAt [2, 0, 9] i = some 2 := fun i => by
    cases i with
    | zero => rfl
    | succ i => rfl
  have c1 := cut_step (rs := rs) (v 0)
  rw [show cutAt [2, 0, 9] rs 0 = ([], [], rs) from rfl] at c1
  dsimp only at c1
  have c2 := cut_step (rs := rs) (v 1)
  rw [c1] at c2
  have c3 := cut_step (rs := rs) (v 2)
  rw [c2] at c3
  have c4 := cut_step (rs := rs) (v 3)
  rw [c3] at c4
  have c5 := cut_step (rs := rs) (v 4)
  rw [c4] at c5
  simp only [List.drop_drop, List.nil_append, List.cons_append, show (2 : Int).toNat = 2 from rfl] at c1 c2 c3 c4 c5
  have e5 : (cutAt [2, 0, 9] rs 5).2.2 = [] := by rw [c5]; exact List.drop_eq_nil_iff.mpr (by omega)
  refine ⟨5, by omega, ?_, .inl e5, ?_, ?_⟩
  · intro j hj
    have : j = 0 ∨ j = 1 ∨ j = 2 ∨ j = 3 ∨ j = 4 := by omega
    rcases this with rfl | rfl | rfl | rfl | rfl
    · exact ⟨hne, by rw [v]; simp⟩
    · exact ⟨by rw [c1]; exact drop_ne (by omega), by rw [v]; simp⟩
    · exact ⟨by rw [c2]; exact drop_ne (by omega), by rw [v]; simp⟩
    · exact ⟨by rw [c3]; exact drop_ne (by omega), by rw [v]; simp⟩
    · exact ⟨by rw [c4]; exact drop_ne (by omega), by rw [v]; simp⟩
  · rw [c5]
  · rw [e5, c5]; rfl
noncomputable def sentM (rs : List Row) (D : Addr) (t : Tok) (u : Str → Option Value) : Str → Option Value := fun z => if z = Str.ofString "sent" then some (.str (mailStr (rs.map quote1)) t) else if z = Str.ofString "rows" then some (.ref D) else u z
/-- what the pieces' colours are kept in -/
inductive Parts : List (List Row) → List Value → List (Addr × Obj) → Prop
  | nil : Parts [] [] []
  | snoc {ps : List (List Row)} {ys : List Value} {added : List (Addr × Obj)} {p : List Row} {a : Addr} {t1 t2 t3 : Tok} {n : Nat} : Parts ps ys added →
      Parts (ps ++ [p]) (ys ++ [.ref a]) ((a, listOf #[.int (cnt 0 p : Nat) t1, .int (cnt 1 p : Nat) t2, .int (cnt 2 p : Nat) t3] n) :: added)
theorem of_mem {h₀ h : Heap} {L a : Addr} {news : List (Addr × Obj)} {vs : List Value} {n : Nat} (N : News h₀ L h news) (hm : (a, listOf vs.toArray n) ∈ news) : h.IsList a vs.toArray := ⟨_, (N _ hm).1, rfl, _, rfl⟩
theorem parts_get {ps : List (List Row)} {ys : List Value} {added : List (Addr × Obj)} (h : Parts ps ys added) : ∀ (j : Nat) (v : Value), ys[j]? = some v → ∃ a p t1 t2 t3 n, v = .ref a ∧ ps[j]? = some p ∧ (a, listOf #[.int (cnt 0 p : Nat) t1, .int (cnt 1 p : Nat) t2, .int (cnt 2 p : Nat) t3] n) ∈ added := by
  induction h with
  | nil => intro j v e; simp at e
  | @snoc ps ys added p a t1 t2 t3 n hP ih =>
    have hlen : ps.length = ys.length := by
      clear ih
      induction hP with
      | nil => rfl
      | snoc _ ih => simp [ih]
    intro j v e
    rcases Nat.lt_or_ge j ys.length with q | q
    · rw [List.getElem?_append_left q] at e
      obtain ⟨a', p', t1', t2', t3', n', e1, e2, e3⟩ := ih j v e
      exact ⟨a', p', t1', t2', t3', n', e1, by rw [List.getElem?_append_left (by omega)]; exact e2, .tail _ e3⟩
    · have : j = ys.length := by
        have := (List.getElem?_eq_some_iff.mp e).1
        simp at this; omega
      subst this
      simp at e
      exact ⟨a, p, t1, t2, t3, n, e.symm, by rw [← hlen]; simp, .head _⟩
theorem parts_len {ps : List (List Row)} {ys : List Value} {added : List (Addr × Obj)} (h : Parts ps ys added) : ys.length = ps.length := by
  induction h with
  | nil => rfl
  | snoc _ ih => simp [ih]
section
variable {prog : Program} {w : World} {A : Around} {E : Value → Shared → Prop} {s : Shared} {h₀ : Heap} {L t : Addr} {m : Str → Option Value} {news : List (Addr × Obj)}
theorem sum_new {vs : List Value} {ns : List Int} {Q : Value → Shared → Prop} (hh : A.handled = none) (F : Fr h₀ L s.heap m) (N : News h₀ L s.heap news) (hl : s.heap.IsList t vs.toArray) (hi : IntsAre vs ns)
    (h : ∀ h' tk t', Fr h₀ L h' m → News h₀ L h' news → Q (.int ns.sum t') { s with heap := h', toks := tk }) : wpAny (model prog w) A (call (.builtin "sum") [.ref t]) Q E s := by
  obtain ⟨xs, hx⟩ := hi.allInts.items
  have hn : numsOf vs.toArray.toList = ns := by rw [show vs.toArray.toList = vs from rfl, hi.numsOf]
  rw [hx] at hl hn
  rw [nums_intItems] at hn
  refine sum_intListG hh hl fun h' tk t' hk => ?_
  rw [preSum_eq, List.take_of_length_le (by simp), hn]
  exact h h' tk t' (F.grownK hk) (fun p hp => ⟨hk _ _ (N p hp).1, (N p hp).2⟩)
theorem item_part {value slice : PySem.Expr} {a : Addr} {p : List Row} {t1 t2 t3 : Tok} {n i : Nat} {u : Tok} {Q : Value → Shared → Prop} (N : News h₀ L s.heap news) (hm : (a, listOf #[.int (cnt 0 p : Nat) t1, .int (cnt 1 p : Nat) t2, .int (cnt 2 p : Nat) t3] n) ∈ news) (hi : i < 3)
    (h : ∀ t, Q (.int (cnt (i : Int) p : Nat) t) s)
    (hs : subscripted slice false (.ref a) (.int (0 + (i : Int)) u) = operate [.ref a, .int (0 + (i : Int)) u] (getItem (.ref a) (.int (0 + (i : Int)) u))) (hg : ∀ r, letTemporaryGo value (.ref a) r = pure ()) :
    wpAny (model prog w) A (subscriptTail value slice (.ref a) (.int (0 + (i : Int)) u)) Q E s := by
  have : i = 0 ∨ i = 1 ∨ i = 2 := by omega
  rcases this with rfl | rfl | rfl
  · exact item_listL (l := [.int (cnt 0 p : Nat) t1, .int (cnt 1 p : Nat) t2, .int (cnt 2 p : Nat) t3]) (of_mem N hm) (by decide) (by decide) rfl (h t1) hs hg
  · exact item_listL (l := [.int (cnt 0 p : Nat) t1, .int (cnt 1 p : Nat) t2, .int (cnt 2 p : Nat) t3]) (of_mem N hm) (by decide) (by decide) rfl (h t2) hs hg
  · exact item_listL (l := [.int (cnt 0 p : Nat) t1, .int (cnt 1 p : Nat) t2, .int (cnt 2 p : Nat) t3]) (of_mem N hm) (by decide) (by decide) rfl (h t3) hs hg
end
-- rows
def RowsP {k : Nat} {bs : List Int} (_ : BeadsOk k bs) (i : Nat) (ys : List Value) : Prop := StrsAre ys (((rowsOf bs).take i).map rowS)
theorem rows_start {k : Nat} {bs : List Int} (hB : BeadsOk k bs) : RowsP hB 0 [] := by unfold RowsP; rw [List.take_zero]; exact .nil
theorem rows_done {bs : List Int} (hB : BeadsOk 5 bs) {ys : List Value} (h : RowsP hB 10 ys) : StrsAre ys ((rowsOf bs).map rowS) := by
  unfold RowsP at h
  rwa [List.take_of_length_le (by rw [rowsOf_len, hB.1]; decide)] at h
theorem rows_snoc {k : Nat} {bs : List Int} (hB : BeadsOk k bs) {i : Nat} {ys : List Value} {b : Int} {X : Str} {t : Tok} (h : RowsP hB i ys) (e : bs[i]? = some b) (hX : X = rowS (rowOf i b)) : RowsP hB (i + 1) (ys ++ [.str X t]) := by
  unfold RowsP at *
  rw [rowsOf_take e, List.map_append, hX]
  exact strs_snoc h _ _
theorem row_red (i : Nat) : Str.ofString ".\r\n" = rowS (rowOf i 0) := by show _ = rowS ([46], [13, 10]); decide +kernel
theorem row_blue (i : Nat) : Str.ofString "b.\r\n" = rowS (rowOf i 2) := by show _ = rowS ([98, 46], [13, 10]); decide +kernel
theorem row_green (i : Nat) : Str.ofString "g." ++ PySem.Txt.item (Str.ofString "\n\r") ((0 + (i : Int)).fmod 2) = rowS (rowOf i 1) := by
  have e : rowOf i 1 = ([103, 46], [if i % 2 = 0 then 10 else 13]) := rfl
  rw [e]
  rcases Nat.mod_two_eq_zero_or_one i with q | q
  · rw [if_pos q, show (0 + (i : Int)).fmod 2 = 0 by rw [Int.fmod_eq_emod_of_nonneg _ (by decide)]; omega]; decide +kernel
  · rw [if_neg (by omega), show (0 + (i : Int)).fmod 2 = 1 by rw [Int.fmod_eq_emod_of_nonneg _ (by decide)]; omega]; decide +kernel
-- sent
def SentP {k : Nat} {bs : List Int} (_ : BeadsOk k bs) (i : Nat) (ys : List Value) : Prop := StrsAre ys ((((rowsOf bs).take i).map quote1).map rowS)
theorem sent_start {k : Nat} {bs : List Int} (hB : BeadsOk k bs) : SentP hB 0 [] := by unfold SentP; rw [List.take_zero]; exact .nil
theorem sent_done {bs : List Int} (hB : BeadsOk 5 bs) {n : Nat} {ys : List Value} (hn : 10 ≤ n) (h : SentP hB n ys) : StrsAre ys (((rowsOf bs).map quote1).map rowS) := by
  unfold SentP at h
  rwa [List.take_of_length_le (by rw [rowsOf_len, hB.1]; exact hn)] at h
theorem sent_snoc {k : Nat} {bs : List Int} (hB : BeadsOk k bs) {i : Nat} {ys : List Value} {b : Int} {X : Str} {t : Tok} (h : SentP hB i ys) (e : bs[i]? = some b) (hX : X = rowS (quote1 (rowOf i b))) : SentP hB (i + 1) (ys ++ [.str X t]) := by
  unfold SentP at *
  rw [rowsOf_take e, List.map_append, List.map_append, hX]
  exact strs_snoc h _ _
theorem sent_red (i : Nat) : Str.ofString "..\r\n" = rowS (quote1 (rowOf i 0)) := by show _ = rowS ([46, 46], [13, 10]); decide +kernel
theorem sent_green (i : Nat) : Str.ofString "g.\r\n" = rowS (quote1 (rowOf i 1)) := by show _ = rowS ([103, 46], [13, 10]); decide +kernel
theorem sent_blue (i : Nat) : Str.ofString "b.\r\n" = rowS (quote1 (rowOf i 2)) := by show _ = rowS ([98, 46], [13, 10]); decide +kernel
theorem good_rows (bs : List Int) : ∀ r ∈ rowsOf bs, good r := fun r h => rowK_good (rowsOf_K bs r h)
theorem rows_flat {bs : List Int} (hB : BeadsOk 5 bs) : (flat (rowsOf bs)).length ≤ 40 := by
  have := flat_len (rowsOf_K bs)
  rw [rowsOf_len, hB.1] at this; omega
theorem sent_flat {bs : List Int} (hB : BeadsOk 5 bs) : (flat ((rowsOf bs).map quote1)).length ≤ 120 := by
  have := quote_len (good_rows bs)
  have := rows_flat hB
  omega
-- counts
abbrev beadsOf {k : Nat} {bs : List Int} (_ : BeadsOk k bs) : List Int := bs
def CountP (bs : List Int) (i : Nat) (ys : List Value) : Prop := IntsAre ys ((List.range i).map fun k => ((bs.count ((k : Nat) : Int) : Nat) : Int))
theorem count_start (bs : List Int) : CountP bs 0 [] := .nil
theorem count_snoc {bs : List Int} {i : Nat} {ys : List Value} {X : Int} {t : Tok} (h : CountP bs i ys) (hX : X = ((bs.count (0 + (i : Int)) : Nat) : Int)) : CountP bs (i + 1) (ys ++ [.int X t]) := by
  unfold CountP at *
  rw [List.range_succ, List.map_append, hX, Int.zero_add]
  exact ints_snoc h _ _
theorem count_done {bs : List Int} {ys : List Value} (h : CountP bs 3 ys) : IntsAre ys [((bs.count 0 : Nat) : Int), ((bs.count 1 : Nat) : Int), ((bs.count 2 : Nat) : Int)] := h
end Mine

end
-- L4
section
open PySem PySem.W PyProof.Rows PySem.Calls
set_option maxRecDepth 100000
set_option maxHeartbeats 8000000
namespace Mine
theorem fresh_L4 : True := by
  w_top off
  k_with_none
  k_with "omega" => lia
  trivial
theorem rows_L4_1 : True := by
  k_with "call ref" => (k_here; (with_reducible show wpAny _ _ (call (Value.ref 76) [Value.ref _]) _ _ _); k_dflt (refine' claim_use (c_neck _ _ _ _ _ _ _ ?hi ?hn) ?k1 ?k2 ?k3 ?k4 ?k5 ?kK ?kp ?kd ?ku ?_; (case hi => assumption); (case hn => assumption); (case k1 => k_asm); (case k2 => k_asm); (case k3 => k_asm); (case k4 => k_asm); (case k5 => k_asm); (case kK => first | exact rfl | assumption); (case kp => is_list); (case kd => ktr_room); (case ku => ktr_units); intro r9 tl9 h9 tk9 g9 F9 N9 K9 l9 G9 R9; obtain ⟨a9, ws9, bs9, n9, e9, e9', i9, b9⟩ := R9; subst e9; subst e9'; clear l9 K9; simp only [List.cons_append, List.nil_append] at N9; (try dsimp only)))
  k_with "CompEnd" => (k_dflt (refine' LCg.CompEnd.intro ?F ?N _ ?sub ?off ?src (And.intro rfl ?J); (case F => k_asm); (case N => k_asm); (case sub => lcg_sub); (case off => assumption); (case src => lcg_src); (case J => first | exact rows_snoc _ (by assumption) (by assumption) (by first | exact row_red _ | exact row_green _ | exact row_blue _) | exact sent_snoc _ (by assumption) (by assumption) (by first | exact sent_red _ | exact sent_green _ | exact sent_blue _) | exact count_snoc (by assumption) rfl)))
  k_with "subscriptTail Name Name ref int" => (k_here; (with_reducible show wpAny _ _ (subscriptTail _ _ (Value.ref _) (Value.int _ _)) _ _ _); k_dflt (refine' item_bead ?l ?i ?B ?n ?_ ?s ?g; (case l => is_list); (case i => assumption); (case B => assumption); (case n => assumption); (case s => with_unfolding_all rfl); (case g => (intro _; with_unfolding_all rfl)); intro b8 t8 e8 c8; (rcases c8 with c8 | c8 | c8 <;> subst c8)))
  k_with "subscriptTail List Subscript ref int" => (k_here; (with_reducible show wpAny _ _ (subscriptTail _ _ (Value.ref _) (Value.int _ _)) _ _ _); k_dflt (refine' item_new ?k1 ?k2 ?k3 ?k4 ?k5 ?_ ?k6 ?k7; (case k1 => k_asm); (case k2 => k_mem); (case k3 => decide); (case k4 => decide); (case k5 => exact rfl); (case k6 => with_unfolding_all rfl); (case k7 => (intro _; with_unfolding_all rfl))))
  k_with "subscriptTail List Name ref int" => (k_here; (with_reducible show wpAny _ _ (subscriptTail _ _ (Value.ref _) (Value.int _ _)) _ _ _); k_dflt (refine' item_new ?k1 ?k2 ?k3 ?k4 ?k5 ?_ ?k6 ?k7; (case k1 => k_asm); (case k2 => k_mem); (case k3 => decide); (case k4 => decide); (case k5 => exact rfl); (case k6 => with_unfolding_all rfl); (case k7 => (intro _; with_unfolding_all rfl))))
  k_with "call builtin:str.join" => (k_here; (with_reducible show wpAny _ _ (call (Value.builtin "str.join") [Value.str _ _, Value.ref _]) _ _ _); k_dflt (refine' join_rows ?e ?l ?i ?n ?_; (case e => with_unfolding_all rfl); (case l => is_list); (case i => assumption); (case n => first | exact Nat.le_trans (rows_flat (by assumption)) (by decide) | exact Nat.le_trans (sent_flat (by assumption)) (by decide)); intro t6 k6; (try dsimp only)))
  k_with "storeName" => (k_here; k_dflt (refine' store_cell ?c ?m ?d ?U ?F ?N ?_ ?a ?b; (case a => rfl); (case b => rfl); (case c => rfl); (case F => k_asm); (case N => k_asm); (case m => k_mem); (case d => k_asm); (case U => (first | (refine UpdN.head ?_; (repeat (first | exact List.forall_mem_nil _ | (refine List.forall_mem_cons.mpr ⟨Or.inr (by (try dsimp only); omega), ?_⟩)))) | (refine' UpdN.tail ?q ?b3; (case q => first | (exact Or.inl (by intro v e; cases e)) | (exact Or.inr (by (try dsimp only); omega))); (case b3 => (first | (refine UpdN.head ?_; (repeat (first | exact List.forall_mem_nil _ | (refine List.forall_mem_cons.mpr ⟨Or.inr (by (try dsimp only); omega), ?_⟩)))) | (refine' UpdN.tail ?q ?b3; (case q => first | (exact Or.inl (by intro v e; cases e)) | (exact Or.inr (by (try dsimp only); omega))); (case b3 => (first | (refine UpdN.head ?_; (repeat (first | exact List.forall_mem_nil _ | (refine List.forall_mem_cons.mpr ⟨Or.inr (by (try dsimp only); omega), ?_⟩)))) | (refine' UpdN.tail ?q ?b3; (case q => first | (exact Or.inl (by intro v e; cases e)) | (exact Or.inr (by (try dsimp only); omega))); (case b3 => (first | (refine UpdN.head ?_; (repeat (first | exact List.forall_mem_nil _ | (refine List.forall_mem_cons.mpr ⟨Or.inr (by (try dsimp only); omega), ?_⟩)))) | (refine' UpdN.tail ?q ?b3; (case q => first | (exact Or.inl (by intro v e; cases e)) | (exact Or.inr (by (try dsimp only); omega))); (case b3 => (first | (refine UpdN.head ?_; (repeat (first | exact List.forall_mem_nil _ | (refine List.forall_mem_cons.mpr ⟨Or.inr (by (try dsimp only); omega), ?_⟩)))) | (refine' UpdN.tail ?q ?b3; (case q => first | (exact Or.inl (by intro v e; cases e)) | (exact Or.inr (by (try dsimp only); omega))); (case b3 => (first | (refine UpdN.head ?_; (repeat (first | exact List.forall_mem_nil _ | (refine List.forall_mem_cons.mpr ⟨Or.inr (by (try dsimp only); omega), ?_⟩)))) | (refine' UpdN.tail ?q ?b3; (case q => first | (exact Or.inl (by intro v e; cases e)) | (exact Or.inr (by (try dsimp only); omega))); (case b3 => (first | (refine UpdN.head ?_; (repeat (first | exact List.forall_mem_nil _ | (refine List.forall_mem_cons.mpr ⟨Or.inr (by (try dsimp only); omega), ?_⟩)))) | (refine' UpdN.tail ?q ?b3; (case q => first | (exact Or.inl (by intro v e; cases e)) | (exact Or.inr (by (try dsimp only); omega))); (case b3 => (first | (refine UpdN.head ?_; (repeat (first | exact List.forall_mem_nil _ | (refine List.forall_mem_cons.mpr ⟨Or.inr (by (try dsimp only); omega), ?_⟩)))) | (refine' UpdN.tail ?q ?b3; (case q => first | (exact Or.inl (by intro v e; cases e)) | (exact Or.inr (by (try dsimp only); omega))); (case b3 => (first | (refine UpdN.head ?_; (repeat (first | exact List.forall_mem_nil _ | (refine List.forall_mem_cons.mpr ⟨Or.inr (by (try dsimp only); omega), ?_⟩)))) | (refine' UpdN.tail ?q ?b3; (case q => first | (exact Or.inl (by intro v e; cases e)) | (exact Or.inr (by (try dsimp only); omega))); (case b3 => (first | (refine UpdN.head ?_; (repeat (first | exact List.forall_mem_nil _ | (refine List.forall_mem_cons.mpr ⟨Or.inr (by (try dsimp only); omega), ?_⟩)))) | (refine' UpdN.tail ?q ?b3; (case q => first | (exact Or.inl (by intro v e; cases e)) | (exact Or.inr (by (try dsimp only); omega))); (case b3 => (first | (refine UpdN.head ?_; (repeat (first | exact List.forall_mem_nil _ | (refine List.forall_mem_cons.mpr ⟨Or.inr (by (try dsimp only); omega), ?_⟩)))) | (refine' UpdN.tail ?q ?b3; (case q => first | (exact Or.inl (by intro v e; cases e)) | (exact Or.inr (by (try dsimp only); omega))); (case b3 => (first | (refine UpdN.head ?_; (repeat (first | exact List.forall_mem_nil _ | (refine List.forall_mem_cons.mpr ⟨Or.inr (by (try dsimp only); omega), ?_⟩)))) | (refine' UpdN.tail ?q ?b3; (case q => first | (exact Or.inl (by intro v e; cases e)) | (exact Or.inr (by (try dsimp only); omega))); (case b3 => (first | (refine UpdN.head ?_; (repeat (first | exact List.forall_mem_nil _ | (refine List.forall_mem_cons.mpr ⟨Or.inr (by (try dsimp only); omega), ?_⟩)))) | (refine' UpdN.tail ?q ?b3; (case q => first | (exact Or.inl (by intro v e; cases e)) | (exact Or.inr (by (try dsimp only); omega))); (case b3 => (first | (refine UpdN.head ?_; (repeat (first | exact List.forall_mem_nil _ | (refine List.forall_mem_cons.mpr ⟨Or.inr (by (try dsimp only); omega), ?_⟩)))) | (refine' UpdN.tail ?q ?b3; (case q => first | (exact Or.inl (by intro v e; cases e)) | (exact Or.inr (by (try dsimp only); omega))); (case b3 => (first | (refine UpdN.head ?_; (repeat (first | exact List.forall_mem_nil _ | (refine List.forall_mem_cons.mpr ⟨Or.inr (by (try dsimp only); omega), ?_⟩)))) | (refine' UpdN.tail ?q ?b3; (case q => first | (exact Or.inl (by intro v e; cases e)) | (exact Or.inr (by (try dsimp only); omega))); (case b3 => (first | (refine UpdN.head ?_; (repeat (first | exact List.forall_mem_nil _ | (refine List.forall_mem_cons.mpr ⟨Or.inr (by (try dsimp only); omega), ?_⟩)))) | (refine' UpdN.tail ?q ?b3; (case q => first | (exact Or.inl (by intro v e; cases e)) | (exact Or.inr (by (try dsimp only); omega))); (case b3 => (refine UpdN.head ?_; (repeat (first | exact List.forall_mem_nil _ | (refine List.forall_mem_cons.mpr ⟨Or.inr (by (try dsimp only); omega), ?_⟩))))))))))))))))))))))))))))))))))))))))))))))))))))); k_whole; intro h' o' F' N' d'; (try dsimp only at N'); (try k_sweep)))
  k_with "eval ListComp" => (k_here; refine stopHere ?_)
  k_with "exec Assign cons ListComp" => (k_here; (with_reducible show wpAny _ _ (exec (Stmt.Assign [Expr.Name (Str.ofString "rows") _] _ _) _) _ _ _); refine stopHere ?_)
  k_with "exec Assign cons ListComp" => (k_here; (with_reducible show wpAny _ _ (exec (Stmt.Assign [Expr.Name (Str.ofString "twice") _] _ _) _) _ _ _); refine stopHere ?_)
  k_with "CompSrc" => (k_here; refine stopHere ?_)
  trivial
theorem law_rows (w : World) (mean : ExcName → Option Value) (mg mb : Str → Option Value) (h₀ base : Heap) (Z : Here w mean mg mb h₀ base) (fa : Addr) (cd : Value) (L a : Addr) (ws : List Value) (bs : List Int) (n : Nat) (hI : IntsAre ws bs) (hB : BeadsOk 5 bs) (s : Shared) (u : Str → Option Value) (o1 o2 o3 o4 o5 o6 o7 o8 : Obj)
   (d1 : o1.data = .cell (some (.ref a))) (F : Fr h₀ L s.heap u) (N : News h₀ L s.heap ((a, listOf ws.toArray n) :: cellsOf L o1 o2 o3 o4 o5 o6 o7 o8)) (Q : Flow → Shared → Prop) (E : Value → Shared → Prop)
   (next : ∀ D ys h' tk, s.toks ≤ tk → StrsAre ys ((rowsOf bs).map rowS) → Fr h₀ L h' (fun z => if z = Str.ofString "rows" then some (.ref D) else u z) → News h₀ L h' ((D, LCg.lst ys) :: (a, listOf ws.toArray n) :: cellsOf L o1 o2 o3 o4 o5 o6 o7 o8) → LawGo 2 w L fa cd Q E { s with heap := h', toks := tk }) :
   LawGo 1 w L fa cd Q E s := by
  obtain ⟨B, X, T, XB, TB⟩ := Z
  unfold cellsOf at N
  refine law_row (by unfold lawRec recOf; rfl) ?_
  unfold lawEnv lawRec recOf
  dsimp only
  revert X
  k_fill
  intro X
  k_steps
  unfold Stop
  refine LCg.Assign_ListComp_U (F₀ := by k_asm) (by rfl) (by with_unfolding_all rfl) (by with_unfolding_all rfl) (by decide) (by rfl) (by decide) (by rfl) (by rfl) (by rfl) ?_
  k_dflt lcg_toSrc
  unfold Stop
  refine LCg.CompSrc.range (n := 10) (by rfl) (by k_asm) (by k_asm) (by assumption) (by first | decide | rfl) (by first | rfl | decide) (by first | size_fits | exact Nat.le_of_ble_eq_true rfl) ?_
  intro g7
  refine comp_inv (KeepJ _ (RowsP hB)) ?turn ?fin 10 0 [] _ rfl ⟨rfl, rows_start hB⟩
  case fin =>
    rintro ys7 news7 ⟨rfl, hP7⟩
    unfold LCg.FinA
    intro D' h' tk' F' N' _
    exact fun hk => next D' ys7 h' tk' hk (rows_done hB hP7) F' N'
  case turn =>
    rintro i7 ys7 news7 hi7 ⟨rfl, hP7⟩ v7 I7 oI7 C7 oC7 D7 m7 h7 tk7 E7 ⟨t7, rfl⟩ hC7 hx7 F7 N7 off7
    k_steps
end Mine

end
-- L5
section
open PySem PySem.W PyProof.Rows PySem.Calls
set_option maxRecDepth 100000
set_option maxHeartbeats 8000000
namespace Mine
theorem fresh_L5 : True := by
  w_top off
  k_with_none
  k_with "omega" => lia
  trivial
theorem rows_L5_1 : True := by
  k_with "call ref" => (k_here; (with_reducible show wpAny _ _ (call (Value.ref 76) [Value.ref _]) _ _ _); k_dflt (refine' claim_use (c_neck _ _ _ _ _ _ _ ?hi ?hn) ?k1 ?k2 ?k3 ?k4 ?k5 ?kK ?kp ?kd ?ku ?_; (case hi => assumption); (case hn => assumption); (case k1 => k_asm); (case k2 => k_asm); (case k3 => k_asm); (case k4 => k_asm); (case k5 => k_asm); (case kK => first | exact rfl | assumption); (case kp => is_list); (case kd => ktr_room); (case ku => ktr_units); intro r9 tl9 h9 tk9 g9 F9 N9 K9 l9 G9 R9; obtain ⟨a9, ws9, bs9, n9, e9, e9', i9, b9⟩ := R9; subst e9; subst e9'; clear l9 K9; simp only [List.cons_append, List.nil_append] at N9; (try dsimp only)))
  k_with "CompEnd" => (k_dflt (refine' LCg.CompEnd.intro ?F ?N _ ?sub ?off ?src (And.intro rfl ?J); (case F => k_asm); (case N => k_asm); (case sub => lcg_sub); (case off => assumption); (case src => lcg_src); (case J => first | exact rows_snoc _ (by assumption) (by assumption) (by first | exact row_red _ | exact row_green _ | exact row_blue _) | exact sent_snoc _ (by assumption) (by assumption) (by first | exact sent_red _ | exact sent_green _ | exact sent_blue _) | exact count_snoc (by assumption) rfl)))
  k_with "subscriptTail Name Name ref int" => (k_here; (with_reducible show wpAny _ _ (subscriptTail _ _ (Value.ref _) (Value.int _ _)) _ _ _); k_dflt (refine' item_bead ?l ?i ?B ?n ?_ ?s ?g; (case l => is_list); (case i => assumption); (case B => assumption); (case n => assumption); (case s => with_unfolding_all rfl); (case g => (intro _; with_unfolding_all rfl)); intro b8 t8 e8 c8; (rcases c8 with c8 | c8 | c8 <;> subst c8)))
  k_with "subscriptTail List Subscript ref int" => (k_here; (with_reducible show wpAny _ _ (subscriptTail _ _ (Value.ref _) (Value.int _ _)) _ _ _); k_dflt (refine' item_new ?k1 ?k2 ?k3 ?k4 ?k5 ?_ ?k6 ?k7; (case k1 => k_asm); (case k2 => k_mem); (case k3 => decide); (case k4 => decide); (case k5 => exact rfl); (case k6 => with_unfolding_all rfl); (case k7 => (intro _; with_unfolding_all rfl))))
  k_with "subscriptTail List Name ref int" => (k_here; (with_reducible show wpAny _ _ (subscriptTail _ _ (Value.ref _) (Value.int _ _)) _ _ _); k_dflt (refine' item_new ?k1 ?k2 ?k3 ?k4 ?k5 ?_ ?k6 ?k7; (case k1 => k_asm); (case k2 => k_mem); (case k3 => decide); (case k4 => decide); (case k5 => exact rfl); (case k6 => with_unfolding_all rfl); (case k7 => (intro _; with_unfolding_all rfl))))
  k_with "call builtin:str.join" => (k_here; (with_reducible show wpAny _ _ (call (Value.builtin "str.join") [Value.str _ _, Value.ref _]) _ _ _); k_dflt (refine' join_rows ?e ?l ?i ?n ?_; (case e => with_unfolding_all rfl); (case l => is_list); (case i => assumption); (case n => first | exact Nat.le_trans (rows_flat (by assumption)) (by decide) | exact Nat.le_trans (sent_flat (by assumption)) (by decide)); intro t6 k6; (try dsimp only)))
  k_with "storeName" => (k_here; k_dflt (refine' store_cell ?c ?m ?d ?U ?F ?N ?_ ?a ?b; (case a => rfl); (case b => rfl); (case c => rfl); (case F => k_asm); (case N => k_asm); (case m => k_mem); (case d => k_asm); (case U => (first | (refine UpdN.head ?_; (repeat (first | exact List.forall_mem_nil _ | (refine List.forall_mem_cons.mpr ⟨Or.inr (by (try dsimp only); omega), ?_⟩)))) | (refine' UpdN.tail ?q ?b3; (case q => first | (exact Or.inl (by intro v e; cases e)) | (exact Or.inr (by (try dsimp only); omega))); (case b3 => (first | (refine UpdN.head ?_; (repeat (first | exact List.forall_mem_nil _ | (refine List.forall_mem_cons.mpr ⟨Or.inr (by (try dsimp only); omega), ?_⟩)))) | (refine' UpdN.tail ?q ?b3; (case q => first | (exact Or.inl (by intro v e; cases e)) | (exact Or.inr (by (try dsimp only); omega))); (case b3 => (first | (refine UpdN.head ?_; (repeat (first | exact List.forall_mem_nil _ | (refine List.forall_mem_cons.mpr ⟨Or.inr (by (try dsimp only); omega), ?_⟩)))) | (refine' UpdN.tail ?q ?b3; (case q => first | (exact Or.inl (by intro v e; cases e)) | (exact Or.inr (by (try dsimp only); omega))); (case b3 => (first | (refine UpdN.head ?_; (repeat (first | exact List.forall_mem_nil _ | (refine List.forall_mem_cons.mpr ⟨Or.inr (by (try dsimp only); omega), ?_⟩)))) | (refine' UpdN.tail ?q ?b3; (case q => first | (exact Or.inl (by intro v e; cases e)) | (exact Or.inr (by (try dsimp only); omega))); (case b3 => (first | (refine UpdN.head ?_; (repeat (first | exact List.forall_mem_nil _ | (refine List.forall_mem_cons.mpr ⟨Or.inr (by (try dsimp only); omega), ?_⟩)))) | (refine' UpdN.tail ?q ?b3; (case q => first | (exact Or.inl (by intro v e; cases e)) | (exact Or.inr (by (try dsimp only); omega))); (case b3 => (first | (refine UpdN.head ?_; (repeat (first | exact List.forall_mem_nil _ | (refine List.forall_mem_cons.mpr ⟨Or.inr (by (try dsimp only); omega), ?_⟩)))) | (refine' UpdN.tail ?q ?b3; (case q => first | (exact Or.inl (by intro v e; cases e)) | (exact Or.inr (by (try dsimp only); omega))); (case b3 => (first | (refine UpdN.head ?_; (repeat (first | exact List.forall_mem_nil _ | (refine List.forall_mem_cons.mpr ⟨Or.inr (by (try dsimp only); omega), ?_⟩)))) | (refine' UpdN.tail ?q ?b3; (case q => first | (exact Or.inl (by intro v e; cases e)) | (exact Or.inr (by (try dsimp only); omega))); (case b3 => (first | (refine UpdN.head ?_; (repeat (first | exact List.forall_mem_nil _ | (refine List.forall_mem_cons.mpr ⟨Or.inr (by (try dsimp only); omega), ?_⟩)))) | (refine' UpdN.tail ?q ?b3; (case q => first | (exact Or.inl (by intro v e; cases e)) | (exact Or.inr (by (try dsimp only); omega))); (case b3 => (first | (refine UpdN.head ?_; (repeat (first | exact List.forall_mem_nil _ | (refine List.forall_mem_cons.mpr ⟨Or.inr (by (try dsimp only); omega), ?_⟩)))) | (refine' UpdN.tail ?q ?b3; (case q => first | (exact Or.inl (by intro v e; cases e)) | (exact Or.inr (by (try dsimp only); omega))); (case b3 => (first | (refine UpdN.head ?_; (repeat (first | exact List.forall_mem_nil _ | (refine List.forall_mem_cons.mpr ⟨Or.inr (by (try dsimp only); omega), ?_⟩)))) | (refine' UpdN.tail ?q ?b3; (case q => first | (exact Or.inl (by intro v e; cases e)) | (exact Or.inr (by (try dsimp only); omega))); (case b3 => (first | (refine UpdN.head ?_; (repeat (first | exact List.forall_mem_nil _ | (refine List.forall_mem_cons.mpr ⟨Or.inr (by (try dsimp only); omega), ?_⟩)))) | (refine' UpdN.tail ?q ?b3; (case q => first | (exact Or.inl (by intro v e; cases e)) | (exact Or.inr (by (try dsimp only); omega))); (case b3 => (first | (refine UpdN.head ?_; (repeat (first | exact List.forall_mem_nil _ | (refine List.forall_mem_cons.mpr ⟨Or.inr (by (try dsimp only); omega), ?_⟩)))) | (refine' UpdN.tail ?q ?b3; (case q => first | (exact Or.inl (by intro v e; cases e)) | (exact Or.inr (by (try dsimp only); omega))); (case b3 => (first | (refine UpdN.head ?_; (repeat (first | exact List.forall_mem_nil _ | (refine List.forall_mem_cons.mpr ⟨Or.inr (by (try dsimp only); omega), ?_⟩)))) | (refine' UpdN.tail ?q ?b3; (case q => first | (exact Or.inl (by intro v e; cases e)) | (exact Or.inr (by (try dsimp only); omega))); (case b3 => (first | (refine UpdN.head ?_; (repeat (first | exact List.forall_mem_nil _ | (refine List.forall_mem_cons.mpr ⟨Or.inr (by (try dsimp only); omega), ?_⟩)))) | (refine' UpdN.tail ?q ?b3; (case q => first | (exact Or.inl (by intro v e; cases e)) | (exact Or.inr (by (try dsimp only); omega))); (case b3 => (first | (refine UpdN.head ?_; (repeat (first | exact List.forall_mem_nil _ | (refine List.forall_mem_cons.mpr ⟨Or.inr (by (try dsimp only); omega), ?_⟩)))) | (refine' UpdN.tail ?q ?b3; (case q => first | (exact Or.inl (by intro v e; cases e)) | (exact Or.inr (by (try dsimp only); omega))); (case b3 => (first | (refine UpdN.head ?_; (repeat (first | exact List.forall_mem_nil _ | (refine List.forall_mem_cons.mpr ⟨Or.inr (by (try dsimp only); omega), ?_⟩)))) | (refine' UpdN.tail ?q ?b3; (case q => first | (exact Or.inl (by intro v e; cases e)) | (exact Or.inr (by (try dsimp only); omega))); (case b3 => (refine UpdN.head ?_; (repeat (first | exact List.forall_mem_nil _ | (refine List.forall_mem_cons.mpr ⟨Or.inr (by (try dsimp only); omega), ?_⟩))))))))))))))))))))))))))))))))))))))))))))))))))))); k_whole; intro h' o' F' N' d'; (try dsimp only at N'); (try k_sweep)))
  k_with "eval ListComp" => (k_here; refine stopHere ?_)
  k_with "exec Assign cons ListComp" => (k_here; (with_reducible show wpAny _ _ (exec (Stmt.Assign [Expr.Name (Str.ofString "rows") _] _ _) _) _ _ _); refine stopHere ?_)
  k_with "exec Assign cons ListComp" => (k_here; (with_reducible show wpAny _ _ (exec (Stmt.Assign [Expr.Name (Str.ofString "twice") _] _ _) _) _ _ _); refine stopHere ?_)
  k_with "CompSrc" => (k_here; refine stopHere ?_)
  trivial
theorem law_sent (w : World) (mean : ExcName → Option Value) (mg mb : Str → Option Value) (h₀ base : Heap) (Z : Here w mean mg mb h₀ base) (fa : Addr) (cd : Value) (L a D : Addr) (ws ys : List Value) (bs : List Int) (n : Nat) (hI : IntsAre ws bs) (hB : BeadsOk 5 bs) (s : Shared) (u : Str → Option Value) (o1 o2 o3 o4 o5 o6 o7 o8 : Obj)
   (d1 : o1.data = .cell (some (.ref a))) (F : Fr h₀ L s.heap u) (N : News h₀ L s.heap ((D, LCg.lst ys) :: (a, listOf ws.toArray n) :: cellsOf L o1 o2 o3 o4 o5 o6 o7 o8)) (Q : Flow → Shared → Prop) (E : Value → Shared → Prop)
   (next : ∀ t h' tk, s.toks ≤ tk → Fr h₀ L h' (fun z => if z = Str.ofString "sent" then some (.str (mailStr ((rowsOf bs).map quote1)) t) else u z) → News h₀ L h' ((D, LCg.lst ys) :: (a, listOf ws.toArray n) :: cellsOf L o1 o2 o3 o4 o5 o6 o7 o8) → LawGo 3 w L fa cd Q E { s with heap := h', toks := tk }) :
   LawGo 2 w L fa cd Q E s := by
  obtain ⟨B, X, T, XB, TB⟩ := Z
  unfold cellsOf at N
  refine law_row (by unfold lawRec recOf; rfl) ?_
  unfold lawEnv lawRec recOf
  dsimp only
  revert X
  k_fill
  intro X
  k_steps
  unfold Stop
  refine LCg.ListComp_U (F₀ := by k_asm) (by with_unfolding_all rfl) (by decide) (by rfl) (by decide) (by rfl) ?_
  k_dflt lcg_toSrc
  unfold Stop
  refine LCg.CompSrc.ledger (its := ws.toArray) (by rfl) (by k_asm) (by k_asm) (by k_mem) ?hsz ?_
  case hsz => rw [List.size_toArray, ints_len hI, hB.1]; decide
  intro g7
  refine comp_inv (KeepJ _ (SentP hB)) ?turn ?fin _ 0 [] _ (Nat.zero_add _) ⟨rfl, sent_start hB⟩
  case fin =>
    rintro ys7 news7 ⟨rfl, hP7⟩
    have hT7 := sent_done hB (by rw [List.size_toArray, ints_len hI, hB.1]; decide) hP7
    unfold LCg.FinE
    intro D' h' tk' F' N' _
    k_steps
    refine fun hk => next _ _ _ hk (by assumption) ?_
    rename News _ _ _ _ => NN
    exact fun p hp => NN p (.tail _ hp)
  case turn =>
    rintro i7 ys7 news7 hi7 ⟨rfl, hP7⟩ v7 I7 oI7 C7 oC7 D7 m7 h7 tk7 E7 hv7 hC7 hx7 F7 N7 off7
    obtain ⟨b7, t7, rfl, e7, c7⟩ := bead_at hB hI hv7
    rcases c7 with rfl | rfl | rfl
    all_goals k_steps
end Mine

end
-- L6
section
open PySem PySem.W PyProof.Rows PySem.Calls
set_option maxRecDepth 100000
set_option maxHeartbeats 8000000
namespace Mine
theorem fresh_L6 : True := by
  w_top off
  k_with_none
  k_with "omega" => lia
  trivial
theorem rows_L6_1 : True := by
  k_with "call ref" => (k_here; (with_reducible show wpAny _ _ (call (Value.ref 76) [Value.ref _]) _ _ _); k_dflt (refine' claim_use (c_neck _ _ _ _ _ _ _ ?hi ?hn) ?k1 ?k2 ?k3 ?k4 ?k5 ?kK ?kp ?kd ?ku ?_; (case hi => assumption); (case hn => assumption); (case k1 => k_asm); (case k2 => k_asm); (case k3 => k_asm); (case k4 => k_asm); (case k5 => k_asm); (case kK => first | exact rfl | assumption); (case kp => is_list); (case kd => ktr_room); (case ku => ktr_units); intro r9 tl9 h9 tk9 g9 F9 N9 K9 l9 G9 R9; obtain ⟨a9, ws9, bs9, n9, e9, e9', i9, b9⟩ := R9; subst e9; subst e9'; clear l9 K9; simp only [List.cons_append, List.nil_append] at N9; (try dsimp only)))
  k_with "CompEnd" => (k_dflt (refine' LCg.CompEnd.intro ?F ?N _ ?sub ?off ?src (And.intro rfl ?J); (case F => k_asm); (case N => k_asm); (case sub => lcg_sub); (case off => assumption); (case src => lcg_src); (case J => first | exact rows_snoc _ (by assumption) (by assumption) (by first | exact row_red _ | exact row_green _ | exact row_blue _) | exact sent_snoc _ (by assumption) (by assumption) (by first | exact sent_red _ | exact sent_green _ | exact sent_blue _) | exact count_snoc (by assumption) rfl)))
  k_with "subscriptTail Name Name ref int" => (k_here; (with_reducible show wpAny _ _ (subscriptTail _ _ (Value.ref _) (Value.int _ _)) _ _ _); k_dflt (refine' item_bead ?l ?i ?B ?n ?_ ?s ?g; (case l => is_list); (case i => assumption); (case B => assumption); (case n => assumption); (case s => with_unfolding_all rfl); (case g => (intro _; with_unfolding_all rfl)); intro b8 t8 e8 c8; (rcases c8 with c8 | c8 | c8 <;> subst c8)))
  k_with "subscriptTail List Subscript ref int" => (k_here; (with_reducible show wpAny _ _ (subscriptTail _ _ (Value.ref _) (Value.int _ _)) _ _ _); k_dflt (refine' item_new ?k1 ?k2 ?k3 ?k4 ?k5 ?_ ?k6 ?k7; (case k1 => k_asm); (case k2 => k_mem); (case k3 => decide); (case k4 => decide); (case k5 => exact rfl); (case k6 => with_unfolding_all rfl); (case k7 => (intro _; with_unfolding_all rfl))))
  k_with "subscriptTail List Name ref int" => (k_here; (with_reducible show wpAny _ _ (subscriptTail _ _ (Value.ref _) (Value.int _ _)) _ _ _); k_dflt (refine' item_new ?k1 ?k2 ?k3 ?k4 ?k5 ?_ ?k6 ?k7; (case k1 => k_asm); (case k2 => k_mem); (case k3 => decide); (case k4 => decide); (case k5 => exact rfl); (case k6 => with_unfolding_all rfl); (case k7 => (intro _; with_unfolding_all rfl))))
  k_with "call builtin:str.join" => (k_here; (with_reducible show wpAny _ _ (call (Value.builtin "str.join") [Value.str _ _, Value.ref _]) _ _ _); k_dflt (refine' join_rows ?e ?l ?i ?n ?_; (case e => with_unfolding_all rfl); (case l => is_list); (case i => assumption); (case n => first | exact Nat.le_trans (rows_flat (by assumption)) (by decide) | exact Nat.le_trans (sent_flat (by assumption)) (by decide)); intro t6 k6; (try dsimp only)))
  k_with "storeName" => (k_here; k_dflt (refine' store_cell ?c ?m ?d ?U ?F ?N ?_ ?a ?b; (case a => rfl); (case b => rfl); (case c => rfl); (case F => k_asm); (case N => k_asm); (case m => k_mem); (case d => k_asm); (case U => (first | (refine UpdN.head ?_; (repeat (first | exact List.forall_mem_nil _ | (refine List.forall_mem_cons.mpr ⟨Or.inr (by (try dsimp only); omega), ?_⟩)))) | (refine' UpdN.tail ?q ?b3; (case q => first | (exact Or.inl (by intro v e; cases e)) | (exact Or.inr (by (try dsimp only); omega))); (case b3 => (first | (refine UpdN.head ?_; (repeat (first | exact List.forall_mem_nil _ | (refine List.forall_mem_cons.mpr ⟨Or.inr (by (try dsimp only); omega), ?_⟩)))) | (refine' UpdN.tail ?q ?b3; (case q => first | (exact Or.inl (by intro v e; cases e)) | (exact Or.inr (by (try dsimp only); omega))); (case b3 => (first | (refine UpdN.head ?_; (repeat (first | exact List.forall_mem_nil _ | (refine List.forall_mem_cons.mpr ⟨Or.inr (by (try dsimp only); omega), ?_⟩)))) | (refine' UpdN.tail ?q ?b3; (case q => first | (exact Or.inl (by intro v e; cases e)) | (exact Or.inr (by (try dsimp only); omega))); (case b3 => (first | (refine UpdN.head ?_; (repeat (first | exact List.forall_mem_nil _ | (refine List.forall_mem_cons.mpr ⟨Or.inr (by (try dsimp only); omega), ?_⟩)))) | (refine' UpdN.tail ?q ?b3; (case q => first | (exact Or.inl (by intro v e; cases e)) | (exact Or.inr (by (try dsimp only); omega))); (case b3 => (first | (refine UpdN.head ?_; (repeat (first | exact List.forall_mem_nil _ | (refine List.forall_mem_cons.mpr ⟨Or.inr (by (try dsimp only); omega), ?_⟩)))) | (refine' UpdN.tail ?q ?b3; (case q => first | (exact Or.inl (by intro v e; cases e)) | (exact Or.inr (by (try dsimp only); omega))); (case b3 => (first | (refine UpdN.head ?_; (repeat (first | exact List.forall_mem_nil _ | (refine List.forall_mem_cons.mpr ⟨Or.inr (by (try dsimp only); omega), ?_⟩)))) | (refine' UpdN.tail ?q ?b3; (case q => first | (exact Or.inl (by intro v e; cases e)) | (exact Or.inr (by (try dsimp only); omega))); (case b3 => (first | (refine UpdN.head ?_; (repeat (first | exact List.forall_mem_nil _ | (refine List.forall_mem_cons.mpr ⟨Or.inr (by (try dsimp only); omega), ?_⟩)))) | (refine' UpdN.tail ?q ?b3; (case q => first | (exact Or.inl (by intro v e; cases e)) | (exact Or.inr (by (try dsimp only); omega))); (case b3 => (first | (refine UpdN.head ?_; (repeat (first | exact List.forall_mem_nil _ | (refine List.forall_mem_cons.mpr ⟨Or.inr (by (try dsimp only); omega), ?_⟩)))) | (refine' UpdN.tail ?q ?b3; (case q => first | (exact Or.inl (by intro v e; cases e)) | (exact Or.inr (by (try dsimp only); omega))); (case b3 => (first | (refine UpdN.head ?_; (repeat (first | exact List.forall_mem_nil _ | (refine List.forall_mem_cons.mpr ⟨Or.inr (by (try dsimp only); omega), ?_⟩)))) | (refine' UpdN.tail ?q ?b3; (case q => first | (exact Or.inl (by intro v e; cases e)) | (exact Or.inr (by (try dsimp only); omega))); (case b3 => (first | (refine UpdN.head ?_; (repeat (first | exact List.forall_mem_nil _ | (refine List.forall_mem_cons.mpr ⟨Or.inr (by (try dsimp only); omega), ?_⟩)))) | (refine' UpdN.tail ?q ?b3; (case q => first | (exact Or.inl (by intro v e; cases e)) | (exact Or.inr (by (try dsimp only); omega))); (case b3 => (first | (refine UpdN.head ?_; (repeat (first | exact List.forall_mem_nil _ | (refine List.forall_mem_cons.mpr ⟨Or.inr (by (try dsimp only); omega), ?_⟩)))) | (refine' UpdN.tail ?q ?b3; (case q => first | (exact Or.inl (by intro v e; cases e)) | (exact Or.inr (by (try dsimp only); omega))); (case b3 => (first | (refine UpdN.head ?_; (repeat (first | exact List.forall_mem_nil _ | (refine List.forall_mem_cons.mpr ⟨Or.inr (by (try dsimp only); omega), ?_⟩)))) | (refine' UpdN.tail ?q ?b3; (case q => first | (exact Or.inl (by intro v e; cases e)) | (exact Or.inr (by (try dsimp only); omega))); (case b3 => (first | (refine UpdN.head ?_; (repeat (first | exact List.forall_mem_nil _ | (refine List.forall_mem_cons.mpr ⟨Or.inr (by (try dsimp only); omega), ?_⟩)))) | (refine' UpdN.tail ?q ?b3; (case q => first | (exact Or.inl (by intro v e; cases e)) | (exact Or.inr (by (try dsimp only); omega))); (case b3 => (first | (refine UpdN.head ?_; (repeat (first | exact List.forall_mem_nil _ | (refine List.forall_mem_cons.mpr ⟨Or.inr (by (try dsimp only); omega), ?_⟩)))) | (refine' UpdN.tail ?q ?b3; (case q => first | (exact Or.inl (by intro v e; cases e)) | (exact Or.inr (by (try dsimp only); omega))); (case b3 => (first | (refine UpdN.head ?_; (repeat (first | exact List.forall_mem_nil _ | (refine List.forall_mem_cons.mpr ⟨Or.inr (by (try dsimp only); omega), ?_⟩)))) | (refine' UpdN.tail ?q ?b3; (case q => first | (exact Or.inl (by intro v e; cases e)) | (exact Or.inr (by (try dsimp only); omega))); (case b3 => (first | (refine UpdN.head ?_; (repeat (first | exact List.forall_mem_nil _ | (refine List.forall_mem_cons.mpr ⟨Or.inr (by (try dsimp only); omega), ?_⟩)))) | (refine' UpdN.tail ?q ?b3; (case q => first | (exact Or.inl (by intro v e; cases e)) | (exact Or.inr (by (try dsimp only); omega))); (case b3 => (refine UpdN.head ?_; (repeat (first | exact List.forall_mem_nil _ | (refine List.forall_mem_cons.mpr ⟨Or.inr (by (try dsimp only); omega), ?_⟩))))))))))))))))))))))))))))))))))))))))))))))))))))); k_whole; intro h' o' F' N' d'; (try dsimp only at N'); (try k_sweep)))
  k_with "eval ListComp" => (k_here; refine stopHere ?_)
  k_with "exec Assign cons ListComp" => (k_here; (with_reducible show wpAny _ _ (exec (Stmt.Assign [Expr.Name (Str.ofString "rows") _] _ _) _) _ _ _); refine stopHere ?_)
  k_with "exec Assign cons ListComp" => (k_here; (with_reducible show wpAny _ _ (exec (Stmt.Assign [Expr.Name (Str.ofString "twice") _] _ _) _) _ _ _); refine stopHere ?_)
  k_with "CompSrc" => (k_here; refine stopHere ?_)
  trivial
theorem law_whole (w : World) (mean : ExcName → Option Value) (mg mb : Str → Option Value) (h₀ base : Heap) (Z : Here w mean mg mb h₀ base) (fa : Addr) (cd : Value) (L a D : Addr) (ws ys : List Value) (bs : List Int) (n : Nat) (hI : IntsAre ws bs) (hB : BeadsOk 5 bs) (s : Shared) (u : Str → Option Value) (o1 o2 o3 o4 o5 o6 o7 o8 : Obj)
   (d1 : o1.data = .cell (some (.ref a))) (d2 : o2.data = .cell none) (F : Fr h₀ L s.heap u) (N : News h₀ L s.heap ((D, LCg.lst ys) :: (a, listOf ws.toArray n) :: cellsOf L o1 o2 o3 o4 o5 o6 o7 o8)) (Q : Flow → Shared → Prop) (E : Value → Shared → Prop)
   (next : ∀ aw o2' t1 t2 t3 h' tk, s.toks ≤ tk → o2'.data = .cell (some (.ref aw)) → Fr h₀ L h' u → News h₀ L h' ((aw, LCg.lst [.int ((bs.count 0 : Nat) : Int) t1, .int ((bs.count 1 : Nat) : Int) t2, .int ((bs.count 2 : Nat) : Int) t3]) :: (D, LCg.lst ys) :: (a, listOf ws.toArray n) :: cellsOf L o1 o2' o3 o4 o5 o6 o7 o8) → LawGo 4 w L fa cd Q E { s with heap := h', toks := tk }) :
   LawGo 3 w L fa cd Q E s := by
  obtain ⟨B, X, T, XB, TB⟩ := Z
  unfold cellsOf at N
  refine law_row (by unfold lawRec recOf; rfl) ?_
  unfold lawEnv lawRec recOf
  dsimp only
  revert X
  k_fill
  intro X
  k_steps
  unfold Stop
  refine LCg.ListComp_U (F₀ := by k_asm) (by with_unfolding_all rfl) (by decide) (by rfl) (by decide) (by rfl) ?_
  k_dflt lcg_toSrc
  unfold Stop
  refine LCg.CompSrc.range (n := 3) (by rfl) (by k_asm) (by k_asm) (by assumption) (by first | decide | rfl) (by first | rfl | decide) (by first | size_fits | exact Nat.le_of_ble_eq_true rfl) ?_
  intro g7
  refine comp_inv (KeepJ _ (CountP bs)) ?turn ?fin 3 0 [] _ rfl ⟨rfl, count_start _⟩
  case fin =>
    rintro ys7 news7 ⟨rfl, hP7⟩
    obtain ⟨t71, t72, t73, rfl⟩ := ints3 (count_done hP7)
    unfold LCg.FinE
    intro D' h' tk' F' N' _
    k_steps
    refine fun hk => next _ _ _ _ _ _ _ hk (by assumption) (by assumption) (by assumption)
  case turn =>
    rintro i7 ys7 news7 hi7 ⟨rfl, hP7⟩ v7 I7 oI7 C7 oC7 D7 m7 h7 tk7 E7 ⟨t7, rfl⟩ hC7 hx7 F7 N7 off7
    k_steps
end Mine

end
-- L7
section
open PySem PySem.W PyProof.Rows PySem.Calls
set_option maxRecDepth 100000
set_option maxHeartbeats 8000000
namespace Mine
theorem fresh_L7 : True := by
  w_top off
  k_with_none
  k_with "omega" => lia
  trivial
theorem rows_L7_1 : True := by
  k_with "call ref" => (k_here; (with_reducible show wpAny _ _ (call (Value.ref 76) [Value.ref _]) _ _ _); k_dflt (refine' claim_use (c_neck _ _ _ _ _ _ _ ?hi ?hn) ?k1 ?k2 ?k3 ?k4 ?k5 ?kK ?kp ?kd ?ku ?_; (case hi => assumption); (case hn => assumption); (case k1 => k_asm); (case k2 => k_asm); (case k3 => k_asm); (case k4 => k_asm); (case k5 => k_asm); (case kK => first | exact rfl | assumption); (case kp => is_list); (case kd => ktr_room); (case ku => ktr_units); intro r9 tl9 h9 tk9 g9 F9 N9 K9 l9 G9 R9; obtain ⟨a9, ws9, bs9, n9, e9, e9', i9, b9⟩ := R9; subst e9; subst e9'; clear l9 K9; simp only [List.cons_append, List.nil_append] at N9; (try dsimp only)))
  k_with "CompEnd" => (k_dflt (refine' LCg.CompEnd.intro ?F ?N _ ?sub ?off ?src (And.intro rfl ?J); (case F => k_asm); (case N => k_asm); (case sub => lcg_sub); (case off => assumption); (case src => lcg_src); (case J => first | exact rows_snoc _ (by assumption) (by assumption) (by first | exact row_red _ | exact row_green _ | exact row_blue _) | exact sent_snoc _ (by assumption) (by assumption) (by first | exact sent_red _ | exact sent_green _ | exact sent_blue _) | exact count_snoc (by assumption) rfl)))
  k_with "subscriptTail Name Name ref int" => (k_here; (with_reducible show wpAny _ _ (subscriptTail _ _ (Value.ref _) (Value.int _ _)) _ _ _); k_dflt (refine' item_bead ?l ?i ?B ?n ?_ ?s ?g; (case l => is_list); (case i => assumption); (case B => assumption); (case n => assumption); (case s => with_unfolding_all rfl); (case g => (intro _; with_unfolding_all rfl)); intro b8 t8 e8 c8; (rcases c8 with c8 | c8 | c8 <;> subst c8)))
  k_with "subscriptTail List Subscript ref int" => (k_here; (with_reducible show wpAny _ _ (subscriptTail _ _ (Value.ref _) (Value.int _ _)) _ _ _); k_dflt (refine' item_new ?k1 ?k2 ?k3 ?k4 ?k5 ?_ ?k6 ?k7; (case k1 => k_asm); (case k2 => k_mem); (case k3 => decide); (case k4 => decide); (case k5 => exact rfl); (case k6 => with_unfolding_all rfl); (case k7 => (intro _; with_unfolding_all rfl))))
  k_with "subscriptTail List Name ref int" => (k_here; (with_reducible show wpAny _ _ (subscriptTail _ _ (Value.ref _) (Value.int _ _)) _ _ _); k_dflt (refine' item_new ?k1 ?k2 ?k3 ?k4 ?k5 ?_ ?k6 ?k7; (case k1 => k_asm); (case k2 => k_mem); (case k3 => decide); (case k4 => decide); (case k5 => exact rfl); (case k6 => with_unfolding_all rfl); (case k7 => (intro _; with_unfolding_all rfl))))
  k_with "call builtin:str.join" => (k_here; (with_reducible show wpAny _ _ (call (Value.builtin "str.join") [Value.str _ _, Value.ref _]) _ _ _); k_dflt (refine' join_rows ?e ?l ?i ?n ?_; (case e => with_unfolding_all rfl); (case l => is_list); (case i => assumption); (case n => first | exact Nat.le_trans (rows_flat (by assumption)) (by decide) | exact Nat.le_trans (sent_flat (by assumption)) (by decide)); intro t6 k6; (try dsimp only)))
  k_with "storeName" => (k_here; k_dflt (refine' store_cell ?c ?m ?d ?U ?F ?N ?_ ?a ?b; (case a => rfl); (case b => rfl); (case c => rfl); (case F => k_asm); (case N => k_asm); (case m => k_mem); (case d => k_asm); (case U => (first | (refine UpdN.head ?_; (repeat (first | exact List.forall_mem_nil _ | (refine List.forall_mem_cons.mpr ⟨Or.inr (by (try dsimp only); omega), ?_⟩)))) | (refine' UpdN.tail ?q ?b3; (case q => first | (exact Or.inl (by intro v e; cases e)) | (exact Or.inr (by (try dsimp only); omega))); (case b3 => (first | (refine UpdN.head ?_; (repeat (first | exact List.forall_mem_nil _ | (refine List.forall_mem_cons.mpr ⟨Or.inr (by (try dsimp only); omega), ?_⟩)))) | (refine' UpdN.tail ?q ?b3; (case q => first | (exact Or.inl (by intro v e; cases e)) | (exact Or.inr (by (try dsimp only); omega))); (case b3 => (first | (refine UpdN.head ?_; (repeat (first | exact List.forall_mem_nil _ | (refine List.forall_mem_cons.mpr ⟨Or.inr (by (try dsimp only); omega), ?_⟩)))) | (refine' UpdN.tail ?q ?b3; (case q => first | (exact Or.inl (by intro v e; cases e)) | (exact Or.inr (by (try dsimp only); omega))); (case b3 => (first | (refine UpdN.head ?_; (repeat (first | exact List.forall_mem_nil _ | (refine List.forall_mem_cons.mpr ⟨Or.inr (by (try dsimp only); omega), ?_⟩)))) | (refine' UpdN.tail ?q ?b3; (case q => first | (exact Or.inl (by intro v e; cases e)) | (exact Or.inr (by (try dsimp only); omega))); (case b3 => (first | (refine UpdN.head ?_; (repeat (first | exact List.forall_mem_nil _ | (refine List.forall_mem_cons.mpr ⟨Or.inr (by (try dsimp only); omega), ?_⟩)))) | (refine' UpdN.tail ?q ?b3; (case q => first | (exact Or.inl (by intro v e; cases e)) | (exact Or.inr (by (try dsimp only); omega))); (case b3 => (first | (refine UpdN.head ?_; (repeat (first | exact List.forall_mem_nil _ | (refine List.forall_mem_cons.mpr ⟨Or.inr (by (try dsimp only); omega), ?_⟩)))) | (refine' UpdN.tail ?q ?b3; (case q => first | (exact Or.inl (by intro v e; cases e)) | (exact Or.inr (by (try dsimp only); omega))); (case b3 => (first | (refine UpdN.head ?_; (repeat (first | exact List.forall_mem_nil _ | (refine List.forall_mem_cons.mpr ⟨Or.inr (by (try dsimp only); omega), ?_⟩)))) | (refine' UpdN.tail ?q ?b3; (case q => first | (exact Or.inl (by intro v e; cases e)) | (exact Or.inr (by (try dsimp only); omega))); (case b3 => (first | (refine UpdN.head ?_; (repeat (first | exact List.forall_mem_nil _ | (refine List.forall_mem_cons.mpr ⟨Or.inr (by (try dsimp only); omega), ?_⟩)))) | (refine' UpdN.tail ?q ?b3; (case q => first | (exact Or.inl (by intro v e; cases e)) | (exact Or.inr (by (try dsimp only); omega))); (case b3 => (first | (refine UpdN.head ?_; (repeat (first | exact List.forall_mem_nil _ | (refine List.forall_mem_cons.mpr ⟨Or.inr (by (try dsimp only); omega), ?_⟩)))) | (refine' UpdN.tail ?q ?b3; (case q => first | (exact Or.inl (by intro v e; cases e)) | (exact Or.inr (by (try dsimp only); omega))); (case b3 => (first | (refine UpdN.head ?_; (repeat (first | exact List.forall_mem_nil _ | (refine List.forall_mem_cons.mpr ⟨Or.inr (by (try dsimp only); omega), ?_⟩)))) | (refine' UpdN.tail ?q ?b3; (case q => first | (exact Or.inl (by intro v e; cases e)) | (exact Or.inr (by (try dsimp only); omega))); (case b3 => (first | (refine UpdN.head ?_; (repeat (first | exact List.forall_mem_nil _ | (refine List.forall_mem_cons.mpr ⟨Or.inr (by (try dsimp only); omega), ?_⟩)))) | (refine' UpdN.tail ?q ?b3; (case q => first | (exact Or.inl (by intro v e; cases e)) | (exact Or.inr (by (try dsimp only); omega))); (case b3 => (first | (refine UpdN.head ?_; (repeat (first | exact List.forall_mem_nil _ | (refine List.forall_mem_cons.mpr ⟨Or.inr (by (try dsimp only); omega), ?_⟩)))) | (refine' UpdN.tail ?q ?b3; (case q => first | (exact Or.inl (by intro v e; cases e)) | (exact Or.inr (by (try dsimp only); omega))); (case b3 => (first | (refine UpdN.head ?_; (repeat (first | exact List.forall_mem_nil _ | (refine List.forall_mem_cons.mpr ⟨Or.inr (by (try dsimp only); omega), ?_⟩)))) | (refine' UpdN.tail ?q ?b3; (case q => first | (exact Or.inl (by intro v e; cases e)) | (exact Or.inr (by (try dsimp only); omega))); (case b3 => (first | (refine UpdN.head ?_; (repeat (first | exact List.forall_mem_nil _ | (refine List.forall_mem_cons.mpr ⟨Or.inr (by (try dsimp only); omega), ?_⟩)))) | (refine' UpdN.tail ?q ?b3; (case q => first | (exact Or.inl (by intro v e; cases e)) | (exact Or.inr (by (try dsimp only); omega))); (case b3 => (first | (refine UpdN.head ?_; (repeat (first | exact List.forall_mem_nil _ | (refine List.forall_mem_cons.mpr ⟨Or.inr (by (try dsimp only); omega), ?_⟩)))) | (refine' UpdN.tail ?q ?b3; (case q => first | (exact Or.inl (by intro v e; cases e)) | (exact Or.inr (by (try dsimp only); omega))); (case b3 => (first | (refine UpdN.head ?_; (repeat (first | exact List.forall_mem_nil _ | (refine List.forall_mem_cons.mpr ⟨Or.inr (by (try dsimp only); omega), ?_⟩)))) | (refine' UpdN.tail ?q ?b3; (case q => first | (exact Or.inl (by intro v e; cases e)) | (exact Or.inr (by (try dsimp only); omega))); (case b3 => (refine UpdN.head ?_; (repeat (first | exact List.forall_mem_nil _ | (refine List.forall_mem_cons.mpr ⟨Or.inr (by (try dsimp only); omega), ?_⟩))))))))))))))))))))))))))))))))))))))))))))))))))))); k_whole; intro h' o' F' N' d'; (try dsimp only at N'); (try k_sweep)))
  k_with "eval ListComp" => (k_here; refine stopHere ?_)
  k_with "exec Assign cons ListComp" => (k_here; (with_reducible show wpAny _ _ (exec (Stmt.Assign [Expr.Name (Str.ofString "rows") _] _ _) _) _ _ _); refine stopHere ?_)
  k_with "exec Assign cons ListComp" => (k_here; (with_reducible show wpAny _ _ (exec (Stmt.Assign [Expr.Name (Str.ofString "twice") _] _ _) _) _ _ _); refine stopHere ?_)
  k_with "CompSrc" => (k_here; refine stopHere ?_)
  k_with "call ref" => (k_here; (with_reducible show wpAny _ _ (call (Value.ref 90) [Value.ref _, Value.ref _]) _ _ _); refine stopHere ?_)
  trivial
theorem law_cuts (w : World) (mean : ExcName → Option Value) (mg mb : Str → Option Value) (h₀ base : Heap) (Z : Here w mean mg mb h₀ base) (fa : Addr) (cd : Value) (L D : Addr) (ys : List Value) (rs : List Row) (hx : StrsAre ys (rs.map rowS)) (hr : ∀ r ∈ rs, rowK r) (hrl : rs.length = 10) (s : Shared) (u : Str → Option Value) (t : Tok) (keep : List (Addr × Obj))
   (F : Fr h₀ L s.heap (sentM rs D t u)) (N : News h₀ L s.heap keep) (hD : (D, LCg.lst ys) ∈ keep) (hg : leftWithCleanup s.gens = false) (Q : Flow → Shared → Prop) (E : Value → Shared → Prop)
   (next : ∀ lt lx ts xs n1 n2 h' tk g, s.toks ≤ tk → leftWithCleanup g = false → IntsAre ts [2, 2, 2, 2, 2] → StrsAre xs ((pairsOf rs).map mailStr) → Fr h₀ L h' (fun z => if z = Str.ofString "pairs" then some (.ref lx) else if z = Str.ofString "sizes" then some (.ref lt) else sentM rs D t u z) → News h₀ L h' ((lx, listOf xs.toArray n2) :: (lt, listOf ts.toArray n1) :: keep) → LawGo 5 w L fa cd Q E { s with heap := h', toks := tk, gens := g }) :
   LawGo 4 w L fa cd Q E s := by
  obtain ⟨B, X, T, XB, TB⟩ := Z
  unfold sentM at F
  have hl : s.heap.IsList D ys.toArray := ⟨_, (N _ hD).1, rfl, _, rfl⟩
  refine law_row (by unfold lawRec recOf; rfl) ?_
  unfold lawEnv lawRec recOf
  dsimp only
  revert X
  k_fill
  intro X
  k_steps
  unfold Stop
  refine claim_use (c_cut w mean mg mb D _ _ [2, 0, 9] (.cons _ _ (.cons _ _ (.cons _ _ .nil))) ys rs hx hr (by omega) (by intro e; cases e) (by intro x9 h9x; change x9 ∈ [(2 : Int)] at h9x; simp only [List.mem_cons, List.not_mem_nil, or_false] at h9x; omega)) (by k_asm) (by k_asm) (by k_asm) (by k_asm) (by k_asm) rfl ⟨(by rename News _ _ _ _ => NN; exact ⟨_, (NN _ (.tail _ hD)).1, rfl, _, rfl⟩), by is_list⟩ (by ktr_room) (by ktr_units) ?_
  intro r9 tl9 h9 tk9 g9 F9 N9 K9 l9 G9 R9
  obtain ⟨ta9, lt9, lx9, ws9, xs9, n19, n29, n39, told9, pieces9, rfl, rfl, i19, i29, c9⟩ := R9
  obtain ⟨rfl, rfl⟩ := cut_unique c9 (cut_pairs hrl)
  clear l9 K9 c9
  simp only [List.cons_append, List.nil_append] at N9
  dsimp only
  k_steps
  refine fun hk => next lt9 lx9 ws9 xs9 n19 n29 _ _ _ hk (G9 hg) i19 i29 (by assumption) ?_
  rename News _ _ _ _ => NN
  intro p hp
  rcases List.mem_cons.mp hp with rfl | hp
  · exact NN _ (.tail _ (.head _))
  · rcases List.mem_cons.mp hp with rfl | hp
    · exact NN _ (.tail _ (.tail _ (.head _)))
    · exact NN _ (.tail _ (.tail _ (.tail _ (.tail _ hp))))
end Mine

end
-- L8
section
open PySem PySem.W PyProof.Rows PySem.Calls
set_option maxRecDepth 100000
set_option maxHeartbeats 8000000
namespace Mine
theorem fresh_L8 : True := by
  w_top off
  k_with_none
  k_with "omega" => lia
  trivial
theorem rows_L8_1 : True := by
  k_with "call ref" => (k_here; (with_reducible show wpAny _ _ (call (Value.ref 76) [Value.ref _]) _ _ _); k_dflt (refine' claim_use (c_neck _ _ _ _ _ _ _ ?hi ?hn) ?k1 ?k2 ?k3 ?k4 ?k5 ?kK ?kp ?kd ?ku ?_; (case hi => assumption); (case hn => assumption); (case k1 => k_asm); (case k2 => k_asm); (case k3 => k_asm); (case k4 => k_asm); (case k5 => k_asm); (case kK => first | exact rfl | assumption); (case kp => is_list); (case kd => ktr_room); (case ku => ktr_units); intro r9 tl9 h9 tk9 g9 F9 N9 K9 l9 G9 R9; obtain ⟨a9, ws9, bs9, n9, e9, e9', i9, b9⟩ := R9; subst e9; subst e9'; clear l9 K9; simp only [List.cons_append, List.nil_append] at N9; (try dsimp only)))
  k_with "CompEnd" => (k_dflt (refine' LCg.CompEnd.intro ?F ?N _ ?sub ?off ?src (And.intro rfl ?J); (case F => k_asm); (case N => k_asm); (case sub => lcg_sub); (case off => assumption); (case src => lcg_src); (case J => first | exact rows_snoc _ (by assumption) (by assumption) (by first | exact row_red _ | exact row_green _ | exact row_blue _) | exact sent_snoc _ (by assumption) (by assumption) (by first | exact sent_red _ | exact sent_green _ | exact sent_blue _) | exact count_snoc (by assumption) rfl)))
  k_with "subscriptTail Name Name ref int" => (k_here; (with_reducible show wpAny _ _ (subscriptTail _ _ (Value.ref _) (Value.int _ _)) _ _ _); k_dflt (refine' item_bead ?l ?i ?B ?n ?_ ?s ?g; (case l => is_list); (case i => assumption); (case B => assumption); (case n => assumption); (case s => with_unfolding_all rfl); (case g => (intro _; with_unfolding_all rfl)); intro b8 t8 e8 c8; (rcases c8 with c8 | c8 | c8 <;> subst c8)))
  k_with "subscriptTail List Subscript ref int" => (k_here; (with_reducible show wpAny _ _ (subscriptTail _ _ (Value.ref _) (Value.int _ _)) _ _ _); k_dflt (refine' item_new ?k1 ?k2 ?k3 ?k4 ?k5 ?_ ?k6 ?k7; (case k1 => k_asm); (case k2 => k_mem); (case k3 => decide); (case k4 => decide); (case k5 => exact rfl); (case k6 => with_unfolding_all rfl); (case k7 => (intro _; with_unfolding_all rfl))))
  k_with "subscriptTail List Name ref int" => (k_here; (with_reducible show wpAny _ _ (subscriptTail _ _ (Value.ref _) (Value.int _ _)) _ _ _); k_dflt (refine' item_new ?k1 ?k2 ?k3 ?k4 ?k5 ?_ ?k6 ?k7; (case k1 => k_asm); (case k2 => k_mem); (case k3 => decide); (case k4 => decide); (case k5 => exact rfl); (case k6 => with_unfolding_all rfl); (case k7 => (intro _; with_unfolding_all rfl))))
  k_with "call builtin:str.join" => (k_here; (with_reducible show wpAny _ _ (call (Value.builtin "str.join") [Value.str _ _, Value.ref _]) _ _ _); k_dflt (refine' join_rows ?e ?l ?i ?n ?_; (case e => with_unfolding_all rfl); (case l => is_list); (case i => assumption); (case n => first | exact Nat.le_trans (rows_flat (by assumption)) (by decide) | exact Nat.le_trans (sent_flat (by assumption)) (by decide)); intro t6 k6; (try dsimp only)))
  k_with "storeName" => (k_here; k_dflt (refine' store_cell ?c ?m ?d ?U ?F ?N ?_ ?a ?b; (case a => rfl); (case b => rfl); (case c => rfl); (case F => k_asm); (case N => k_asm); (case m => k_mem); (case d => k_asm); (case U => (first | (refine UpdN.head ?_; (repeat (first | exact List.forall_mem_nil _ | (refine List.forall_mem_cons.mpr ⟨Or.inr (by (try dsimp only); omega), ?_⟩)))) | (refine' UpdN.tail ?q ?b3; (case q => first | (exact Or.inl (by intro v e; cases e)) | (exact Or.inr (by (try dsimp only); omega))); (case b3 => (first | (refine UpdN.head ?_; (repeat (first | exact List.forall_mem_nil _ | (refine List.forall_mem_cons.mpr ⟨Or.inr (by (try dsimp only); omega), ?_⟩)))) | (refine' UpdN.tail ?q ?b3; (case q => first | (exact Or.inl (by intro v e; cases e)) | (exact Or.inr (by (try dsimp only); omega))); (case b3 => (first | (refine UpdN.head ?_; (repeat (first | exact List.forall_mem_nil _ | (refine List.forall_mem_cons.mpr ⟨Or.inr (by (try dsimp only); omega), ?_⟩)))) | (refine' UpdN.tail ?q ?b3; (case q => first | (exact Or.inl (by intro v e; cases e)) | (exact Or.inr (by (try dsimp only); omega))); (case b3 => (first | (refine UpdN.head ?_; (repeat (first | exact List.forall_mem_nil _ | (refine List.forall_mem_cons.mpr ⟨Or.inr (by (try dsimp only); omega), ?_⟩)))) | (refine' UpdN.tail ?q ?b3; (case q => first | (exact Or.inl (by intro v e; cases e)) | (exact Or.inr (by (try dsimp only); omega))); (case b3 => (first | (refine UpdN.head ?_; (repeat (first | exact List.forall_mem_nil _ | (refine List.forall_mem_cons.mpr ⟨Or.inr (by (try dsimp only); omega), ?_⟩)))) | (refine' UpdN.tail ?q ?b3; (case q => first | (exact Or.inl (by intro v e; cases e)) | (exact Or.inr (by (try dsimp only); omega))); (case b3 => (first | (refine UpdN.head ?_; (repeat (first | exact List.forall_mem_nil _ | (refine List.forall_mem_cons.mpr ⟨Or.inr (by (try dsimp only); omega), ?_⟩)))) | (refine' UpdN.tail ?q ?b3; (case q => first | (exact Or.inl (by intro v e; cases e)) | (exact Or.inr (by (try dsimp only); omega))); (case b3 => (first | (refine UpdN.head ?_; (repeat (first | exact List.forall_mem_nil _ | (refine List.forall_mem_cons.mpr ⟨Or.inr (by (try dsimp only); omega), ?_⟩)))) | (refine' UpdN.tail ?q ?b3; (case q => first | (exact Or.inl (by intro v e; cases e)) | (exact Or.inr (by (try dsimp only); omega))); (case b3 => (first | (refine UpdN.head ?_; (repeat (first | exact List.forall_mem_nil _ | (refine List.forall_mem_cons.mpr ⟨Or.inr (by (try dsimp only); omega), ?_⟩)))) | (refine' UpdN.tail ?q ?b3; (case q => first | (exact Or.inl (by intro v e; cases e)) | (exact Or.inr (by (try dsimp only); omega))); (case b3 => (first | (refine UpdN.head ?_; (repeat (first | exact List.forall_mem_nil _ | (refine List.forall_mem_cons.mpr ⟨Or.inr (by (try dsimp only); omega), ?_⟩)))) | (refine' UpdN.tail ?q ?b3; (case q => first | (exact Or.inl (by intro v e; cases e)) | (exact Or.inr (by (try dsimp only); omega))); (case b3 => (first | (refine UpdN.head ?_; (repeat (first | exact List.forall_mem_nil _ | (refine List.forall_mem_cons.mpr ⟨Or.inr (by (try dsimp only); omega), ?_⟩)))) | (refine' UpdN.tail ?q ?b3; (case q => first | (exact Or.inl (by intro v e; cases e)) | (exact Or.inr (by (try dsimp only); omega))); (case b3 => (first | (refine UpdN.head ?_; (repeat (first | exact List.forall_mem_nil _ | (refine List.forall_mem_cons.mpr ⟨Or.inr (by (try dsimp only); omega), ?_⟩)))) | (refine' UpdN.tail ?q ?b3; (case q => first | (exact Or.inl (by intro v e; cases e)) | (exact Or.inr (by (try dsimp only); omega))); (case b3 => (first | (refine UpdN.head ?_; (repeat (first | exact List.forall_mem_nil _ | (refine List.forall_mem_cons.mpr ⟨Or.inr (by (try dsimp only); omega), ?_⟩)))) | (refine' UpdN.tail ?q ?b3; (case q => first | (exact Or.inl (by intro v e; cases e)) | (exact Or.inr (by (try dsimp only); omega))); (case b3 => (first | (refine UpdN.head ?_; (repeat (first | exact List.forall_mem_nil _ | (refine List.forall_mem_cons.mpr ⟨Or.inr (by (try dsimp only); omega), ?_⟩)))) | (refine' UpdN.tail ?q ?b3; (case q => first | (exact Or.inl (by intro v e; cases e)) | (exact Or.inr (by (try dsimp only); omega))); (case b3 => (first | (refine UpdN.head ?_; (repeat (first | exact List.forall_mem_nil _ | (refine List.forall_mem_cons.mpr ⟨Or.inr (by (try dsimp only); omega), ?_⟩)))) | (refine' UpdN.tail ?q ?b3; (case q => first | (exact Or.inl (by intro v e; cases e)) | (exact Or.inr (by (try dsimp only); omega))); (case b3 => (first | (refine UpdN.head ?_; (repeat (first | exact List.forall_mem_nil _ | (refine List.forall_mem_cons.mpr ⟨Or.inr (by (try dsimp only); omega), ?_⟩)))) | (refine' UpdN.tail ?q ?b3; (case q => first | (exact Or.inl (by intro v e; cases e)) | (exact Or.inr (by (try dsimp only); omega))); (case b3 => (first | (refine UpdN.head ?_; (repeat (first | exact List.forall_mem_nil _ | (refine List.forall_mem_cons.mpr ⟨Or.inr (by (try dsimp only); omega), ?_⟩)))) | (refine' UpdN.tail ?q ?b3; (case q => first | (exact Or.inl (by intro v e; cases e)) | (exact Or.inr (by (try dsimp only); omega))); (case b3 => (refine UpdN.head ?_; (repeat (first | exact List.forall_mem_nil _ | (refine List.forall_mem_cons.mpr ⟨Or.inr (by (try dsimp only); omega), ?_⟩))))))))))))))))))))))))))))))))))))))))))))))))))))); k_whole; intro h' o' F' N' d'; (try dsimp only at N'); (try k_sweep)))
  k_with "eval ListComp" => (k_here; refine stopHere ?_)
  k_with "exec Assign cons ListComp" => (k_here; (with_reducible show wpAny _ _ (exec (Stmt.Assign [Expr.Name (Str.ofString "rows") _] _ _) _) _ _ _); refine stopHere ?_)
  k_with "exec Assign cons ListComp" => (k_here; (with_reducible show wpAny _ _ (exec (Stmt.Assign [Expr.Name (Str.ofString "twice") _] _ _) _) _ _ _); refine stopHere ?_)
  k_with "CompSrc" => (k_here; refine stopHere ?_)
  k_with "call ref" => (k_here; (with_reducible show wpAny _ _ (call (Value.ref 102) [Value.str _ _]) _ _ _); refine stopHere ?_)
  trivial
theorem law_parts (w : World) (mean : ExcName → Option Value) (mg mb : Str → Option Value) (h₀ base : Heap) (Z : Here w mean mg mb h₀ base) (fa : Addr) (cd : Value) (L lx lt : Addr) (xs : List Value) (n2 : Nat) (ps : List (List Row)) (hx : StrsAre xs (ps.map mailStr)) (hr : ∀ p ∈ ps, (∀ r ∈ p, rowK r) ∧ p.length ≤ 10) (hps : ps.length = 6) (s : Shared) (u : Str → Option Value) (keep : List (Addr × Obj)) (o1 o2 o3 o4 o5 o6 o7 o8 : Obj)
   (d3 : o3.data = .cell none) (F : Fr h₀ L s.heap (fun z => if z = Str.ofString "pairs" then some (.ref lx) else u z)) (N : News h₀ L s.heap ((lx, listOf xs.toArray n2) :: keep)) (hg : leftWithCleanup s.gens = false) (Q : Flow → Shared → Prop) (E : Value → Shared → Prop)
   (next : ∀ D ys added h' tk g, leftWithCleanup g = false → Parts ps ys added → Fr h₀ L h' (fun z => if z = Str.ofString "pairs" then some (.ref lx) else u z) → News h₀ L h' ((D, LCg.lst ys) :: (added ++ (lx, listOf xs.toArray n2) :: keep)) →
      wpAny (model PySem.Challenge.rw_sr0007_01.row.prog w) (callerA.deeper (lawEnv L fa cd)) (storeName (lawEnv L fa cd) (Str.ofString "parts") (.ref D)) (fun _ s' => AfterRowT s.toks 6 w L fa cd Q E .next s') E { s with heap := h', toks := tk, gens := g }) :
   LawGo 5 w L fa cd Q E s := by
  obtain ⟨B, X, T, XB, TB⟩ := Z
  refine law_row (by unfold lawRec recOf; rfl) ?_
  unfold lawEnv lawRec recOf
  dsimp only
  revert X
  k_fill
  intro X
  k_steps
  unfold Stop
  refine LCg.ListComp_U (F₀ := by k_asm) (by with_unfolding_all rfl) (by decide) (by rfl) (by decide) (by rfl) ?_
  k_dflt lcg_toSrc
  unfold Stop
  refine LCg.CompSrc.ledger (its := xs.toArray) (by rfl) (by k_asm) (by k_asm) (.head _) ?hsz ?_
  case hsz => rw [List.size_toArray, StrsAre.len' hx, List.length_map, hps]; decide
  intro g7
  have hn6 : xs.toArray.size = 6 := by rw [List.size_toArray, StrsAre.len' hx, List.length_map, hps]
  refine comp_inv (fun i ys news => ∃ added, news = added ++ (lx, listOf xs.toArray n2) :: keep ∧ Parts (ps.take i) ys added) ?turn ?fin _ 0 [] _ (Nat.zero_add _) ⟨[], rfl, Parts.nil⟩
  case fin =>
    rintro ys7 news7 ⟨added, rfl, hP7⟩
    rw [List.take_of_length_le (by rw [hn6, hps]; decide)] at hP7
    unfold LCg.FinE
    intro D' h' tk' F' N' _
    exact next D' ys7 added h' tk' _ hg hP7 F' N'
  case turn =>
    rintro i7 ys7 news7 hi7 ⟨added, rfl, hP7⟩ v7 I7 oI7 C7 oC7 D7 m7 h7 tk7 E7 hv7 hC7 hx7 F7 N7 off7
    obtain ⟨x7, t7, rfl, e7⟩ := strs_get hx i7 v7 (by simpa using hv7)
    rw [List.getElem?_map] at e7
    obtain ⟨p7, e8, rfl⟩ := Option.map_eq_some_iff.mp e7
    obtain ⟨r1, r2⟩ := hr p7 (List.mem_of_getElem? e8)
    have r3 := flat_len r1
    k_steps
    unfold Stop
    refine claim0_use (t_col w mean mg mb p7 (fun r h => rowK_good (r1 r h)) (by omega) t7) (by k_asm) (by k_asm) (by k_asm) (by k_asm) (by k_asm) rfl trivial (by ktr_room) (by ktr_units) ?_
    rintro r9 tl9 h9 tk9 F9 N9 K9 l9 ⟨a9, n9, t91, t92, t93, rfl, rfl⟩
    rw [col_R r1, col_G r1, col_B r1] at N9
    refine LCg.CompEnd.intro F9 N9 ((a9, listOf #[.int (cnt 0 p7 : Nat) t91, .int (cnt 1 p7 : Nat) t92, .int (cnt 2 p7 : Nat) t93] n9) :: (added ++ (lx, listOf xs.toArray n2) :: keep)) ?_ (off3_cons off7 (l9 _ (.head _))) (.inr ⟨_, .tail _ (List.mem_append.mpr (.inr (.head _))), rfl, _, rfl⟩) ⟨_ :: added, rfl, ?_⟩
    · intro q hq
      rcases List.mem_cons.mp hq with rfl | hq
      · exact .tail _ (.head _)
      · rcases List.mem_cons.mp hq with rfl | hq
        · exact .tail _ (.tail _ (.head _))
        · rcases List.mem_cons.mp hq with rfl | hq
          · exact .tail _ (.tail _ (.tail _ (.head _)))
          · rcases List.mem_cons.mp hq with rfl | hq
            · exact .head _
            · exact .tail _ (.tail _ (.tail _ (.tail _ hq)))
    · rw [List.take_add_one, e8]
      exact Parts.snoc hP7
end Mine

end
-- L9
section
open PySem PySem.W PyProof.Rows PySem.Calls
set_option maxRecDepth 100000
set_option maxHeartbeats 8000000
namespace Mine
theorem fresh_L9 : True := by
  w_top off
  k_with_none
  k_with "omega" => lia
  trivial
theorem rows_L9_1 : True := by
  k_with "call ref" => (k_here; (with_reducible show wpAny _ _ (call (Value.ref 76) [Value.ref _]) _ _ _); k_dflt (refine' claim_use (c_neck _ _ _ _ _ _ _ ?hi ?hn) ?k1 ?k2 ?k3 ?k4 ?k5 ?kK ?kp ?kd ?ku ?_; (case hi => assumption); (case hn => assumption); (case k1 => k_asm); (case k2 => k_asm); (case k3 => k_asm); (case k4 => k_asm); (case k5 => k_asm); (case kK => first | exact rfl | assumption); (case kp => is_list); (case kd => ktr_room); (case ku => ktr_units); intro r9 tl9 h9 tk9 g9 F9 N9 K9 l9 G9 R9; obtain ⟨a9, ws9, bs9, n9, e9, e9', i9, b9⟩ := R9; subst e9; subst e9'; clear l9 K9; simp only [List.cons_append, List.nil_append] at N9; (try dsimp only)))
  k_with "CompEnd" => (k_dflt (refine' LCg.CompEnd.intro ?F ?N _ ?sub ?off ?src (And.intro rfl ?J); (case F => k_asm); (case N => k_asm); (case sub => lcg_sub); (case off => assumption); (case src => lcg_src); (case J => first | exact rows_snoc _ (by assumption) (by assumption) (by first | exact row_red _ | exact row_green _ | exact row_blue _) | exact sent_snoc _ (by assumption) (by assumption) (by first | exact sent_red _ | exact sent_green _ | exact sent_blue _) | exact count_snoc (by assumption) rfl)))
  k_with "subscriptTail Name Name ref int" => (k_here; (with_reducible show wpAny _ _ (subscriptTail _ _ (Value.ref _) (Value.int _ _)) _ _ _); k_dflt (refine' item_bead ?l ?i ?B ?n ?_ ?s ?g; (case l => is_list); (case i => assumption); (case B => assumption); (case n => assumption); (case s => with_unfolding_all rfl); (case g => (intro _; with_unfolding_all rfl)); intro b8 t8 e8 c8; (rcases c8 with c8 | c8 | c8 <;> subst c8)))
  k_with "subscriptTail List Subscript ref int" => (k_here; (with_reducible show wpAny _ _ (subscriptTail _ _ (Value.ref _) (Value.int _ _)) _ _ _); k_dflt (refine' item_new ?k1 ?k2 ?k3 ?k4 ?k5 ?_ ?k6 ?k7; (case k1 => k_asm); (case k2 => k_mem); (case k3 => decide); (case k4 => decide); (case k5 => exact rfl); (case k6 => with_unfolding_all rfl); (case k7 => (intro _; with_unfolding_all rfl))))
  k_with "subscriptTail List Name ref int" => (k_here; (with_reducible show wpAny _ _ (subscriptTail _ _ (Value.ref _) (Value.int _ _)) _ _ _); k_dflt (refine' item_new ?k1 ?k2 ?k3 ?k4 ?k5 ?_ ?k6 ?k7; (case k1 => k_asm); (case k2 => k_mem); (case k3 => decide); (case k4 => decide); (case k5 => exact rfl); (case k6 => with_unfolding_all rfl); (case k7 => (intro _; with_unfolding_all rfl))))
  k_with "call builtin:str.join" => (k_here; (with_reducible show wpAny _ _ (call (Value.builtin "str.join") [Value.str _ _, Value.ref _]) _ _ _); k_dflt (refine' join_rows ?e ?l ?i ?n ?_; (case e => with_unfolding_all rfl); (case l => is_list); (case i => assumption); (case n => first | exact Nat.le_trans (rows_flat (by assumption)) (by decide) | exact Nat.le_trans (sent_flat (by assumption)) (by decide)); intro t6 k6; (try dsimp only)))
  k_with "storeName" => (k_here; k_dflt (refine' store_cell ?c ?m ?d ?U ?F ?N ?_ ?a ?b; (case a => rfl); (case b => rfl); (case c => rfl); (case F => k_asm); (case N => k_asm); (case m => k_mem); (case d => k_asm); (case U => (first | (refine UpdN.head ?_; (repeat (first | exact List.forall_mem_nil _ | (refine List.forall_mem_cons.mpr ⟨Or.inr (by (try dsimp only); omega), ?_⟩)))) | (refine' UpdN.tail ?q ?b3; (case q => first | (exact Or.inl (by intro v e; cases e)) | (exact Or.inr (by (try dsimp only); omega))); (case b3 => (first | (refine UpdN.head ?_; (repeat (first | exact List.forall_mem_nil _ | (refine List.forall_mem_cons.mpr ⟨Or.inr (by (try dsimp only); omega), ?_⟩)))) | (refine' UpdN.tail ?q ?b3; (case q => first | (exact Or.inl (by intro v e; cases e)) | (exact Or.inr (by (try dsimp only); omega))); (case b3 => (first | (refine UpdN.head ?_; (repeat (first | exact List.forall_mem_nil _ | (refine List.forall_mem_cons.mpr ⟨Or.inr (by (try dsimp only); omega), ?_⟩)))) | (refine' UpdN.tail ?q ?b3; (case q => first | (exact Or.inl (by intro v e; cases e)) | (exact Or.inr (by (try dsimp only); omega))); (case b3 => (first | (refine UpdN.head ?_; (repeat (first | exact List.forall_mem_nil _ | (refine List.forall_mem_cons.mpr ⟨Or.inr (by (try dsimp only); omega), ?_⟩)))) | (refine' UpdN.tail ?q ?b3; (case q => first | (exact Or.inl (by intro v e; cases e)) | (exact Or.inr (by (try dsimp only); omega))); (case b3 => (first | (refine UpdN.head ?_; (repeat (first | exact List.forall_mem_nil _ | (refine List.forall_mem_cons.mpr ⟨Or.inr (by (try dsimp only); omega), ?_⟩)))) | (refine' UpdN.tail ?q ?b3; (case q => first | (exact Or.inl (by intro v e; cases e)) | (exact Or.inr (by (try dsimp only); omega))); (case b3 => (first | (refine UpdN.head ?_; (repeat (first | exact List.forall_mem_nil _ | (refine List.forall_mem_cons.mpr ⟨Or.inr (by (try dsimp only); omega), ?_⟩)))) | (refine' UpdN.tail ?q ?b3; (case q => first | (exact Or.inl (by intro v e; cases e)) | (exact Or.inr (by (try dsimp only); omega))); (case b3 => (first | (refine UpdN.head ?_; (repeat (first | exact List.forall_mem_nil _ | (refine List.forall_mem_cons.mpr ⟨Or.inr (by (try dsimp only); omega), ?_⟩)))) | (refine' UpdN.tail ?q ?b3; (case q => first | (exact Or.inl (by intro v e; cases e)) | (exact Or.inr (by (try dsimp only); omega))); (case b3 => (first | (refine UpdN.head ?_; (repeat (first | exact List.forall_mem_nil _ | (refine List.forall_mem_cons.mpr ⟨Or.inr (by (try dsimp only); omega), ?_⟩)))) | (refine' UpdN.tail ?q ?b3; (case q => first | (exact Or.inl (by intro v e; cases e)) | (exact Or.inr (by (try dsimp only); omega))); (case b3 => (first | (refine UpdN.head ?_; (repeat (first | exact List.forall_mem_nil _ | (refine List.forall_mem_cons.mpr ⟨Or.inr (by (try dsimp only); omega), ?_⟩)))) | (refine' UpdN.tail ?q ?b3; (case q => first | (exact Or.inl (by intro v e; cases e)) | (exact Or.inr (by (try dsimp only); omega))); (case b3 => (first | (refine UpdN.head ?_; (repeat (first | exact List.forall_mem_nil _ | (refine List.forall_mem_cons.mpr ⟨Or.inr (by (try dsimp only); omega), ?_⟩)))) | (refine' UpdN.tail ?q ?b3; (case q => first | (exact Or.inl (by intro v e; cases e)) | (exact Or.inr (by (try dsimp only); omega))); (case b3 => (first | (refine UpdN.head ?_; (repeat (first | exact List.forall_mem_nil _ | (refine List.forall_mem_cons.mpr ⟨Or.inr (by (try dsimp only); omega), ?_⟩)))) | (refine' UpdN.tail ?q ?b3; (case q => first | (exact Or.inl (by intro v e; cases e)) | (exact Or.inr (by (try dsimp only); omega))); (case b3 => (first | (refine UpdN.head ?_; (repeat (first | exact List.forall_mem_nil _ | (refine List.forall_mem_cons.mpr ⟨Or.inr (by (try dsimp only); omega), ?_⟩)))) | (refine' UpdN.tail ?q ?b3; (case q => first | (exact Or.inl (by intro v e; cases e)) | (exact Or.inr (by (try dsimp only); omega))); (case b3 => (first | (refine UpdN.head ?_; (repeat (first | exact List.forall_mem_nil _ | (refine List.forall_mem_cons.mpr ⟨Or.inr (by (try dsimp only); omega), ?_⟩)))) | (refine' UpdN.tail ?q ?b3; (case q => first | (exact Or.inl (by intro v e; cases e)) | (exact Or.inr (by (try dsimp only); omega))); (case b3 => (first | (refine UpdN.head ?_; (repeat (first | exact List.forall_mem_nil _ | (refine List.forall_mem_cons.mpr ⟨Or.inr (by (try dsimp only); omega), ?_⟩)))) | (refine' UpdN.tail ?q ?b3; (case q => first | (exact Or.inl (by intro v e; cases e)) | (exact Or.inr (by (try dsimp only); omega))); (case b3 => (first | (refine UpdN.head ?_; (repeat (first | exact List.forall_mem_nil _ | (refine List.forall_mem_cons.mpr ⟨Or.inr (by (try dsimp only); omega), ?_⟩)))) | (refine' UpdN.tail ?q ?b3; (case q => first | (exact Or.inl (by intro v e; cases e)) | (exact Or.inr (by (try dsimp only); omega))); (case b3 => (first | (refine UpdN.head ?_; (repeat (first | exact List.forall_mem_nil _ | (refine List.forall_mem_cons.mpr ⟨Or.inr (by (try dsimp only); omega), ?_⟩)))) | (refine' UpdN.tail ?q ?b3; (case q => first | (exact Or.inl (by intro v e; cases e)) | (exact Or.inr (by (try dsimp only); omega))); (case b3 => (refine UpdN.head ?_; (repeat (first | exact List.forall_mem_nil _ | (refine List.forall_mem_cons.mpr ⟨Or.inr (by (try dsimp only); omega), ?_⟩))))))))))))))))))))))))))))))))))))))))))))))))))))); k_whole; intro h' o' F' N' d'; (try dsimp only at N'); (try k_sweep)))
  k_with "eval ListComp" => (k_here; refine stopHere ?_)
  k_with "exec Assign cons ListComp" => (k_here; (with_reducible show wpAny _ _ (exec (Stmt.Assign [Expr.Name (Str.ofString "rows") _] _ _) _) _ _ _); refine stopHere ?_)
  k_with "exec Assign cons ListComp" => (k_here; (with_reducible show wpAny _ _ (exec (Stmt.Assign [Expr.Name (Str.ofString "twice") _] _ _) _) _ _ _); refine stopHere ?_)
  k_with "CompSrc" => (k_here; refine stopHere ?_)
  k_with "compareOp NotEq ref ref" => (k_here; refine stopHere ?_)
  k_with "compareOp Eq ref ref" => (k_here; refine stopHere ?_)
  k_with "subscriptTail Name Name ref int" => (k_here; refine stopHere ?_)
  k_with "call builtin:sum" => (k_here; refine stopHere ?_)
  trivial
theorem law_if1 (w : World) (mean : ExcName → Option Value) (mg mb : Str → Option Value) (h₀ base : Heap) (Z : Here w mean mg mb h₀ base) (fa : Addr) (cd : Value) (L Dp lt aw : Addr) (ys ts wz : List Value) (added : List (Addr × Obj)) (n1 nw : Nat) (ps : List (List Row)) (hps : ps.length = 6) (hP : Parts ps ys added) (cs : List Int) (hcs : cs.length = 3) (hs : ∀ i : Nat, i < 3 → cs[i]? = some (ps.map fun p => ((cnt (i : Int) p : Nat) : Int)).sum)
   (ht : IntsAre ts [2, 2, 2, 2, 2]) (hw : IntsAre wz cs) (s : Shared) (u : Str → Option Value) (keep : List (Addr × Obj)) (o2 o3 : Obj)
   (d2 : o2.data = .cell (some (.ref aw))) (d3 : o3.data = .cell (some (.ref Dp))) (F : Fr h₀ L s.heap (fun z => if z = Str.ofString "sizes" then some (.ref lt) else u z)) (N : News h₀ L s.heap ((Dp, LCg.lst ys) :: (L + 1 + 1 + 1, o3) :: (L + 1 + 1, o2) :: keep)) (m2 : ∀ p ∈ added, p ∈ keep) (m3 : (lt, listOf ts.toArray n1) ∈ keep) (m4 : (aw, listOf wz.toArray nw) ∈ keep)
   (Q : Flow → Shared → Prop) (E : Value → Shared → Prop)
   (next : ∀ h' tk, s.toks ≤ tk → Fr h₀ L h' (fun z => if z = Str.ofString "sizes" then some (.ref lt) else u z) → News h₀ L h' ((Dp, LCg.lst ys) :: (L + 1 + 1 + 1, o3) :: (L + 1 + 1, o2) :: keep) → LawGo 7 w L fa cd Q E { s with heap := h', toks := tk }) :
   LawGo 6 w L fa cd Q E s := by
  obtain ⟨B, X, T, XB, TB⟩ := Z
  refine law_row (by unfold lawRec recOf; rfl) ?_
  unfold lawEnv lawRec recOf
  dsimp only
  revert X
  k_fill
  intro X
  k_steps
  unfold Stop
  rename News _ _ _ _ => N1
  refine ne_intsK (of_mem N1 (.tail _ (.tail _ (.tail _ (.tail _ m3))))) ht (of_mem N1 (.head _)) (.cons _ _ (.cons _ _ (.cons _ _ (.cons _ _ (.cons _ _ .nil))))) (by ktr_units) ?_
  k_steps
  unfold Stop
  refine comp_cell (h₀ := h₀) (L := L) (m := fun z => if z = Str.ofString "sizes" then some (.ref lt) else u z) (cl := [(Str.ofString "parts", L + 1 + 1 + 1)]) rfl rfl (by with_unfolding_all rfl) (by intro _; with_unfolding_all rfl) (by with_unfolding_all rfl) ?_
  k_steps
  rename News _ _ _ _ => N2
  refine ⟨_, 0, 3, 3, _, _, _, (Dp, LCg.lst ys) :: (L + 1 + 1 + 1, o3) :: (L + 1 + 1, o2) :: keep, fun i zs => IntsAre zs (cs.take i), rfl, rfl, by k_asm, (fun p hp => N2 p (.tail _ hp)), by assumption, rfl, rfl, by decide, IntsAre.nil, ?turn, ?fin⟩
  case fin =>
    intro D3 zs h3 tk3 hz F3 N3
    rw [List.take_of_length_le (by omega)] at hz
    k_steps
    unfold Stop
    refine ne_intsK (of_mem N3 (.head _)) hz (of_mem N3 (.tail _ (.tail _ (.tail _ (.tail _ m4))))) hw (by ktr_units) ?_
    rw [decide_eq_true rfl]
    k_steps
    exact fun hk => next _ _ hk (by assumption) (fun p hp => N3 p (.tail _ hp))
  case turn =>
    intro i zs hi hz I C ck D3 oI oC oc t3 h3 tk3 E3 hoc F3 N3
    k_steps
    unfold Stop
    refine LCg.ListComp_U (F₀ := by k_asm) (by with_unfolding_all rfl) (by decide) (by rfl) (by decide) (by rfl) ?_
    k_dflt lcg_toSrc
    unfold Stop
    refine LCg.CompSrc.ledger (its := ys.toArray) (by rfl) (by k_asm) (by k_asm) (by k_mem) ?hsz ?_
    case hsz => rw [List.size_toArray, parts_len hP, hps]; decide
    intro g7
    have hn6 : ys.toArray.size = 6 := by rw [List.size_toArray, parts_len hP, hps]
    refine comp_inv (KeepJ _ (fun j qs => IntsAre qs ((ps.take j).map fun p => ((cnt (i : Int) p : Nat) : Int)))) ?turn ?fin _ 0 [] _ (Nat.zero_add _) ⟨rfl, IntsAre.nil⟩
    case fin =>
      rintro qs7 news7 ⟨rfl, hP7⟩
      rw [List.take_of_length_le (by rw [hn6, hps]; decide)] at hP7
      unfold LCg.FinE
      intro D' h' tk' F' N' _
      k_steps
      unfold Stop
      refine sum_new rfl (by k_asm) N' (of_mem N' (.head _)) hP7 ?_
      intro h4 tk4 t4 F4 N4
      refine ⟨h4, tk4, rfl, F4, fun p hp => N4 p (.tail _ hp), ?_⟩
      show IntsAre (zs ++ [_]) (cs.take (i + 1))
      rw [List.take_add_one, hs i hi]
      exact ints_snoc hz _ _
    case turn =>
      rintro j7 qs7 news7 hj7 ⟨rfl, hP7⟩ v7 I7 oI7 C7 oC7 D7 m7 h7 tk7 E7 hv7 hC7 hx7 F7 N7 off7
      obtain ⟨a7, p7, t71, t72, t73, n7, rfl, e7, q7⟩ := parts_get hP j7 v7 (by simpa using hv7)
      k_steps
      unfold Stop
      refine item_part N7 (.tail _ (.tail _ (.tail _ (.tail _ (.tail _ (.tail _ (.tail _ (.tail _ (.tail _ (.tail _ (m2 _ q7))))))))))) hi ?_ (by with_unfolding_all rfl) (by intro _; with_unfolding_all rfl)
      intro t9
      refine LCg.CompEnd.intro F7 N7 _ (fun p hp => hp) off7 (.inr ⟨_, .tail _ (.tail _ (.tail _ (.tail _ (.head _)))), rfl, _, rfl⟩) ⟨rfl, ?_⟩
      show IntsAre (qs7 ++ [_]) ((ps.take (j7 + 1)).map _)
      rw [List.take_add_one, e7, List.map_append]
      exact ints_snoc hP7 _ _
end Mine

end
-- L10
section
open PySem PySem.W PyProof.Rows PySem.Calls
set_option maxRecDepth 100000
set_option maxHeartbeats 8000000
namespace Mine
theorem fresh_L10 : True := by
  w_top off
  k_with_none
  k_with "omega" => lia
  trivial
theorem rows_L10_1 : True := by
  k_with "call ref" => (k_here; (with_reducible show wpAny _ _ (call (Value.ref 76) [Value.ref _]) _ _ _); k_dflt (refine' claim_use (c_neck _ _ _ _ _ _ _ ?hi ?hn) ?k1 ?k2 ?k3 ?k4 ?k5 ?kK ?kp ?kd ?ku ?_; (case hi => assumption); (case hn => assumption); (case k1 => k_asm); (case k2 => k_asm); (case k3 => k_asm); (case k4 => k_asm); (case k5 => k_asm); (case kK => first | exact rfl | assumption); (case kp => is_list); (case kd => ktr_room); (case ku => ktr_units); intro r9 tl9 h9 tk9 g9 F9 N9 K9 l9 G9 R9; obtain ⟨a9, ws9, bs9, n9, e9, e9', i9, b9⟩ := R9; subst e9; subst e9'; clear l9 K9; simp only [List.cons_append, List.nil_append] at N9; (try dsimp only)))
  k_with "CompEnd" => (k_dflt (refine' LCg.CompEnd.intro ?F ?N _ ?sub ?off ?src (And.intro rfl ?J); (case F => k_asm); (case N => k_asm); (case sub => lcg_sub); (case off => assumption); (case src => lcg_src); (case J => first | exact rows_snoc _ (by assumption) (by assumption) (by first | exact row_red _ | exact row_green _ | exact row_blue _) | exact sent_snoc _ (by assumption) (by assumption) (by first | exact sent_red _ | exact sent_green _ | exact sent_blue _) | exact count_snoc (by assumption) rfl)))
  k_with "subscriptTail Name Name ref int" => (k_here; (with_reducible show wpAny _ _ (subscriptTail _ _ (Value.ref _) (Value.int _ _)) _ _ _); k_dflt (refine' item_bead ?l ?i ?B ?n ?_ ?s ?g; (case l => is_list); (case i => assumption); (case B => assumption); (case n => assumption); (case s => with_unfolding_all rfl); (case g => (intro _; with_unfolding_all rfl)); intro b8 t8 e8 c8; (rcases c8 with c8 | c8 | c8 <;> subst c8)))
  k_with "subscriptTail List Subscript ref int" => (k_here; (with_reducible show wpAny _ _ (subscriptTail _ _ (Value.ref _) (Value.int _ _)) _ _ _); k_dflt (refine' item_new ?k1 ?k2 ?k3 ?k4 ?k5 ?_ ?k6 ?k7; (case k1 => k_asm); (case k2 => k_mem); (case k3 => decide); (case k4 => decide); (case k5 => exact rfl); (case k6 => with_unfolding_all rfl); (case k7 => (intro _; with_unfolding_all rfl))))
  k_with "subscriptTail List Name ref int" => (k_here; (with_reducible show wpAny _ _ (subscriptTail _ _ (Value.ref _) (Value.int _ _)) _ _ _); k_dflt (refine' item_new ?k1 ?k2 ?k3 ?k4 ?k5 ?_ ?k6 ?k7; (case k1 => k_asm); (case k2 => k_mem); (case k3 => decide); (case k4 => decide); (case k5 => exact rfl); (case k6 => with_unfolding_all rfl); (case k7 => (intro _; with_unfolding_all rfl))))
  k_with "call builtin:str.join" => (k_here; (with_reducible show wpAny _ _ (call (Value.builtin "str.join") [Value.str _ _, Value.ref _]) _ _ _); k_dflt (refine' join_rows ?e ?l ?i ?n ?_; (case e => with_unfolding_all rfl); (case l => is_list); (case i => assumption); (case n => first | exact Nat.le_trans (rows_flat (by assumption)) (by decide) | exact Nat.le_trans (sent_flat (by assumption)) (by decide)); intro t6 k6; (try dsimp only)))
  k_with "storeName" => (k_here; k_dflt (refine' store_cell ?c ?m ?d ?U ?F ?N ?_ ?a ?b; (case a => rfl); (case b => rfl); (case c => rfl); (case F => k_asm); (case N => k_asm); (case m => k_mem); (case d => k_asm); (case U => (first | (refine UpdN.head ?_; (repeat (first | exact List.forall_mem_nil _ | (refine List.forall_mem_cons.mpr ⟨Or.inr (by (try dsimp only); omega), ?_⟩)))) | (refine' UpdN.tail ?q ?b3; (case q => first | (exact Or.inl (by intro v e; cases e)) | (exact Or.inr (by (try dsimp only); omega))); (case b3 => (first | (refine UpdN.head ?_; (repeat (first | exact List.forall_mem_nil _ | (refine List.forall_mem_cons.mpr ⟨Or.inr (by (try dsimp only); omega), ?_⟩)))) | (refine' UpdN.tail ?q ?b3; (case q => first | (exact Or.inl (by intro v e; cases e)) | (exact Or.inr (by (try dsimp only); omega))); (case b3 => (first | (refine UpdN.head ?_; (repeat (first | exact List.forall_mem_nil _ | (refine List.forall_mem_cons.mpr ⟨Or.inr (by (try dsimp only); omega), ?_⟩)))) | (refine' UpdN.tail ?q ?b3; (case q => first | (exact Or.inl (by intro v e; cases e)) | (exact Or.inr (by (try dsimp only); omega))); (case b3 => (first | (refine UpdN.head ?_; (repeat (first | exact List.forall_mem_nil _ | (refine List.forall_mem_cons.mpr ⟨Or.inr (by (try dsimp only); omega), ?_⟩)))) | (refine' UpdN.tail ?q ?b3; (case q => first | (exact Or.inl (by intro v e; cases e)) | (exact Or.inr (by (try dsimp only); omega))); (case b3 => (first | (refine UpdN.head ?_; (repeat (first | exact List.forall_mem_nil _ | (refine List.forall_mem_cons.mpr ⟨Or.inr (by (try dsimp only); omega), ?_⟩)))) | (refine' UpdN.tail ?q ?b3; (case q => first | (exact Or.inl (by intro v e; cases e)) | (exact Or.inr (by (try dsimp only); omega))); (case b3 => (first | (refine UpdN.head ?_; (repeat (first | exact List.forall_mem_nil _ | (refine List.forall_mem_cons.mpr ⟨Or.inr (by (try dsimp only); omega), ?_⟩)))) | (refine' UpdN.tail ?q ?b3; (case q => first | (exact Or.inl (by intro v e; cases e)) | (exact Or.inr (by (try dsimp only); omega))); (case b3 => (first | (refine UpdN.head ?_; (repeat (first | exact List.forall_mem_nil _ | (refine List.forall_mem_cons.mpr ⟨Or.inr (by (try dsimp only); omega), ?_⟩)))) | (refine' UpdN.tail ?q ?b3; (case q => first | (exact Or.inl (by intro v e; cases e)) | (exact Or.inr (by (try dsimp only); omega))); (case b3 => (first | (refine UpdN.head ?_; (repeat (first | exact List.forall_mem_nil _ | (refine List.forall_mem_cons.mpr ⟨Or.inr (by (try dsimp only); omega), ?_⟩)))) | (refine' UpdN.tail ?q ?b3; (case q => first | (exact Or.inl (by intro v e; cases e)) | (exact Or.inr (by (try dsimp only); omega))); (case b3 => (first | (refine UpdN.head ?_; (repeat (first | exact List.forall_mem_nil _ | (refine List.forall_mem_cons.mpr ⟨Or.inr (by (try dsimp only); omega), ?_⟩)))) | (refine' UpdN.tail ?q ?b3; (case q => first | (exact Or.inl (by intro v e; cases e)) | (exact Or.inr (by (try dsimp only); omega))); (case b3 => (first | (refine UpdN.head ?_; (repeat (first | exact List.forall_mem_nil _ | (refine List.forall_mem_cons.mpr ⟨Or.inr (by (try dsimp only); omega), ?_⟩)))) | (refine' UpdN.tail ?q ?b3; (case q => first | (exact Or.inl (by intro v e; cases e)) | (exact Or.inr (by (try dsimp only); omega))); (case b3 => (first | (refine UpdN.head ?_; (repeat (first | exact List.forall_mem_nil _ | (refine List.forall_mem_cons.mpr ⟨Or.inr (by (try dsimp only); omega), ?_⟩)))) | (refine' UpdN.tail ?q ?b3; (case q => first | (exact Or.inl (by intro v e; cases e)) | (exact Or.inr (by (try dsimp only); omega))); (case b3 => (first | (refine UpdN.head ?_; (repeat (first | exact List.forall_mem_nil _ | (refine List.forall_mem_cons.mpr ⟨Or.inr (by (try dsimp only); omega), ?_⟩)))) | (refine' UpdN.tail ?q ?b3; (case q => first | (exact Or.inl (by intro v e; cases e)) | (exact Or.inr (by (try dsimp only); omega))); (case b3 => (first | (refine UpdN.head ?_; (repeat (first | exact List.forall_mem_nil _ | (refine List.forall_mem_cons.mpr ⟨Or.inr (by (try dsimp only); omega), ?_⟩)))) | (refine' UpdN.tail ?q ?b3; (case q => first | (exact Or.inl (by intro v e; cases e)) | (exact Or.inr (by (try dsimp only); omega))); (case b3 => (first | (refine UpdN.head ?_; (repeat (first | exact List.forall_mem_nil _ | (refine List.forall_mem_cons.mpr ⟨Or.inr (by (try dsimp only); omega), ?_⟩)))) | (refine' UpdN.tail ?q ?b3; (case q => first | (exact Or.inl (by intro v e; cases e)) | (exact Or.inr (by (try dsimp only); omega))); (case b3 => (first | (refine UpdN.head ?_; (repeat (first | exact List.forall_mem_nil _ | (refine List.forall_mem_cons.mpr ⟨Or.inr (by (try dsimp only); omega), ?_⟩)))) | (refine' UpdN.tail ?q ?b3; (case q => first | (exact Or.inl (by intro v e; cases e)) | (exact Or.inr (by (try dsimp only); omega))); (case b3 => (first | (refine UpdN.head ?_; (repeat (first | exact List.forall_mem_nil _ | (refine List.forall_mem_cons.mpr ⟨Or.inr (by (try dsimp only); omega), ?_⟩)))) | (refine' UpdN.tail ?q ?b3; (case q => first | (exact Or.inl (by intro v e; cases e)) | (exact Or.inr (by (try dsimp only); omega))); (case b3 => (refine UpdN.head ?_; (repeat (first | exact List.forall_mem_nil _ | (refine List.forall_mem_cons.mpr ⟨Or.inr (by (try dsimp only); omega), ?_⟩))))))))))))))))))))))))))))))))))))))))))))))))))))); k_whole; intro h' o' F' N' d'; (try dsimp only at N'); (try k_sweep)))
  k_with "eval ListComp" => (k_here; refine stopHere ?_)
  k_with "exec Assign cons ListComp" => (k_here; (with_reducible show wpAny _ _ (exec (Stmt.Assign [Expr.Name (Str.ofString "rows") _] _ _) _) _ _ _); refine stopHere ?_)
  k_with "exec Assign cons ListComp" => (k_here; (with_reducible show wpAny _ _ (exec (Stmt.Assign [Expr.Name (Str.ofString "twice") _] _ _) _) _ _ _); refine stopHere ?_)
  k_with "CompSrc" => (k_here; refine stopHere ?_)
  k_with "call builtin:str.join" => (k_here; refine stopHere ?_)
  k_with "call ref" => (k_here; (with_reducible show wpAny _ _ (call (Value.ref 69) [Value.str _ _]) _ _ _); refine stopHere ?_)
  k_with "compareOp NotEq str str" => (k_here; refine stopHere ?_)
  trivial
theorem law_if2 (w : World) (mean : ExcName → Option Value) (mg mb : Str → Option Value) (h₀ base : Heap) (Z : Here w mean mg mb h₀ base) (fa : Addr) (cd : Value) (L D : Addr) (ys : List Value) (rs : List Row) (hx : StrsAre ys (rs.map rowS)) (hr : ∀ r ∈ rs, rowK r) (hrl : rs.length = 10) (s : Shared) (u : Str → Option Value) (t : Tok) (keep : List (Addr × Obj))
   (F : Fr h₀ L s.heap (sentM rs D t u)) (N : News h₀ L s.heap ((D, LCg.lst ys) :: keep)) (Q : Flow → Shared → Prop) (E : Value → Shared → Prop)
   (next : ∀ h' tk, s.toks ≤ tk → Fr h₀ L h' (sentM rs D t u) → News h₀ L h' ((D, LCg.lst ys) :: keep) → LawGo 8 w L fa cd Q E { s with heap := h', toks := tk }) :
   LawGo 7 w L fa cd Q E s := by
  obtain ⟨B, X, T, XB, TB⟩ := Z
  unfold sentM at F
  have hf := flat_len hr
  refine law_row (by unfold lawRec recOf; rfl) ?_
  unfold lawEnv lawRec recOf
  dsimp only
  revert X
  k_fill
  intro X
  k_steps
  unfold Stop
  refine join_rows (rs := rs) (by with_unfolding_all rfl) (of_mem N (.head _)) hx (by omega) ?_
  intro t6 k6
  k_steps
  unfold Stop
  refine claim0_use (c_quote w mean mg mb rs (fun r h => rowK_good (hr r h)) (by omega) t6) (by k_asm) (by k_asm) (by k_asm) (by k_asm) (by k_asm) rfl trivial (by ktr_room) (by ktr_units) ?_
  rintro r9 tl9 h9 tk9 F9 N9 K9 l9 ⟨rfl, hb9, t9, rfl⟩
  rw [List.nil_append] at N9
  k_steps
  unfold Stop
  refine PyProof.Rows.ne_str ?_
  rw [bne_self_eq_false]
  k_steps
  exact fun hk => next _ _ hk F9 N9
end Mine

end
-- P3
section
open PySem PySem.W PyProof.Rows PySem.Calls
set_option maxRecDepth 100000
set_option maxHeartbeats 8000000
namespace Mine
theorem fresh_P3 : True := by
  w_top off
  k_with_none
  trivial
def mx (r g b : Int) : Int := max (max r g) b
def mn (r g b : Int) : Int := min (min r g) b
def fr (a b : Int) : UInt64 := Float64.ofFrac (decide (a < 0) != decide (b < 0)) a.natAbs b.natAbs
def rgbS (r g b : Int) : UInt64 := if mn r g b = mx r g b then 0 else fr (mx r g b - mn r g b) (mx r g b)
def rgbHraw (r g b : Int) : UInt64 :=
  if r = mx r g b then Float64.sub (fr (mx r g b - b) (mx r g b - mn r g b)) (fr (mx r g b - g) (mx r g b - mn r g b))
  else if g = mx r g b then Float64.sub (Float64.add 4611686018427387904 (fr (mx r g b - r) (mx r g b - mn r g b))) (fr (mx r g b - b) (mx r g b - mn r g b))
  else Float64.sub (Float64.add 4616189618054758400 (fr (mx r g b - g) (mx r g b - mn r g b))) (fr (mx r g b - r) (mx r g b - mn r g b))
def rgbH (r g b : Int) : UInt64 := if mn r g b = mx r g b then 0 else (Float64.divmod (Float64.div (rgbHraw r g b) 4618441417868443648) 4607182418800017408).snd

def half : UInt64 := 4602678819172646912
def six : UInt64 := 4618441417868443648
def one : UInt64 := 4607182418800017408
inductive PV where
  | i (n : Int)
  | f (x : UInt64)
def PV.q : PV → UInt64
  | .i k => Float64.add (Float64.ofInt k) half
  | .f x => Float64.add x half
def PV.small : PV → Bool
  | .i k => decide (k.natAbs ≤ 2 ^ 40)
  | .f _ => true
def PV.ok (p : PV) (n : Int) : Bool := p.small && Float64.isFinite p.q && decide (Flt.toInt Float64.truncOf p.q = n)
def hI (h : UInt64) : Int := Flt.toInt Float64.truncOf (Float64.mul h six)
def hF (h : UInt64) : UInt64 := Float64.sub (Float64.mul h six) (Float64.ofInt (hI h))
def hP (s : UInt64) (v : Int) : UInt64 := Float64.mul (Float64.ofInt v) (Float64.sub one s)
def hQ (h s : UInt64) (v : Int) : UInt64 := Float64.mul (Float64.ofInt v) (Float64.sub one (Float64.mul s (hF h)))
def hT (h s : UInt64) (v : Int) : UInt64 := Float64.mul (Float64.ofInt v) (Float64.sub one (Float64.mul s (Float64.sub one (hF h))))
def hsvVals (h s : UInt64) (v : Int) : PV × PV × PV :=
  if (hI h).fmod 6 = 0 then (.i v, .f (hT h s v), .f (hP s v))
  else if (hI h).fmod 6 = 1 then (.f (hQ h s v), .i v, .f (hP s v))
  else if (hI h).fmod 6 = 2 then (.f (hP s v), .i v, .f (hT h s v))
  else if (hI h).fmod 6 = 3 then (.f (hP s v), .f (hQ h s v), .i v)
  else if (hI h).fmod 6 = 4 then (.f (hT h s v), .f (hP s v), .i v)
  else (.i v, .f (hP s v), .f (hQ h s v))
def chk (r g b : Int) : Bool :=
  let h := rgbH r g b
  let s := rgbS r g b
  let v := 2147483648 * mx r g b
  let x := hsvVals h s v
  !(Float64.cmp s 0 == some Ordering.eq) && Float64.isFinite (Float64.mul h six) && decide (0 ≤ hI h) && decide (hI h ≤ 5) && x.1.ok (2147483648 * r) && x.2.1.ok (2147483648 * g) && x.2.2.ok (2147483648 * b)
theorem chk_all : ∀ r ∈ List.range 6, ∀ g ∈ List.range (6 - r), chk r g ((5 - r - g : Nat) : Int) = true := by decide +kernel
theorem chk_of {r g b : Int} (h1 : 0 ≤ r) (h2 : 0 ≤ g) (h3 : 0 ≤ b) (h4 : r + g + b = 5) : chk r g b = true := by
  have := chk_all r.toNat (List.mem_range.mpr (by omega)) g.toNat (List.mem_range.mpr (by omega))
  have e1 : ((r.toNat : Nat) : Int) = r := by omega
  have e2 : ((g.toNat : Nat) : Int) = g := by omega
  have e3 : ((5 - r.toNat - g.toNat : Nat) : Int) = b := by omega
  rw [e1, e2, e3] at this
  exact this
end Mine

end
-- T2
section
open PySem PySem.W PyProof.Rows PySem.Calls
set_option maxRecDepth 100000
set_option maxHeartbeats 8000000
namespace Mine
theorem fresh_T2 : True := by
  w_top off
  k_with_none
  k_with "omega" => lia
  trivial
theorem rows_T2_1 : True := by
  k_with "cell_enter" => (refine' code_defE ?k1 ?k2 ?k3 ?k5 ?kA ?kF ?kK ?k6 ?k7 ?k8 ?k9 ?kB ?_ ?c2 ?c3 ?c4 ?c5; (case kA => exact rfl); (case kF => exact rfl); (case kK => assumption); (case k1 => k_asm); (case k2 => k_asm); (case k3 => k_asm); (case k5 => k_asm); (case k6 => k_is); (case k7 => k_is); (case k8 => ktr_room); (case k9 => exact BindsTo.of_eq rfl); (case c5 => decide); (case kB => exact locs rfl); (case c2 => exact rfl); (case c3 => exact rfl); (case c4 => exact rfl); intro L' h' F' N' B' X' T'; (try dsimp only); (try k_lift B'); (try k_fold))
  trivial
theorem max3_K {prog : Program} {w : World} {A : Around} {E : Value → Shared → Prop} {s : Shared} {h₀ : Heap} {L : Addr} {m : Str → Option Value} {news : List (Addr × Obj)} {a b c : Int} {t u x : Tok} {Q : Value → Shared → Prop}
   (F : Fr h₀ L s.heap m) (N : News h₀ L s.heap news) (hh : A.handled = none)
   (h : ∀ v tok h' tk, s.toks ≤ tk → v = max (max a b) c → Fr h₀ L h' m → News h₀ L h' news → Q (.int v tok) { s with heap := h', toks := tk }) :
    wpAny (model prog w) A (call (.builtin "max") [.int a t, .int b u, .int c x]) Q E s := by
  refine wpAny_with_toks (Nat.le_refl s.toks) (max_three_ints hh fun h' tk hk ht => ?_)
  have key := fun v tok hv => h v tok h' tk ht hv (F.grownK hk) (N.keepsAll hk)
  by_cases hba : b > a <;> by_cases hc1 : c > b <;> by_cases hc2 : c > a <;> simp only [hba, hc1, hc2, if_true, if_false] at key ⊢ <;> exact key _ _ (by omega)
theorem min3_K {prog : Program} {w : World} {A : Around} {E : Value → Shared → Prop} {s : Shared} {h₀ : Heap} {L : Addr} {m : Str → Option Value} {news : List (Addr × Obj)} {a b c : Int} {t u x : Tok} {Q : Value → Shared → Prop}
   (F : Fr h₀ L s.heap m) (N : News h₀ L s.heap news) (hh : A.handled = none)
   (h : ∀ v tok h' tk, s.toks ≤ tk → v = min (min a b) c → Fr h₀ L h' m → News h₀ L h' news → Q (.int v tok) { s with heap := h', toks := tk }) :
    wpAny (model prog w) A (call (.builtin "min") [.int a t, .int b u, .int c x]) Q E s := by
  refine wpAny_with_toks (Nat.le_refl s.toks) (min_three_ints hh fun h' tk hk ht => ?_)
  have key := fun v tok hv => h v tok h' tk ht hv (F.grownK hk) (N.keepsAll hk)
  by_cases hba : b < a <;> by_cases hc1 : c < b <;> by_cases hc2 : c < a <;> simp only [hba, hc1, hc2, if_true, if_false] at key ⊢ <;> exact key _ _ (by omega)
def Mx (r g b M : Int) : Prop := max (max r g) b = M
def Mn (r g b N : Int) : Prop := min (min r g) b = N
theorem max3_M {prog : Program} {w : World} {A : Around} {E : Value → Shared → Prop} {s : Shared} {h₀ : Heap} {L : Addr} {m : Str → Option Value} {news : List (Addr × Obj)} {a b c M : Int} {t u x : Tok} {Q : Value → Shared → Prop}
   (F : Fr h₀ L s.heap m) (N : News h₀ L s.heap news) (hh : A.handled = none) (hM : Mx a b c M)
   (h : ∀ tok h' tk, s.toks ≤ tk → Fr h₀ L h' m → News h₀ L h' news → Q (.int M tok) { s with heap := h', toks := tk }) :
    wpAny (model prog w) A (call (.builtin "max") [.int a t, .int b u, .int c x]) Q E s :=
  max3_K F N hh fun v tok h' tk k e F N => by cases hM; cases e; exact h tok h' tk k F N
theorem min3_M {prog : Program} {w : World} {A : Around} {E : Value → Shared → Prop} {s : Shared} {h₀ : Heap} {L : Addr} {m : Str → Option Value} {news : List (Addr × Obj)} {a b c M : Int} {t u x : Tok} {Q : Value → Shared → Prop}
   (F : Fr h₀ L s.heap m) (N : News h₀ L s.heap news) (hh : A.handled = none) (hM : Mn a b c M)
   (h : ∀ tok h' tk, s.toks ≤ tk → Fr h₀ L h' m → News h₀ L h' news → Q (.int M tok) { s with heap := h', toks := tk }) :
    wpAny (model prog w) A (call (.builtin "min") [.int a t, .int b u, .int c x]) Q E s :=
  min3_K F N hh fun v tok h' tk k e F N => by cases hM; cases e; exact h tok h' tk k F N
theorem mx_eq {r g b M : Int} (h : Mx r g b M) : mx r g b = M := h
theorem mn_eq {r g b N : Int} (h : Mn r g b N) : mn r g b = N := h
section
variable {r g b M N : Int} (hM : Mx r g b M) (hN : Mn r g b N)
include hM hN
theorem rgbS_eq (n : N = M) : rgbS r g b = 0 := by unfold rgbS; rw [mx_eq hM, mn_eq hN, if_pos n]
theorem rgbH_eq (n : N = M) : rgbH r g b = 0 := by unfold rgbH; rw [mx_eq hM, mn_eq hN, if_pos n]
theorem rgbS_ne (n : N ≠ M) : rgbS r g b = fr (M - N) M := by unfold rgbS; rw [mx_eq hM, mn_eq hN, if_neg n]
theorem rgbH_r (n : N ≠ M) (q : r = M) : rgbH r g b = (Float64.divmod (Float64.div (Float64.sub (fr (M - b) (M - N)) (fr (M - g) (M - N))) 4618441417868443648) 4607182418800017408).snd := by
  unfold rgbH rgbHraw; rw [mx_eq hM, mn_eq hN, if_neg n, if_pos q]
theorem rgbH_g (n : N ≠ M) (q : r ≠ M) (q' : g = M) : rgbH r g b = (Float64.divmod (Float64.div (Float64.sub (Float64.add 4611686018427387904 (fr (M - r) (M - N))) (fr (M - b) (M - N))) 4618441417868443648) 4607182418800017408).snd := by
  unfold rgbH rgbHraw; rw [mx_eq hM, mn_eq hN, if_neg n, if_neg q, if_pos q']
theorem rgbH_b (n : N ≠ M) (q : r ≠ M) (q' : g ≠ M) : rgbH r g b = (Float64.divmod (Float64.div (Float64.sub (Float64.add 4616189618054758400 (fr (M - g) (M - N))) (fr (M - r) (M - N))) 4618441417868443648) 4607182418800017408).snd := by
  unfold rgbH rgbHraw; rw [mx_eq hM, mn_eq hN, if_neg n, if_neg q, if_neg q']
end
theorem Mx_le {r g b M : Int} (h1 : 0 ≤ r) (h2 : 0 ≤ g) (h3 : 0 ≤ b) (h : Mx r g b M) : r ≤ M ∧ g ≤ M ∧ b ≤ M ∧ M ≤ r + g + b := by
  unfold Mx at h; subst h
  exact ⟨Int.le_trans (Int.le_max_left _ _) (Int.le_max_left _ _), Int.le_trans (Int.le_max_right _ _) (Int.le_max_left _ _), Int.le_max_right _ _, Int.max_le.mpr ⟨Int.max_le.mpr ⟨by omega, by omega⟩, by omega⟩⟩
theorem Mn_le {r g b N : Int} (h1 : 0 ≤ r) (h2 : 0 ≤ g) (h3 : 0 ≤ b) (h : Mn r g b N) : 0 ≤ N ∧ N ≤ r := by
  unfold Mn at h; subst h
  exact ⟨Int.le_min.mpr ⟨Int.le_min.mpr ⟨h1, h2⟩, h3⟩, Int.le_trans (Int.min_le_left _ _) (Int.min_le_left _ _)⟩
theorem fitsF {a : Int} (h : 0 ≤ a) (h' : a ≤ 10) : a.natAbs < 2 ^ 1023 := Nat.lt_of_le_of_lt (show a.natAbs ≤ 10 by omega) (by decide)
theorem rows_T2_2 : True := by
  k_with "call builtin:max" => (k_here; k_dflt (refine' max3_M ?k1 ?k2 ?k3 ?k4 ?_; (case k1 => k_asm); (case k2 => k_asm); (case k3 => exact rfl); (case k4 => assumption)); intro t9 h9 tk9 kt9 F9 N9; (replace kt9 := Nat.le_trans (Nat.le_add_right _ _) kt9); (try dsimp only))
  k_with "call builtin:min" => (k_here; k_dflt (refine' min3_M ?k1 ?k2 ?k3 ?k4 ?_; (case k1 => k_asm); (case k2 => k_asm); (case k3 => exact rfl); (case k4 => assumption)); intro t9 h9 tk9 kt9 F9 N9; (replace kt9 := Nat.le_trans (Nat.le_add_right _ _) kt9); (try dsimp only))
  k_with "binaryOp Div int int" => (k_here; (refine div_ii_fits rfl (by assumption) (fun h => absurd h (by assumption)) (fun _ _ => ?_)); (try dsimp only))
  k_with "compareOp Eq int int" => (k_here; first | (refine' cmp_yes ?e ?_; (case e => assumption)) | (refine' cmp_no ?e ?_; (case e => assumption)) | refine stopHere ?_)
  k_with "execs cons" => (k_here; (with_reducible refine wpAny_execs_cons ?_); (try dsimp only))
  k_with "execs nil" => (k_here; (with_reducible refine wpAny_execs_nil ?_); (try dsimp only))
  trivial
theorem c_rgb (w : World) (mean : ExcName → Option Value) (mg mb : Str → Option Value) (r g b : Int) (t1 t2 t3 : Tok) (h1 : 0 ≤ r) (h2 : 0 ≤ g) (h3 : 0 ≤ b) (h4 : 0 < r + g + b) (h5 : r + g + b ≤ 10) :
   ClaimK w mean mg mb 45 2 [.int r t1, .int g t2, .int b t3] (fun _ => True) (fun k0 k1 tl v => ∃ a H S V u1 u2 u3 n, tl = [(a, tupOf #[.float H u1, .float S u2, .int V u3] n)] ∧ v = .ref a ∧ H = rgbH r g b ∧ S = rgbS r g b ∧ V = mx r g b ∧ (k0 ≤ u1 ∧ u1 < k1) ∧ k0 ≤ u2 ∧ u2 < k1) := by
  obtain ⟨M, hM⟩ : ∃ M, Mx r g b M := ⟨_, rfl⟩
  obtain ⟨N, hN⟩ : ∃ N, Mn r g b N := ⟨_, rfl⟩
  obtain ⟨a1, a2, a3, a4⟩ := Mx_le h1 h2 h3 hM
  obtain ⟨b1, b2⟩ := Mn_le h1 h2 h3 hN
  have z1 : M ≠ 0 := by clear hM hN b1 b2 h5; omega
  have f1 : (M - N).natAbs < 2 ^ 1023 := fitsF (by omega) (by omega)
  have f2 : (M - r).natAbs < 2 ^ 1023 := fitsF (by omega) (by omega)
  have f3 : (M - g).natAbs < 2 ^ 1023 := fitsF (by omega) (by omega)
  have f4 : (M - b).natAbs < 2 ^ 1023 := fitsF (by omega) (by omega)
  clear a1 a2 a3 a4 b1 b2
  clear h1 h2 h3 h4 h5
  unfold ClaimK
  k_fill
  intro dp un gd cn cs a ccd cl outer A₀ base h₀ L m s Q E B F X T hk hpre hd1 hu hret
  clear hpre
  refine wpAny_call ?_
  k_dflt cell_enter
  have finish : ∀ {D h' tk G n u1 u2 u3 H S L' m'}, Fr s.heap L' h' m' → News s.heap L' h' [(D, tupOf #[.float H u1, .float S u2, .int M u3] n)] → G = s.gens → H = rgbH r g b → S = rgbS r g b → @LE.le Nat instLENat s.toks u1 → @LT.lt Nat instLTNat u1 tk → @LE.le Nat instLENat s.toks u2 → @LT.lt Nat instLTNat u2 tk → Q (.ref D) { heap := h', gens := G, drawn := s.drawn, toks := tk, os := s.os } := by
    intro D h' tk G n u1 u2 u3 H S L' m' F' N' eG eH eS k1 k2 k3 k4
    cases eG
    exact hret _ _ _ _ F'.keep (made_of N' (fun p hp => hp)) ⟨_, _, _, _, _, _, _, _, rfl, rfl, eH, eS, hM.symm, ⟨k1, k2⟩, k3, k4⟩
  k_steps
  unfold Stop
  try dsimp only
  by_cases n : N = M
  · refine cmp_yes n ?_
    k_steps
    refine finish (by assumption) (by assumption) rfl (rgbH_eq hM hN n).symm (rgbS_eq hM hN n).symm ?_ ?_ ?_ ?_ <;> (clear f1 f2 f3 f4; omega)
  have z2 : M - N ≠ 0 := fun e => n (by omega)
  refine cmp_no n ?_
  k_steps
  unfold Stop
  try dsimp only
  by_cases q : r = M
  · refine cmp_yes q ?_
    k_steps
    refine finish (by assumption) (by assumption) rfl (rgbH_r hM hN n q).symm (rgbS_ne hM hN n).symm ?_ ?_ ?_ ?_ <;> (clear f1 f2 f3 f4; omega)
  refine cmp_no q ?_
  k_steps
  unfold Stop
  try dsimp only
  by_cases q' : g = M
  · refine cmp_yes q' ?_
    k_steps
    refine finish (by assumption) (by assumption) rfl (rgbH_g hM hN n q q').symm (rgbS_ne hM hN n).symm ?_ ?_ ?_ ?_ <;> (clear f1 f2 f3 f4; omega)
  refine cmp_no q' ?_
  k_steps
  refine finish (by assumption) (by assumption) rfl (rgbH_b hM hN n q q').symm (rgbS_ne hM hN n).symm ?_ ?_ ?_ ?_ <;> (clear f1 f2 f3 f4; omega)
end Mine

end
-- L11
section
open PySem PySem.W PyProof.Rows PySem.Calls
set_option maxRecDepth 100000
set_option maxHeartbeats 8000000
namespace Mine
theorem fresh_L11 : True := by
  w_top off
  k_with_none
  k_with "omega" => lia
  trivial
theorem rows_L11_1 : True := by
  k_with "call ref" => (k_here; (with_reducible show wpAny _ _ (call (Value.ref 76) [Value.ref _]) _ _ _); k_dflt (refine' claim_use (c_neck _ _ _ _ _ _ _ ?hi ?hn) ?k1 ?k2 ?k3 ?k4 ?k5 ?kK ?kp ?kd ?ku ?_; (case hi => assumption); (case hn => assumption); (case k1 => k_asm); (case k2 => k_asm); (case k3 => k_asm); (case k4 => k_asm); (case k5 => k_asm); (case kK => first | exact rfl | assumption); (case kp => is_list); (case kd => ktr_room); (case ku => ktr_units); intro r9 tl9 h9 tk9 g9 F9 N9 K9 l9 G9 R9; obtain ⟨a9, ws9, bs9, n9, e9, e9', i9, b9⟩ := R9; subst e9; subst e9'; clear l9 K9; simp only [List.cons_append, List.nil_append] at N9; (try dsimp only)))
  k_with "CompEnd" => (k_dflt (refine' LCg.CompEnd.intro ?F ?N _ ?sub ?off ?src (And.intro rfl ?J); (case F => k_asm); (case N => k_asm); (case sub => lcg_sub); (case off => assumption); (case src => lcg_src); (case J => first | exact rows_snoc _ (by assumption) (by assumption) (by first | exact row_red _ | exact row_green _ | exact row_blue _) | exact sent_snoc _ (by assumption) (by assumption) (by first | exact sent_red _ | exact sent_green _ | exact sent_blue _) | exact count_snoc (by assumption) rfl)))
  k_with "subscriptTail Name Name ref int" => (k_here; (with_reducible show wpAny _ _ (subscriptTail _ _ (Value.ref _) (Value.int _ _)) _ _ _); k_dflt (refine' item_bead ?l ?i ?B ?n ?_ ?s ?g; (case l => is_list); (case i => assumption); (case B => assumption); (case n => assumption); (case s => with_unfolding_all rfl); (case g => (intro _; with_unfolding_all rfl)); intro b8 t8 e8 c8; (rcases c8 with c8 | c8 | c8 <;> subst c8)))
  k_with "subscriptTail List Subscript ref int" => (k_here; (with_reducible show wpAny _ _ (subscriptTail _ _ (Value.ref _) (Value.int _ _)) _ _ _); k_dflt (refine' item_new ?k1 ?k2 ?k3 ?k4 ?k5 ?_ ?k6 ?k7; (case k1 => k_asm); (case k2 => k_mem); (case k3 => decide); (case k4 => decide); (case k5 => exact rfl); (case k6 => with_unfolding_all rfl); (case k7 => (intro _; with_unfolding_all rfl))))
  k_with "subscriptTail List Name ref int" => (k_here; (with_reducible show wpAny _ _ (subscriptTail _ _ (Value.ref _) (Value.int _ _)) _ _ _); k_dflt (refine' item_new ?k1 ?k2 ?k3 ?k4 ?k5 ?_ ?k6 ?k7; (case k1 => k_asm); (case k2 => k_mem); (case k3 => decide); (case k4 => decide); (case k5 => exact rfl); (case k6 => with_unfolding_all rfl); (case k7 => (intro _; with_unfolding_all rfl))))
  k_with "call builtin:str.join" => (k_here; (with_reducible show wpAny _ _ (call (Value.builtin "str.join") [Value.str _ _, Value.ref _]) _ _ _); k_dflt (refine' join_rows ?e ?l ?i ?n ?_; (case e => with_unfolding_all rfl); (case l => is_list); (case i => assumption); (case n => first | exact Nat.le_trans (rows_flat (by assumption)) (by decide) | exact Nat.le_trans (sent_flat (by assumption)) (by decide)); intro t6 k6; (try dsimp only)))
  k_with "storeName" => (k_here; k_dflt (refine' store_cell ?c ?m ?d ?U ?F ?N ?_ ?a ?b; (case a => rfl); (case b => rfl); (case c => rfl); (case F => k_asm); (case N => k_asm); (case m => k_mem); (case d => k_asm); (case U => (first | (refine UpdN.head ?_; (repeat (first | exact List.forall_mem_nil _ | (refine List.forall_mem_cons.mpr ⟨Or.inr (by (try dsimp only); omega), ?_⟩)))) | (refine' UpdN.tail ?q ?b3; (case q => first | (exact Or.inl (by intro v e; cases e)) | (exact Or.inr (by (try dsimp only); omega))); (case b3 => (first | (refine UpdN.head ?_; (repeat (first | exact List.forall_mem_nil _ | (refine List.forall_mem_cons.mpr ⟨Or.inr (by (try dsimp only); omega), ?_⟩)))) | (refine' UpdN.tail ?q ?b3; (case q => first | (exact Or.inl (by intro v e; cases e)) | (exact Or.inr (by (try dsimp only); omega))); (case b3 => (first | (refine UpdN.head ?_; (repeat (first | exact List.forall_mem_nil _ | (refine List.forall_mem_cons.mpr ⟨Or.inr (by (try dsimp only); omega), ?_⟩)))) | (refine' UpdN.tail ?q ?b3; (case q => first | (exact Or.inl (by intro v e; cases e)) | (exact Or.inr (by (try dsimp only); omega))); (case b3 => (first | (refine UpdN.head ?_; (repeat (first | exact List.forall_mem_nil _ | (refine List.forall_mem_cons.mpr ⟨Or.inr (by (try dsimp only); omega), ?_⟩)))) | (refine' UpdN.tail ?q ?b3; (case q => first | (exact Or.inl (by intro v e; cases e)) | (exact Or.inr (by (try dsimp only); omega))); (case b3 => (first | (refine UpdN.head ?_; (repeat (first | exact List.forall_mem_nil _ | (refine List.forall_mem_cons.mpr ⟨Or.inr (by (try dsimp only); omega), ?_⟩)))) | (refine' UpdN.tail ?q ?b3; (case q => first | (exact Or.inl (by intro v e; cases e)) | (exact Or.inr (by (try dsimp only); omega))); (case b3 => (first | (refine UpdN.head ?_; (repeat (first | exact List.forall_mem_nil _ | (refine List.forall_mem_cons.mpr ⟨Or.inr (by (try dsimp only); omega), ?_⟩)))) | (refine' UpdN.tail ?q ?b3; (case q => first | (exact Or.inl (by intro v e; cases e)) | (exact Or.inr (by (try dsimp only); omega))); (case b3 => (first | (refine UpdN.head ?_; (repeat (first | exact List.forall_mem_nil _ | (refine List.forall_mem_cons.mpr ⟨Or.inr (by (try dsimp only); omega), ?_⟩)))) | (refine' UpdN.tail ?q ?b3; (case q => first | (exact Or.inl (by intro v e; cases e)) | (exact Or.inr (by (try dsimp only); omega))); (case b3 => (first | (refine UpdN.head ?_; (repeat (first | exact List.forall_mem_nil _ | (refine List.forall_mem_cons.mpr ⟨Or.inr (by (try dsimp only); omega), ?_⟩)))) | (refine' UpdN.tail ?q ?b3; (case q => first | (exact Or.inl (by intro v e; cases e)) | (exact Or.inr (by (try dsimp only); omega))); (case b3 => (first | (refine UpdN.head ?_; (repeat (first | exact List.forall_mem_nil _ | (refine List.forall_mem_cons.mpr ⟨Or.inr (by (try dsimp only); omega), ?_⟩)))) | (refine' UpdN.tail ?q ?b3; (case q => first | (exact Or.inl (by intro v e; cases e)) | (exact Or.inr (by (try dsimp only); omega))); (case b3 => (first | (refine UpdN.head ?_; (repeat (first | exact List.forall_mem_nil _ | (refine List.forall_mem_cons.mpr ⟨Or.inr (by (try dsimp only); omega), ?_⟩)))) | (refine' UpdN.tail ?q ?b3; (case q => first | (exact Or.inl (by intro v e; cases e)) | (exact Or.inr (by (try dsimp only); omega))); (case b3 => (first | (refine UpdN.head ?_; (repeat (first | exact List.forall_mem_nil _ | (refine List.forall_mem_cons.mpr ⟨Or.inr (by (try dsimp only); omega), ?_⟩)))) | (refine' UpdN.tail ?q ?b3; (case q => first | (exact Or.inl (by intro v e; cases e)) | (exact Or.inr (by (try dsimp only); omega))); (case b3 => (first | (refine UpdN.head ?_; (repeat (first | exact List.forall_mem_nil _ | (refine List.forall_mem_cons.mpr ⟨Or.inr (by (try dsimp only); omega), ?_⟩)))) | (refine' UpdN.tail ?q ?b3; (case q => first | (exact Or.inl (by intro v e; cases e)) | (exact Or.inr (by (try dsimp only); omega))); (case b3 => (first | (refine UpdN.head ?_; (repeat (first | exact List.forall_mem_nil _ | (refine List.forall_mem_cons.mpr ⟨Or.inr (by (try dsimp only); omega), ?_⟩)))) | (refine' UpdN.tail ?q ?b3; (case q => first | (exact Or.inl (by intro v e; cases e)) | (exact Or.inr (by (try dsimp only); omega))); (case b3 => (first | (refine UpdN.head ?_; (repeat (first | exact List.forall_mem_nil _ | (refine List.forall_mem_cons.mpr ⟨Or.inr (by (try dsimp only); omega), ?_⟩)))) | (refine' UpdN.tail ?q ?b3; (case q => first | (exact Or.inl (by intro v e; cases e)) | (exact Or.inr (by (try dsimp only); omega))); (case b3 => (first | (refine UpdN.head ?_; (repeat (first | exact List.forall_mem_nil _ | (refine List.forall_mem_cons.mpr ⟨Or.inr (by (try dsimp only); omega), ?_⟩)))) | (refine' UpdN.tail ?q ?b3; (case q => first | (exact Or.inl (by intro v e; cases e)) | (exact Or.inr (by (try dsimp only); omega))); (case b3 => (first | (refine UpdN.head ?_; (repeat (first | exact List.forall_mem_nil _ | (refine List.forall_mem_cons.mpr ⟨Or.inr (by (try dsimp only); omega), ?_⟩)))) | (refine' UpdN.tail ?q ?b3; (case q => first | (exact Or.inl (by intro v e; cases e)) | (exact Or.inr (by (try dsimp only); omega))); (case b3 => (refine UpdN.head ?_; (repeat (first | exact List.forall_mem_nil _ | (refine List.forall_mem_cons.mpr ⟨Or.inr (by (try dsimp only); omega), ?_⟩))))))))))))))))))))))))))))))))))))))))))))))))))))); k_whole; intro h' o' F' N' d'; (try dsimp only at N'); (try k_sweep)))
  k_with "eval ListComp" => (k_here; refine stopHere ?_)
  k_with "exec Assign cons ListComp" => (k_here; (with_reducible show wpAny _ _ (exec (Stmt.Assign [Expr.Name (Str.ofString "rows") _] _ _) _) _ _ _); refine stopHere ?_)
  k_with "exec Assign cons ListComp" => (k_here; (with_reducible show wpAny _ _ (exec (Stmt.Assign [Expr.Name (Str.ofString "twice") _] _ _) _) _ _ _); refine stopHere ?_)
  k_with "CompSrc" => (k_here; refine stopHere ?_)
  k_with "call ref" => (k_here; (with_reducible show wpAny _ _ (call (Value.ref 45) [Value.int _ _, Value.int _ _, Value.int _ _]) _ _ _); refine stopHere ?_)
  k_with "subscriptTail Name Constant ref int" => (k_here; (with_reducible show wpAny _ _ (subscriptTail _ _ (Value.ref _) (Value.int _ _)) _ _ _); k_dflt (refine' item_new ?k1 ?k2 ?k3 ?k4 ?k5 ?_ ?k6 ?k7; (case k1 => k_asm); (case k2 => k_mem); (case k3 => decide); (case k4 => decide); (case k5 => exact rfl); (case k6 => with_unfolding_all rfl); (case k7 => (intro _; with_unfolding_all rfl))))
  trivial
theorem law_whites (w : World) (mean : ExcName → Option Value) (mg mb : Str → Option Value) (h₀ base : Heap) (Z : Here w mean mg mb h₀ base) (fa : Addr) (cd : Value) (L aw : Addr) (c0 c1 c2 : Int) (p0 : 0 ≤ c0) (p1 : 0 ≤ c1) (p2 : 0 ≤ c2) (p3 : c0 + c1 + c2 = 10) (t1 t2 t3 : Tok) (nw : Nat) (s : Shared) (u : Str → Option Value) (keep : List (Addr × Obj)) (o2 : Obj)
   (d2 : o2.data = .cell (some (.ref aw))) (F : Fr h₀ L s.heap u) (N : News h₀ L s.heap ((aw, listOf (List.toArray [.int c0 t1, .int c1 t2, .int c2 t3]) nw) :: (L + 1 + 1, o2) :: keep)) (Q : Flow → Shared → Prop) (E : Value → Shared → Prop)
   (next : ∀ ac H S V u1 u2 u3 n h' tk, s.toks ≤ tk → (s.toks < u1 ∧ u1 < tk) → (s.toks < u2 ∧ u2 < tk) → H = rgbH c0 c1 c2 → S = rgbS c0 c1 c2 → Fr h₀ L h' (fun z => if z = Str.ofString "colour" then some (.ref ac) else u z) → News h₀ L h' ((ac, tupOf #[.float H u1, .float S u2, .int V u3] n) :: (aw, listOf (List.toArray [.int c0 t1, .int c1 t2, .int c2 t3]) nw) :: (L + 1 + 1, o2) :: keep) → LawGo 9 w L fa cd Q E { s with heap := h', toks := tk }) :
   LawGo 8 w L fa cd Q E s := by
  obtain ⟨B, X, T, XB, TB⟩ := Z
  refine law_row (by unfold lawRec recOf; rfl) ?_
  unfold lawEnv lawRec recOf
  dsimp only
  revert X
  k_fill
  intro X
  k_steps
  unfold Stop
  refine claimK_use (c_rgb w mean mg mb c0 c1 c2 t1 t2 t3 p0 p1 p2 (by omega) (by omega)) (by k_asm) (by k_asm) (by k_asm) (by k_asm) (by k_asm) rfl trivial (by ktr_room) (by ktr_units) ?_
  rintro r9 tl9 h9 tk9 F9 N9 K9 l9 ⟨a9, H9, S9, V9, u1, u2, u3, n9, rfl, rfl, eH, eS, eV, ⟨y1, y2⟩, y3, y4⟩
  try dsimp only at y1 y2 y3 y4
  rw [List.cons_append, List.nil_append] at N9
  k_steps
  have y5 : u1 < tk9 + 1 := Nat.lt_succ_of_lt y2
  have y6 : u2 < tk9 + 1 := Nat.lt_succ_of_lt y4
  exact fun hk => next a9 H9 S9 V9 u1 u2 u3 n9 _ (tk9 + 1) hk ⟨by omega, y5⟩ ⟨by omega, y6⟩ eH eS (by assumption) (by assumption)
end Mine

end
-- L12
section
open PySem PySem.W PyProof.Rows PySem.Calls
set_option maxRecDepth 100000
set_option maxHeartbeats 8000000
namespace Mine
theorem fresh_L12 : True := by
  w_top off
  k_with_none
  k_with "omega" => lia
  trivial
theorem rows_L12_1 : True := by
  k_with "call ref" => (k_here; (with_reducible show wpAny _ _ (call (Value.ref 76) [Value.ref _]) _ _ _); k_dflt (refine' claim_use (c_neck _ _ _ _ _ _ _ ?hi ?hn) ?k1 ?k2 ?k3 ?k4 ?k5 ?kK ?kp ?kd ?ku ?_; (case hi => assumption); (case hn => assumption); (case k1 => k_asm); (case k2 => k_asm); (case k3 => k_asm); (case k4 => k_asm); (case k5 => k_asm); (case kK => first | exact rfl | assumption); (case kp => is_list); (case kd => ktr_room); (case ku => ktr_units); intro r9 tl9 h9 tk9 g9 F9 N9 K9 l9 G9 R9; obtain ⟨a9, ws9, bs9, n9, e9, e9', i9, b9⟩ := R9; subst e9; subst e9'; clear l9 K9; simp only [List.cons_append, List.nil_append] at N9; (try dsimp only)))
  k_with "CompEnd" => (k_dflt (refine' LCg.CompEnd.intro ?F ?N _ ?sub ?off ?src (And.intro rfl ?J); (case F => k_asm); (case N => k_asm); (case sub => lcg_sub); (case off => assumption); (case src => lcg_src); (case J => first | exact rows_snoc _ (by assumption) (by assumption) (by first | exact row_red _ | exact row_green _ | exact row_blue _) | exact sent_snoc _ (by assumption) (by assumption) (by first | exact sent_red _ | exact sent_green _ | exact sent_blue _) | exact count_snoc (by assumption) rfl)))
  k_with "subscriptTail Name Name ref int" => (k_here; (with_reducible show wpAny _ _ (subscriptTail _ _ (Value.ref _) (Value.int _ _)) _ _ _); k_dflt (refine' item_bead ?l ?i ?B ?n ?_ ?s ?g; (case l => is_list); (case i => assumption); (case B => assumption); (case n => assumption); (case s => with_unfolding_all rfl); (case g => (intro _; with_unfolding_all rfl)); intro b8 t8 e8 c8; (rcases c8 with c8 | c8 | c8 <;> subst c8)))
  k_with "subscriptTail List Subscript ref int" => (k_here; (with_reducible show wpAny _ _ (subscriptTail _ _ (Value.ref _) (Value.int _ _)) _ _ _); k_dflt (refine' item_new ?k1 ?k2 ?k3 ?k4 ?k5 ?_ ?k6 ?k7; (case k1 => k_asm); (case k2 => k_mem); (case k3 => decide); (case k4 => decide); (case k5 => exact rfl); (case k6 => with_unfolding_all rfl); (case k7 => (intro _; with_unfolding_all rfl))))
  k_with "subscriptTail List Name ref int" => (k_here; (with_reducible show wpAny _ _ (subscriptTail _ _ (Value.ref _) (Value.int _ _)) _ _ _); k_dflt (refine' item_new ?k1 ?k2 ?k3 ?k4 ?k5 ?_ ?k6 ?k7; (case k1 => k_asm); (case k2 => k_mem); (case k3 => decide); (case k4 => decide); (case k5 => exact rfl); (case k6 => with_unfolding_all rfl); (case k7 => (intro _; with_unfolding_all rfl))))
  k_with "call builtin:str.join" => (k_here; (with_reducible show wpAny _ _ (call (Value.builtin "str.join") [Value.str _ _, Value.ref _]) _ _ _); k_dflt (refine' join_rows ?e ?l ?i ?n ?_; (case e => with_unfolding_all rfl); (case l => is_list); (case i => assumption); (case n => first | exact Nat.le_trans (rows_flat (by assumption)) (by decide) | exact Nat.le_trans (sent_flat (by assumption)) (by decide)); intro t6 k6; (try dsimp only)))
  k_with "storeName" => (k_here; k_dflt (refine' store_cell ?c ?m ?d ?U ?F ?N ?_ ?a ?b; (case a => rfl); (case b => rfl); (case c => rfl); (case F => k_asm); (case N => k_asm); (case m => k_mem); (case d => k_asm); (case U => (first | (refine UpdN.head ?_; (repeat (first | exact List.forall_mem_nil _ | (refine List.forall_mem_cons.mpr ⟨Or.inr (by (try dsimp only); omega), ?_⟩)))) | (refine' UpdN.tail ?q ?b3; (case q => first | (exact Or.inl (by intro v e; cases e)) | (exact Or.inr (by (try dsimp only); omega))); (case b3 => (first | (refine UpdN.head ?_; (repeat (first | exact List.forall_mem_nil _ | (refine List.forall_mem_cons.mpr ⟨Or.inr (by (try dsimp only); omega), ?_⟩)))) | (refine' UpdN.tail ?q ?b3; (case q => first | (exact Or.inl (by intro v e; cases e)) | (exact Or.inr (by (try dsimp only); omega))); (case b3 => (first | (refine UpdN.head ?_; (repeat (first | exact List.forall_mem_nil _ | (refine List.forall_mem_cons.mpr ⟨Or.inr (by (try dsimp only); omega), ?_⟩)))) | (refine' UpdN.tail ?q ?b3; (case q => first | (exact Or.inl (by intro v e; cases e)) | (exact Or.inr (by (try dsimp only); omega))); (case b3 => (first | (refine UpdN.head ?_; (repeat (first | exact List.forall_mem_nil _ | (refine List.forall_mem_cons.mpr ⟨Or.inr (by (try dsimp only); omega), ?_⟩)))) | (refine' UpdN.tail ?q ?b3; (case q => first | (exact Or.inl (by intro v e; cases e)) | (exact Or.inr (by (try dsimp only); omega))); (case b3 => (first | (refine UpdN.head ?_; (repeat (first | exact List.forall_mem_nil _ | (refine List.forall_mem_cons.mpr ⟨Or.inr (by (try dsimp only); omega), ?_⟩)))) | (refine' UpdN.tail ?q ?b3; (case q => first | (exact Or.inl (by intro v e; cases e)) | (exact Or.inr (by (try dsimp only); omega))); (case b3 => (first | (refine UpdN.head ?_; (repeat (first | exact List.forall_mem_nil _ | (refine List.forall_mem_cons.mpr ⟨Or.inr (by (try dsimp only); omega), ?_⟩)))) | (refine' UpdN.tail ?q ?b3; (case q => first | (exact Or.inl (by intro v e; cases e)) | (exact Or.inr (by (try dsimp only); omega))); (case b3 => (first | (refine UpdN.head ?_; (repeat (first | exact List.forall_mem_nil _ | (refine List.forall_mem_cons.mpr ⟨Or.inr (by (try dsimp only); omega), ?_⟩)))) | (refine' UpdN.tail ?q ?b3; (case q => first | (exact Or.inl (by intro v e; cases e)) | (exact Or.inr (by (try dsimp only); omega))); (case b3 => (first | (refine UpdN.head ?_; (repeat (first | exact List.forall_mem_nil _ | (refine List.forall_mem_cons.mpr ⟨Or.inr (by (try dsimp only); omega), ?_⟩)))) | (refine' UpdN.tail ?q ?b3; (case q => first | (exact Or.inl (by intro v e; cases e)) | (exact Or.inr (by (try dsimp only); omega))); (case b3 => (first | (refine UpdN.head ?_; (repeat (first | exact List.forall_mem_nil _ | (refine List.forall_mem_cons.mpr ⟨Or.inr (by (try dsimp only); omega), ?_⟩)))) | (refine' UpdN.tail ?q ?b3; (case q => first | (exact Or.inl (by intro v e; cases e)) | (exact Or.inr (by (try dsimp only); omega))); (case b3 => (first | (refine UpdN.head ?_; (repeat (first | exact List.forall_mem_nil _ | (refine List.forall_mem_cons.mpr ⟨Or.inr (by (try dsimp only); omega), ?_⟩)))) | (refine' UpdN.tail ?q ?b3; (case q => first | (exact Or.inl (by intro v e; cases e)) | (exact Or.inr (by (try dsimp only); omega))); (case b3 => (first | (refine UpdN.head ?_; (repeat (first | exact List.forall_mem_nil _ | (refine List.forall_mem_cons.mpr ⟨Or.inr (by (try dsimp only); omega), ?_⟩)))) | (refine' UpdN.tail ?q ?b3; (case q => first | (exact Or.inl (by intro v e; cases e)) | (exact Or.inr (by (try dsimp only); omega))); (case b3 => (first | (refine UpdN.head ?_; (repeat (first | exact List.forall_mem_nil _ | (refine List.forall_mem_cons.mpr ⟨Or.inr (by (try dsimp only); omega), ?_⟩)))) | (refine' UpdN.tail ?q ?b3; (case q => first | (exact Or.inl (by intro v e; cases e)) | (exact Or.inr (by (try dsimp only); omega))); (case b3 => (first | (refine UpdN.head ?_; (repeat (first | exact List.forall_mem_nil _ | (refine List.forall_mem_cons.mpr ⟨Or.inr (by (try dsimp only); omega), ?_⟩)))) | (refine' UpdN.tail ?q ?b3; (case q => first | (exact Or.inl (by intro v e; cases e)) | (exact Or.inr (by (try dsimp only); omega))); (case b3 => (first | (refine UpdN.head ?_; (repeat (first | exact List.forall_mem_nil _ | (refine List.forall_mem_cons.mpr ⟨Or.inr (by (try dsimp only); omega), ?_⟩)))) | (refine' UpdN.tail ?q ?b3; (case q => first | (exact Or.inl (by intro v e; cases e)) | (exact Or.inr (by (try dsimp only); omega))); (case b3 => (first | (refine UpdN.head ?_; (repeat (first | exact List.forall_mem_nil _ | (refine List.forall_mem_cons.mpr ⟨Or.inr (by (try dsimp only); omega), ?_⟩)))) | (refine' UpdN.tail ?q ?b3; (case q => first | (exact Or.inl (by intro v e; cases e)) | (exact Or.inr (by (try dsimp only); omega))); (case b3 => (first | (refine UpdN.head ?_; (repeat (first | exact List.forall_mem_nil _ | (refine List.forall_mem_cons.mpr ⟨Or.inr (by (try dsimp only); omega), ?_⟩)))) | (refine' UpdN.tail ?q ?b3; (case q => first | (exact Or.inl (by intro v e; cases e)) | (exact Or.inr (by (try dsimp only); omega))); (case b3 => (refine UpdN.head ?_; (repeat (first | exact List.forall_mem_nil _ | (refine List.forall_mem_cons.mpr ⟨Or.inr (by (try dsimp only); omega), ?_⟩))))))))))))))))))))))))))))))))))))))))))))))))))))); k_whole; intro h' o' F' N' d'; (try dsimp only at N'); (try k_sweep)))
  k_with "eval ListComp" => (k_here; refine stopHere ?_)
  k_with "exec Assign cons ListComp" => (k_here; (with_reducible show wpAny _ _ (exec (Stmt.Assign [Expr.Name (Str.ofString "rows") _] _ _) _) _ _ _); refine stopHere ?_)
  k_with "exec Assign cons ListComp" => (k_here; (with_reducible show wpAny _ _ (exec (Stmt.Assign [Expr.Name (Str.ofString "twice") _] _ _) _) _ _ _); refine stopHere ?_)
  k_with "CompSrc" => (k_here; refine stopHere ?_)
  trivial
theorem law_fair (w : World) (mean : ExcName → Option Value) (mg mb : Str → Option Value) (h₀ base : Heap) (Z : Here w mean mg mb h₀ base) (fa : Addr) (cd : Value) (L : Addr) (s : Shared) (u : Str → Option Value) (keep : List (Addr × Obj))
   (F : Fr h₀ L s.heap u) (N : News h₀ L s.heap keep) (Q : Flow → Shared → Prop) (E : Value → Shared → Prop)
   (next : ∀ h' tk, s.toks ≤ tk → Fr h₀ L h' (fun z => if z = Str.ofString "fair" then some (.bool false) else u z) → News h₀ L h' keep → LawGo 10 w L fa cd Q E { s with heap := h', toks := tk }) :
   LawGo 9 w L fa cd Q E s := by
  obtain ⟨B, X, T, XB, TB⟩ := Z
  refine law_row (by unfold lawRec recOf; rfl) ?_
  unfold lawEnv lawRec recOf
  dsimp only
  revert X
  k_fill
  intro X
  k_steps
  exact fun hk => next _ _ hk (by assumption) (by assumption)
end Mine

end
-- L13
section
open PySem PySem.W PyProof.Rows PySem.Calls
set_option maxRecDepth 100000
set_option maxHeartbeats 8000000
namespace Mine
theorem fresh_L13 : True := by
  w_top off
  k_with_none
  k_with "omega" => lia
  trivial
theorem rows_L13_1 : True := by
  k_with "call ref" => (k_here; (with_reducible show wpAny _ _ (call (Value.ref 76) [Value.ref _]) _ _ _); k_dflt (refine' claim_use (c_neck _ _ _ _ _ _ _ ?hi ?hn) ?k1 ?k2 ?k3 ?k4 ?k5 ?kK ?kp ?kd ?ku ?_; (case hi => assumption); (case hn => assumption); (case k1 => k_asm); (case k2 => k_asm); (case k3 => k_asm); (case k4 => k_asm); (case k5 => k_asm); (case kK => first | exact rfl | assumption); (case kp => is_list); (case kd => ktr_room); (case ku => ktr_units); intro r9 tl9 h9 tk9 g9 F9 N9 K9 l9 G9 R9; obtain ⟨a9, ws9, bs9, n9, e9, e9', i9, b9⟩ := R9; subst e9; subst e9'; clear l9 K9; simp only [List.cons_append, List.nil_append] at N9; (try dsimp only)))
  k_with "CompEnd" => (k_dflt (refine' LCg.CompEnd.intro ?F ?N _ ?sub ?off ?src (And.intro rfl ?J); (case F => k_asm); (case N => k_asm); (case sub => lcg_sub); (case off => assumption); (case src => lcg_src); (case J => first | exact rows_snoc _ (by assumption) (by assumption) (by first | exact row_red _ | exact row_green _ | exact row_blue _) | exact sent_snoc _ (by assumption) (by assumption) (by first | exact sent_red _ | exact sent_green _ | exact sent_blue _) | exact count_snoc (by assumption) rfl)))
  k_with "subscriptTail Name Name ref int" => (k_here; (with_reducible show wpAny _ _ (subscriptTail _ _ (Value.ref _) (Value.int _ _)) _ _ _); k_dflt (refine' item_bead ?l ?i ?B ?n ?_ ?s ?g; (case l => is_list); (case i => assumption); (case B => assumption); (case n => assumption); (case s => with_unfolding_all rfl); (case g => (intro _; with_unfolding_all rfl)); intro b8 t8 e8 c8; (rcases c8 with c8 | c8 | c8 <;> subst c8)))
  k_with "subscriptTail List Subscript ref int" => (k_here; (with_reducible show wpAny _ _ (subscriptTail _ _ (Value.ref _) (Value.int _ _)) _ _ _); k_dflt (refine' item_new ?k1 ?k2 ?k3 ?k4 ?k5 ?_ ?k6 ?k7; (case k1 => k_asm); (case k2 => k_mem); (case k3 => decide); (case k4 => decide); (case k5 => exact rfl); (case k6 => with_unfolding_all rfl); (case k7 => (intro _; with_unfolding_all rfl))))
  k_with "subscriptTail List Name ref int" => (k_here; (with_reducible show wpAny _ _ (subscriptTail _ _ (Value.ref _) (Value.int _ _)) _ _ _); k_dflt (refine' item_new ?k1 ?k2 ?k3 ?k4 ?k5 ?_ ?k6 ?k7; (case k1 => k_asm); (case k2 => k_mem); (case k3 => decide); (case k4 => decide); (case k5 => exact rfl); (case k6 => with_unfolding_all rfl); (case k7 => (intro _; with_unfolding_all rfl))))
  k_with "call builtin:str.join" => (k_here; (with_reducible show wpAny _ _ (call (Value.builtin "str.join") [Value.str _ _, Value.ref _]) _ _ _); k_dflt (refine' join_rows ?e ?l ?i ?n ?_; (case e => with_unfolding_all rfl); (case l => is_list); (case i => assumption); (case n => first | exact Nat.le_trans (rows_flat (by assumption)) (by decide) | exact Nat.le_trans (sent_flat (by assumption)) (by decide)); intro t6 k6; (try dsimp only)))
  k_with "storeName" => (k_here; k_dflt (refine' store_cell ?c ?m ?d ?U ?F ?N ?_ ?a ?b; (case a => rfl); (case b => rfl); (case c => rfl); (case F => k_asm); (case N => k_asm); (case m => k_mem); (case d => k_asm); (case U => (first | (refine UpdN.head ?_; (repeat (first | exact List.forall_mem_nil _ | (refine List.forall_mem_cons.mpr ⟨Or.inr (by (try dsimp only); omega), ?_⟩)))) | (refine' UpdN.tail ?q ?b3; (case q => first | (exact Or.inl (by intro v e; cases e)) | (exact Or.inr (by (try dsimp only); omega))); (case b3 => (first | (refine UpdN.head ?_; (repeat (first | exact List.forall_mem_nil _ | (refine List.forall_mem_cons.mpr ⟨Or.inr (by (try dsimp only); omega), ?_⟩)))) | (refine' UpdN.tail ?q ?b3; (case q => first | (exact Or.inl (by intro v e; cases e)) | (exact Or.inr (by (try dsimp only); omega))); (case b3 => (first | (refine UpdN.head ?_; (repeat (first | exact List.forall_mem_nil _ | (refine List.forall_mem_cons.mpr ⟨Or.inr (by (try dsimp only); omega), ?_⟩)))) | (refine' UpdN.tail ?q ?b3; (case q => first | (exact Or.inl (by intro v e; cases e)) | (exact Or.inr (by (try dsimp only); omega))); (case b3 => (first | (refine UpdN.head ?_; (repeat (first | exact List.forall_mem_nil _ | (refine List.forall_mem_cons.mpr ⟨Or.inr (by (try dsimp only); omega), ?_⟩)))) | (refine' UpdN.tail ?q ?b3; (case q => first | (exact Or.inl (by intro v e; cases e)) | (exact Or.inr (by (try dsimp only); omega))); (case b3 => (first | (refine UpdN.head ?_; (repeat (first | exact List.forall_mem_nil _ | (refine List.forall_mem_cons.mpr ⟨Or.inr (by (try dsimp only); omega), ?_⟩)))) | (refine' UpdN.tail ?q ?b3; (case q => first | (exact Or.inl (by intro v e; cases e)) | (exact Or.inr (by (try dsimp only); omega))); (case b3 => (first | (refine UpdN.head ?_; (repeat (first | exact List.forall_mem_nil _ | (refine List.forall_mem_cons.mpr ⟨Or.inr (by (try dsimp only); omega), ?_⟩)))) | (refine' UpdN.tail ?q ?b3; (case q => first | (exact Or.inl (by intro v e; cases e)) | (exact Or.inr (by (try dsimp only); omega))); (case b3 => (first | (refine UpdN.head ?_; (repeat (first | exact List.forall_mem_nil _ | (refine List.forall_mem_cons.mpr ⟨Or.inr (by (try dsimp only); omega), ?_⟩)))) | (refine' UpdN.tail ?q ?b3; (case q => first | (exact Or.inl (by intro v e; cases e)) | (exact Or.inr (by (try dsimp only); omega))); (case b3 => (first | (refine UpdN.head ?_; (repeat (first | exact List.forall_mem_nil _ | (refine List.forall_mem_cons.mpr ⟨Or.inr (by (try dsimp only); omega), ?_⟩)))) | (refine' UpdN.tail ?q ?b3; (case q => first | (exact Or.inl (by intro v e; cases e)) | (exact Or.inr (by (try dsimp only); omega))); (case b3 => (first | (refine UpdN.head ?_; (repeat (first | exact List.forall_mem_nil _ | (refine List.forall_mem_cons.mpr ⟨Or.inr (by (try dsimp only); omega), ?_⟩)))) | (refine' UpdN.tail ?q ?b3; (case q => first | (exact Or.inl (by intro v e; cases e)) | (exact Or.inr (by (try dsimp only); omega))); (case b3 => (first | (refine UpdN.head ?_; (repeat (first | exact List.forall_mem_nil _ | (refine List.forall_mem_cons.mpr ⟨Or.inr (by (try dsimp only); omega), ?_⟩)))) | (refine' UpdN.tail ?q ?b3; (case q => first | (exact Or.inl (by intro v e; cases e)) | (exact Or.inr (by (try dsimp only); omega))); (case b3 => (first | (refine UpdN.head ?_; (repeat (first | exact List.forall_mem_nil _ | (refine List.forall_mem_cons.mpr ⟨Or.inr (by (try dsimp only); omega), ?_⟩)))) | (refine' UpdN.tail ?q ?b3; (case q => first | (exact Or.inl (by intro v e; cases e)) | (exact Or.inr (by (try dsimp only); omega))); (case b3 => (first | (refine UpdN.head ?_; (repeat (first | exact List.forall_mem_nil _ | (refine List.forall_mem_cons.mpr ⟨Or.inr (by (try dsimp only); omega), ?_⟩)))) | (refine' UpdN.tail ?q ?b3; (case q => first | (exact Or.inl (by intro v e; cases e)) | (exact Or.inr (by (try dsimp only); omega))); (case b3 => (first | (refine UpdN.head ?_; (repeat (first | exact List.forall_mem_nil _ | (refine List.forall_mem_cons.mpr ⟨Or.inr (by (try dsimp only); omega), ?_⟩)))) | (refine' UpdN.tail ?q ?b3; (case q => first | (exact Or.inl (by intro v e; cases e)) | (exact Or.inr (by (try dsimp only); omega))); (case b3 => (first | (refine UpdN.head ?_; (repeat (first | exact List.forall_mem_nil _ | (refine List.forall_mem_cons.mpr ⟨Or.inr (by (try dsimp only); omega), ?_⟩)))) | (refine' UpdN.tail ?q ?b3; (case q => first | (exact Or.inl (by intro v e; cases e)) | (exact Or.inr (by (try dsimp only); omega))); (case b3 => (first | (refine UpdN.head ?_; (repeat (first | exact List.forall_mem_nil _ | (refine List.forall_mem_cons.mpr ⟨Or.inr (by (try dsimp only); omega), ?_⟩)))) | (refine' UpdN.tail ?q ?b3; (case q => first | (exact Or.inl (by intro v e; cases e)) | (exact Or.inr (by (try dsimp only); omega))); (case b3 => (first | (refine UpdN.head ?_; (repeat (first | exact List.forall_mem_nil _ | (refine List.forall_mem_cons.mpr ⟨Or.inr (by (try dsimp only); omega), ?_⟩)))) | (refine' UpdN.tail ?q ?b3; (case q => first | (exact Or.inl (by intro v e; cases e)) | (exact Or.inr (by (try dsimp only); omega))); (case b3 => (refine UpdN.head ?_; (repeat (first | exact List.forall_mem_nil _ | (refine List.forall_mem_cons.mpr ⟨Or.inr (by (try dsimp only); omega), ?_⟩))))))))))))))))))))))))))))))))))))))))))))))))))))); k_whole; intro h' o' F' N' d'; (try dsimp only at N'); (try k_sweep)))
  k_with "eval ListComp" => (k_here; refine stopHere ?_)
  k_with "exec Assign cons ListComp" => (k_here; (with_reducible show wpAny _ _ (exec (Stmt.Assign [Expr.Name (Str.ofString "rows") _] _ _) _) _ _ _); refine stopHere ?_)
  k_with "exec Assign cons ListComp" => (k_here; (with_reducible show wpAny _ _ (exec (Stmt.Assign [Expr.Name (Str.ofString "twice") _] _ _) _) _ _ _); refine stopHere ?_)
  k_with "CompSrc" => (k_here; refine stopHere ?_)
  k_with "storeName" => (k_here; refine stopHere ?_)
  trivial
theorem law_halved (w : World) (mean : ExcName → Option Value) (mg mb : Str → Option Value) (h₀ base : Heap) (Z : Here w mean mg mb h₀ base) (fa : Addr) (cd : Value) (L : Addr) (s : Shared) (u : Str → Option Value) (keep : List (Addr × Obj)) (o4 : Obj) (v4 : Option Value) (d4 : o4.data = .cell v4)
   (F : Fr h₀ L s.heap u) (N : News h₀ L s.heap ((L + 1 + 1 + 1 + 1, o4) :: keep)) (hk4 : ∀ p ∈ keep, Apt (L + 1 + 1 + 1 + 1) p) (Q : Flow → Shared → Prop) (E : Value → Shared → Prop)
   (next : ∀ ah n o4' h' tk, s.toks ≤ tk → o4'.data = .cell (some (.ref ah)) → Fr h₀ L h' u → News h₀ L h' ((ah, listOf (List.toArray [.bool false, .bool false, .bool false]) n) :: (L + 1 + 1 + 1 + 1, o4') :: keep) → LawGo 11 w L fa cd Q E { s with heap := h', toks := tk }) :
   LawGo 10 w L fa cd Q E s := by
  obtain ⟨B, X, T, XB, TB⟩ := Z
  refine law_row (by unfold lawRec recOf; rfl) ?_
  unfold lawEnv lawRec recOf
  dsimp only
  revert X
  k_fill
  intro X
  k_steps
  unfold Stop
  rename News _ _ _ _ => N1
  refine store_cell (c := L + 1 + 1 + 1 + 1) (o := o4) rfl (.tail _ (.head _)) d4 (.tail (.inl (by intro v e; cases e)) (.head hk4)) (by assumption) N1 ?_ rfl rfl
  intro h4 o4' F4 N4 d4'
  k_steps
  exact fun hk => next _ _ o4' h4 _ hk d4' F4 N4
end Mine

end
-- L14
section
open PySem PySem.W PyProof.Rows PySem.Calls
set_option maxRecDepth 100000
set_option maxHeartbeats 8000000
namespace Mine
theorem fresh_L14 : True := by
  w_top off
  k_with_none
  k_with "omega" => lia
  trivial
theorem rows_L14_1 : True := by
  k_with "call ref" => (k_here; (with_reducible show wpAny _ _ (call (Value.ref 76) [Value.ref _]) _ _ _); k_dflt (refine' claim_use (c_neck _ _ _ _ _ _ _ ?hi ?hn) ?k1 ?k2 ?k3 ?k4 ?k5 ?kK ?kp ?kd ?ku ?_; (case hi => assumption); (case hn => assumption); (case k1 => k_asm); (case k2 => k_asm); (case k3 => k_asm); (case k4 => k_asm); (case k5 => k_asm); (case kK => first | exact rfl | assumption); (case kp => is_list); (case kd => ktr_room); (case ku => ktr_units); intro r9 tl9 h9 tk9 g9 F9 N9 K9 l9 G9 R9; obtain ⟨a9, ws9, bs9, n9, e9, e9', i9, b9⟩ := R9; subst e9; subst e9'; clear l9 K9; simp only [List.cons_append, List.nil_append] at N9; (try dsimp only)))
  k_with "CompEnd" => (k_dflt (refine' LCg.CompEnd.intro ?F ?N _ ?sub ?off ?src (And.intro rfl ?J); (case F => k_asm); (case N => k_asm); (case sub => lcg_sub); (case off => assumption); (case src => lcg_src); (case J => first | exact rows_snoc _ (by assumption) (by assumption) (by first | exact row_red _ | exact row_green _ | exact row_blue _) | exact sent_snoc _ (by assumption) (by assumption) (by first | exact sent_red _ | exact sent_green _ | exact sent_blue _) | exact count_snoc (by assumption) rfl)))
  k_with "subscriptTail Name Name ref int" => (k_here; (with_reducible show wpAny _ _ (subscriptTail _ _ (Value.ref _) (Value.int _ _)) _ _ _); k_dflt (refine' item_bead ?l ?i ?B ?n ?_ ?s ?g; (case l => is_list); (case i => assumption); (case B => assumption); (case n => assumption); (case s => with_unfolding_all rfl); (case g => (intro _; with_unfolding_all rfl)); intro b8 t8 e8 c8; (rcases c8 with c8 | c8 | c8 <;> subst c8)))
  k_with "subscriptTail List Subscript ref int" => (k_here; (with_reducible show wpAny _ _ (subscriptTail _ _ (Value.ref _) (Value.int _ _)) _ _ _); k_dflt (refine' item_new ?k1 ?k2 ?k3 ?k4 ?k5 ?_ ?k6 ?k7; (case k1 => k_asm); (case k2 => k_mem); (case k3 => decide); (case k4 => decide); (case k5 => exact rfl); (case k6 => with_unfolding_all rfl); (case k7 => (intro _; with_unfolding_all rfl))))
  k_with "subscriptTail List Name ref int" => (k_here; (with_reducible show wpAny _ _ (subscriptTail _ _ (Value.ref _) (Value.int _ _)) _ _ _); k_dflt (refine' item_new ?k1 ?k2 ?k3 ?k4 ?k5 ?_ ?k6 ?k7; (case k1 => k_asm); (case k2 => k_mem); (case k3 => decide); (case k4 => decide); (case k5 => exact rfl); (case k6 => with_unfolding_all rfl); (case k7 => (intro _; with_unfolding_all rfl))))
  k_with "call builtin:str.join" => (k_here; (with_reducible show wpAny _ _ (call (Value.builtin "str.join") [Value.str _ _, Value.ref _]) _ _ _); k_dflt (refine' join_rows ?e ?l ?i ?n ?_; (case e => with_unfolding_all rfl); (case l => is_list); (case i => assumption); (case n => first | exact Nat.le_trans (rows_flat (by assumption)) (by decide) | exact Nat.le_trans (sent_flat (by assumption)) (by decide)); intro t6 k6; (try dsimp only)))
  k_with "storeName" => (k_here; k_dflt (refine' store_cell ?c ?m ?d ?U ?F ?N ?_ ?a ?b; (case a => rfl); (case b => rfl); (case c => rfl); (case F => k_asm); (case N => k_asm); (case m => k_mem); (case d => k_asm); (case U => (first | (refine UpdN.head ?_; (repeat (first | exact List.forall_mem_nil _ | (refine List.forall_mem_cons.mpr ⟨Or.inr (by (try dsimp only); omega), ?_⟩)))) | (refine' UpdN.tail ?q ?b3; (case q => first | (exact Or.inl (by intro v e; cases e)) | (exact Or.inr (by (try dsimp only); omega))); (case b3 => (first | (refine UpdN.head ?_; (repeat (first | exact List.forall_mem_nil _ | (refine List.forall_mem_cons.mpr ⟨Or.inr (by (try dsimp only); omega), ?_⟩)))) | (refine' UpdN.tail ?q ?b3; (case q => first | (exact Or.inl (by intro v e; cases e)) | (exact Or.inr (by (try dsimp only); omega))); (case b3 => (first | (refine UpdN.head ?_; (repeat (first | exact List.forall_mem_nil _ | (refine List.forall_mem_cons.mpr ⟨Or.inr (by (try dsimp only); omega), ?_⟩)))) | (refine' UpdN.tail ?q ?b3; (case q => first | (exact Or.inl (by intro v e; cases e)) | (exact Or.inr (by (try dsimp only); omega))); (case b3 => (first | (refine UpdN.head ?_; (repeat (first | exact List.forall_mem_nil _ | (refine List.forall_mem_cons.mpr ⟨Or.inr (by (try dsimp only); omega), ?_⟩)))) | (refine' UpdN.tail ?q ?b3; (case q => first | (exact Or.inl (by intro v e; cases e)) | (exact Or.inr (by (try dsimp only); omega))); (case b3 => (first | (refine UpdN.head ?_; (repeat (first | exact List.forall_mem_nil _ | (refine List.forall_mem_cons.mpr ⟨Or.inr (by (try dsimp only); omega), ?_⟩)))) | (refine' UpdN.tail ?q ?b3; (case q => first | (exact Or.inl (by intro v e; cases e)) | (exact Or.inr (by (try dsimp only); omega))); (case b3 => (first | (refine UpdN.head ?_; (repeat (first | exact List.forall_mem_nil _ | (refine List.forall_mem_cons.mpr ⟨Or.inr (by (try dsimp only); omega), ?_⟩)))) | (refine' UpdN.tail ?q ?b3; (case q => first | (exact Or.inl (by intro v e; cases e)) | (exact Or.inr (by (try dsimp only); omega))); (case b3 => (first | (refine UpdN.head ?_; (repeat (first | exact List.forall_mem_nil _ | (refine List.forall_mem_cons.mpr ⟨Or.inr (by (try dsimp only); omega), ?_⟩)))) | (refine' UpdN.tail ?q ?b3; (case q => first | (exact Or.inl (by intro v e; cases e)) | (exact Or.inr (by (try dsimp only); omega))); (case b3 => (first | (refine UpdN.head ?_; (repeat (first | exact List.forall_mem_nil _ | (refine List.forall_mem_cons.mpr ⟨Or.inr (by (try dsimp only); omega), ?_⟩)))) | (refine' UpdN.tail ?q ?b3; (case q => first | (exact Or.inl (by intro v e; cases e)) | (exact Or.inr (by (try dsimp only); omega))); (case b3 => (first | (refine UpdN.head ?_; (repeat (first | exact List.forall_mem_nil _ | (refine List.forall_mem_cons.mpr ⟨Or.inr (by (try dsimp only); omega), ?_⟩)))) | (refine' UpdN.tail ?q ?b3; (case q => first | (exact Or.inl (by intro v e; cases e)) | (exact Or.inr (by (try dsimp only); omega))); (case b3 => (first | (refine UpdN.head ?_; (repeat (first | exact List.forall_mem_nil _ | (refine List.forall_mem_cons.mpr ⟨Or.inr (by (try dsimp only); omega), ?_⟩)))) | (refine' UpdN.tail ?q ?b3; (case q => first | (exact Or.inl (by intro v e; cases e)) | (exact Or.inr (by (try dsimp only); omega))); (case b3 => (first | (refine UpdN.head ?_; (repeat (first | exact List.forall_mem_nil _ | (refine List.forall_mem_cons.mpr ⟨Or.inr (by (try dsimp only); omega), ?_⟩)))) | (refine' UpdN.tail ?q ?b3; (case q => first | (exact Or.inl (by intro v e; cases e)) | (exact Or.inr (by (try dsimp only); omega))); (case b3 => (first | (refine UpdN.head ?_; (repeat (first | exact List.forall_mem_nil _ | (refine List.forall_mem_cons.mpr ⟨Or.inr (by (try dsimp only); omega), ?_⟩)))) | (refine' UpdN.tail ?q ?b3; (case q => first | (exact Or.inl (by intro v e; cases e)) | (exact Or.inr (by (try dsimp only); omega))); (case b3 => (first | (refine UpdN.head ?_; (repeat (first | exact List.forall_mem_nil _ | (refine List.forall_mem_cons.mpr ⟨Or.inr (by (try dsimp only); omega), ?_⟩)))) | (refine' UpdN.tail ?q ?b3; (case q => first | (exact Or.inl (by intro v e; cases e)) | (exact Or.inr (by (try dsimp only); omega))); (case b3 => (first | (refine UpdN.head ?_; (repeat (first | exact List.forall_mem_nil _ | (refine List.forall_mem_cons.mpr ⟨Or.inr (by (try dsimp only); omega), ?_⟩)))) | (refine' UpdN.tail ?q ?b3; (case q => first | (exact Or.inl (by intro v e; cases e)) | (exact Or.inr (by (try dsimp only); omega))); (case b3 => (first | (refine UpdN.head ?_; (repeat (first | exact List.forall_mem_nil _ | (refine List.forall_mem_cons.mpr ⟨Or.inr (by (try dsimp only); omega), ?_⟩)))) | (refine' UpdN.tail ?q ?b3; (case q => first | (exact Or.inl (by intro v e; cases e)) | (exact Or.inr (by (try dsimp only); omega))); (case b3 => (first | (refine UpdN.head ?_; (repeat (first | exact List.forall_mem_nil _ | (refine List.forall_mem_cons.mpr ⟨Or.inr (by (try dsimp only); omega), ?_⟩)))) | (refine' UpdN.tail ?q ?b3; (case q => first | (exact Or.inl (by intro v e; cases e)) | (exact Or.inr (by (try dsimp only); omega))); (case b3 => (refine UpdN.head ?_; (repeat (first | exact List.forall_mem_nil _ | (refine List.forall_mem_cons.mpr ⟨Or.inr (by (try dsimp only); omega), ?_⟩))))))))))))))))))))))))))))))))))))))))))))))))))))); k_whole; intro h' o' F' N' d'; (try dsimp only at N'); (try k_sweep)))
  k_with "eval ListComp" => (k_here; refine stopHere ?_)
  k_with "exec Assign cons ListComp" => (k_here; (with_reducible show wpAny _ _ (exec (Stmt.Assign [Expr.Name (Str.ofString "rows") _] _ _) _) _ _ _); refine stopHere ?_)
  k_with "exec Assign cons ListComp" => (k_here; (with_reducible show wpAny _ _ (exec (Stmt.Assign [Expr.Name (Str.ofString "twice") _] _ _) _) _ _ _); refine stopHere ?_)
  k_with "CompSrc" => (k_here; refine stopHere ?_)
  k_with "compareOp Eq ref ref" => (k_here; refine stopHere ?_)
  trivial
theorem eqAt_true {A : Around} {s : Shared} : PySem.SeqAt.EqAt A s (.bool true) (.bool true) true := by
  intro prog w E Q hq
  unfold eqBool
  try with_reducible refine wpAny_holding ?_
  show wpAny _ _ (if (Value.bool true == Value.bool true) = true then _ else _) Q E s
  rw [if_pos (by decide)]
  exact wpAny_bind (wpAny_rule (wpAny_pure hq))
theorem law_end (w : World) (mean : ExcName → Option Value) (mg mb : Str → Option Value) (h₀ base : Heap) (Z : Here w mean mg mb h₀ base) (fa : Addr) (cd : Value) (L ah : Addr) (n : Nat) (s : Shared) (u : Str → Option Value) (o4 : Obj) (d4 : o4.data = .cell (some (.ref ah)))
   (F : Fr h₀ L s.heap (fun z => if z = Str.ofString "fair" then some (.bool true) else u z)) (N : News h₀ L s.heap ((ah, listOf (List.toArray [.bool true, .bool true, .bool true]) n) :: (L + 1 + 1 + 1 + 1, o4) :: [])) (Q : Flow → Shared → Prop) (E : Value → Shared → Prop)
   (next : ∀ h' tk, Fr h₀ L h' (fun z => if z = Str.ofString "fair" then some (.bool true) else u z) → Q (.ret (.bool true)) { s with heap := h', toks := tk }) :
   LawGo 12 w L fa cd Q E s := by
  obtain ⟨B, X, T, XB, TB⟩ := Z
  refine law_row (by unfold lawRec recOf; rfl) ?_
  unfold lawEnv lawRec recOf
  dsimp only
  revert X
  k_fill
  intro X
  k_steps
  unfold Stop
  rename News _ _ _ _ => N1
  refine PySem.SeqAt.eq_listAt (e := fun _ => true) (of_mem N1 (.tail _ (.head _))) (of_mem N1 (.head _)) rfl (by ktr_units) ?_ ?_
  · intro j j1 j2
    have j3 : j < 3 := j1
    have : j = 0 ∨ j = 1 ∨ j = 2 := by omega
    rcases this with e | e | e <;> subst e <;> exact eqAt_true
  rw [show ((List.range (List.toArray [Value.bool true, Value.bool true, Value.bool true]).size).all fun _ => true) = true from rfl]
  k_steps
  exact fun _ => next _ _ (by assumption)
end Mine

end
-- L15
section
open PySem PySem.W PyProof.Rows PySem.Calls
set_option maxRecDepth 100000
set_option maxHeartbeats 8000000
namespace Mine
theorem fresh_L15 : True := by
  w_top off
  k_with_none
  k_with "omega" => lia
  trivial
theorem rows_L15_1 : True := by
  k_with "call ref" => (k_here; (with_reducible show wpAny _ _ (call (Value.ref 76) [Value.ref _]) _ _ _); k_dflt (refine' claim_use (c_neck _ _ _ _ _ _ _ ?hi ?hn) ?k1 ?k2 ?k3 ?k4 ?k5 ?kK ?kp ?kd ?ku ?_; (case hi => assumption); (case hn => assumption); (case k1 => k_asm); (case k2 => k_asm); (case k3 => k_asm); (case k4 => k_asm); (case k5 => k_asm); (case kK => first | exact rfl | assumption); (case kp => is_list); (case kd => ktr_room); (case ku => ktr_units); intro r9 tl9 h9 tk9 g9 F9 N9 K9 l9 G9 R9; obtain ⟨a9, ws9, bs9, n9, e9, e9', i9, b9⟩ := R9; subst e9; subst e9'; clear l9 K9; simp only [List.cons_append, List.nil_append] at N9; (try dsimp only)))
  k_with "CompEnd" => (k_dflt (refine' LCg.CompEnd.intro ?F ?N _ ?sub ?off ?src (And.intro rfl ?J); (case F => k_asm); (case N => k_asm); (case sub => lcg_sub); (case off => assumption); (case src => lcg_src); (case J => first | exact rows_snoc _ (by assumption) (by assumption) (by first | exact row_red _ | exact row_green _ | exact row_blue _) | exact sent_snoc _ (by assumption) (by assumption) (by first | exact sent_red _ | exact sent_green _ | exact sent_blue _) | exact count_snoc (by assumption) rfl)))
  k_with "subscriptTail Name Name ref int" => (k_here; (with_reducible show wpAny _ _ (subscriptTail _ _ (Value.ref _) (Value.int _ _)) _ _ _); k_dflt (refine' item_bead ?l ?i ?B ?n ?_ ?s ?g; (case l => is_list); (case i => assumption); (case B => assumption); (case n => assumption); (case s => with_unfolding_all rfl); (case g => (intro _; with_unfolding_all rfl)); intro b8 t8 e8 c8; (rcases c8 with c8 | c8 | c8 <;> subst c8)))
  k_with "subscriptTail List Subscript ref int" => (k_here; (with_reducible show wpAny _ _ (subscriptTail _ _ (Value.ref _) (Value.int _ _)) _ _ _); k_dflt (refine' item_new ?k1 ?k2 ?k3 ?k4 ?k5 ?_ ?k6 ?k7; (case k1 => k_asm); (case k2 => k_mem); (case k3 => decide); (case k4 => decide); (case k5 => exact rfl); (case k6 => with_unfolding_all rfl); (case k7 => (intro _; with_unfolding_all rfl))))
  k_with "subscriptTail List Name ref int" => (k_here; (with_reducible show wpAny _ _ (subscriptTail _ _ (Value.ref _) (Value.int _ _)) _ _ _); k_dflt (refine' item_new ?k1 ?k2 ?k3 ?k4 ?k5 ?_ ?k6 ?k7; (case k1 => k_asm); (case k2 => k_mem); (case k3 => decide); (case k4 => decide); (case k5 => exact rfl); (case k6 => with_unfolding_all rfl); (case k7 => (intro _; with_unfolding_all rfl))))
  k_with "call builtin:str.join" => (k_here; (with_reducible show wpAny _ _ (call (Value.builtin "str.join") [Value.str _ _, Value.ref _]) _ _ _); k_dflt (refine' join_rows ?e ?l ?i ?n ?_; (case e => with_unfolding_all rfl); (case l => is_list); (case i => assumption); (case n => first | exact Nat.le_trans (rows_flat (by assumption)) (by decide) | exact Nat.le_trans (sent_flat (by assumption)) (by decide)); intro t6 k6; (try dsimp only)))
  k_with "storeName" => (k_here; k_dflt (refine' store_cell ?c ?m ?d ?U ?F ?N ?_ ?a ?b; (case a => rfl); (case b => rfl); (case c => rfl); (case F => k_asm); (case N => k_asm); (case m => k_mem); (case d => k_asm); (case U => (first | (refine UpdN.head ?_; (repeat (first | exact List.forall_mem_nil _ | (refine List.forall_mem_cons.mpr ⟨Or.inr (by (try dsimp only); omega), ?_⟩)))) | (refine' UpdN.tail ?q ?b3; (case q => first | (exact Or.inl (by intro v e; cases e)) | (exact Or.inr (by (try dsimp only); omega))); (case b3 => (first | (refine UpdN.head ?_; (repeat (first | exact List.forall_mem_nil _ | (refine List.forall_mem_cons.mpr ⟨Or.inr (by (try dsimp only); omega), ?_⟩)))) | (refine' UpdN.tail ?q ?b3; (case q => first | (exact Or.inl (by intro v e; cases e)) | (exact Or.inr (by (try dsimp only); omega))); (case b3 => (first | (refine UpdN.head ?_; (repeat (first | exact List.forall_mem_nil _ | (refine List.forall_mem_cons.mpr ⟨Or.inr (by (try dsimp only); omega), ?_⟩)))) | (refine' UpdN.tail ?q ?b3; (case q => first | (exact Or.inl (by intro v e; cases e)) | (exact Or.inr (by (try dsimp only); omega))); (case b3 => (first | (refine UpdN.head ?_; (repeat (first | exact List.forall_mem_nil _ | (refine List.forall_mem_cons.mpr ⟨Or.inr (by (try dsimp only); omega), ?_⟩)))) | (refine' UpdN.tail ?q ?b3; (case q => first | (exact Or.inl (by intro v e; cases e)) | (exact Or.inr (by (try dsimp only); omega))); (case b3 => (first | (refine UpdN.head ?_; (repeat (first | exact List.forall_mem_nil _ | (refine List.forall_mem_cons.mpr ⟨Or.inr (by (try dsimp only); omega), ?_⟩)))) | (refine' UpdN.tail ?q ?b3; (case q => first | (exact Or.inl (by intro v e; cases e)) | (exact Or.inr (by (try dsimp only); omega))); (case b3 => (first | (refine UpdN.head ?_; (repeat (first | exact List.forall_mem_nil _ | (refine List.forall_mem_cons.mpr ⟨Or.inr (by (try dsimp only); omega), ?_⟩)))) | (refine' UpdN.tail ?q ?b3; (case q => first | (exact Or.inl (by intro v e; cases e)) | (exact Or.inr (by (try dsimp only); omega))); (case b3 => (first | (refine UpdN.head ?_; (repeat (first | exact List.forall_mem_nil _ | (refine List.forall_mem_cons.mpr ⟨Or.inr (by (try dsimp only); omega), ?_⟩)))) | (refine' UpdN.tail ?q ?b3; (case q => first | (exact Or.inl (by intro v e; cases e)) | (exact Or.inr (by (try dsimp only); omega))); (case b3 => (first | (refine UpdN.head ?_; (repeat (first | exact List.forall_mem_nil _ | (refine List.forall_mem_cons.mpr ⟨Or.inr (by (try dsimp only); omega), ?_⟩)))) | (refine' UpdN.tail ?q ?b3; (case q => first | (exact Or.inl (by intro v e; cases e)) | (exact Or.inr (by (try dsimp only); omega))); (case b3 => (first | (refine UpdN.head ?_; (repeat (first | exact List.forall_mem_nil _ | (refine List.forall_mem_cons.mpr ⟨Or.inr (by (try dsimp only); omega), ?_⟩)))) | (refine' UpdN.tail ?q ?b3; (case q => first | (exact Or.inl (by intro v e; cases e)) | (exact Or.inr (by (try dsimp only); omega))); (case b3 => (first | (refine UpdN.head ?_; (repeat (first | exact List.forall_mem_nil _ | (refine List.forall_mem_cons.mpr ⟨Or.inr (by (try dsimp only); omega), ?_⟩)))) | (refine' UpdN.tail ?q ?b3; (case q => first | (exact Or.inl (by intro v e; cases e)) | (exact Or.inr (by (try dsimp only); omega))); (case b3 => (first | (refine UpdN.head ?_; (repeat (first | exact List.forall_mem_nil _ | (refine List.forall_mem_cons.mpr ⟨Or.inr (by (try dsimp only); omega), ?_⟩)))) | (refine' UpdN.tail ?q ?b3; (case q => first | (exact Or.inl (by intro v e; cases e)) | (exact Or.inr (by (try dsimp only); omega))); (case b3 => (first | (refine UpdN.head ?_; (repeat (first | exact List.forall_mem_nil _ | (refine List.forall_mem_cons.mpr ⟨Or.inr (by (try dsimp only); omega), ?_⟩)))) | (refine' UpdN.tail ?q ?b3; (case q => first | (exact Or.inl (by intro v e; cases e)) | (exact Or.inr (by (try dsimp only); omega))); (case b3 => (first | (refine UpdN.head ?_; (repeat (first | exact List.forall_mem_nil _ | (refine List.forall_mem_cons.mpr ⟨Or.inr (by (try dsimp only); omega), ?_⟩)))) | (refine' UpdN.tail ?q ?b3; (case q => first | (exact Or.inl (by intro v e; cases e)) | (exact Or.inr (by (try dsimp only); omega))); (case b3 => (first | (refine UpdN.head ?_; (repeat (first | exact List.forall_mem_nil _ | (refine List.forall_mem_cons.mpr ⟨Or.inr (by (try dsimp only); omega), ?_⟩)))) | (refine' UpdN.tail ?q ?b3; (case q => first | (exact Or.inl (by intro v e; cases e)) | (exact Or.inr (by (try dsimp only); omega))); (case b3 => (first | (refine UpdN.head ?_; (repeat (first | exact List.forall_mem_nil _ | (refine List.forall_mem_cons.mpr ⟨Or.inr (by (try dsimp only); omega), ?_⟩)))) | (refine' UpdN.tail ?q ?b3; (case q => first | (exact Or.inl (by intro v e; cases e)) | (exact Or.inr (by (try dsimp only); omega))); (case b3 => (first | (refine UpdN.head ?_; (repeat (first | exact List.forall_mem_nil _ | (refine List.forall_mem_cons.mpr ⟨Or.inr (by (try dsimp only); omega), ?_⟩)))) | (refine' UpdN.tail ?q ?b3; (case q => first | (exact Or.inl (by intro v e; cases e)) | (exact Or.inr (by (try dsimp only); omega))); (case b3 => (refine UpdN.head ?_; (repeat (first | exact List.forall_mem_nil _ | (refine List.forall_mem_cons.mpr ⟨Or.inr (by (try dsimp only); omega), ?_⟩))))))))))))))))))))))))))))))))))))))))))))))))))))); k_whole; intro h' o' F' N' d'; (try dsimp only at N'); (try k_sweep)))
  k_with "eval ListComp" => (k_here; refine stopHere ?_)
  k_with "exec Assign cons ListComp" => (k_here; (with_reducible show wpAny _ _ (exec (Stmt.Assign [Expr.Name (Str.ofString "rows") _] _ _) _) _ _ _); refine stopHere ?_)
  k_with "exec Assign cons ListComp" => (k_here; (with_reducible show wpAny _ _ (exec (Stmt.Assign [Expr.Name (Str.ofString "twice") _] _ _) _) _ _ _); refine stopHere ?_)
  k_with "CompSrc" => (k_here; refine stopHere ?_)
  k_with "storeName" => (k_here; refine stopHere ?_)
  k_with "call ref" => (k_here; refine stopHere ?_)
  trivial
theorem law_beads (w : World) (mean : ExcName → Option Value) (mg mb : Str → Option Value) (h₀ base : Heap) (Z : Here w mean mg mb h₀ base) (fa : Addr) (cd : Value) (L l : Addr) (vs : List Value) (ns : List Int) (hi : IntsAre vs ns) (hlen : ns.length ≤ 63) (s : Shared) (u : Str → Option Value) (keep : List (Addr × Obj)) (o1 : Obj) (v1 : Option Value) (d1 : o1.data = .cell v1) (hl : h₀.IsList l vs.toArray) (hg : leftWithCleanup s.gens = false)
   (F : Fr h₀ L s.heap (fun y => if y = Str.ofString "script" then some (.ref l) else u y)) (N : News h₀ L s.heap ((L + 1, o1) :: keep)) (hk1 : ∀ p ∈ keep, Apt (L + 1) p) (Q : Flow → Shared → Prop) (E : Value → Shared → Prop)
   (next : ∀ b9 ws bs n o1' h' tk g, s.toks ≤ tk → leftWithCleanup g = false → IntsAre ws bs → BeadsOk 5 bs → o1'.data = .cell (some (.ref b9)) → Fr h₀ L h' (fun y => if y = Str.ofString "script" then some (.ref l) else u y) → News h₀ L h' ((b9, listOf (List.toArray ws) n) :: (L + 1, o1') :: keep) → LawGo 1 w L fa cd Q E { s with heap := h', toks := tk, gens := g }) :
   LawGo 0 w L fa cd Q E s := by
  obtain ⟨B, X, T, XB, TB⟩ := Z
  refine law_row (by unfold lawRec recOf; rfl) ?_
  unfold lawEnv lawRec recOf
  dsimp only
  revert X
  k_fill
  intro X
  k_steps
  unfold Stop
  have hl' : (Shared.heap s).IsList l vs.toArray := by
    obtain ⟨o, e1, e2⟩ := hl
    exact ⟨o, F.keep _ _ e1, e2⟩
  refine claim_use (c_neck w mean mg mb l vs ns hi hlen) (by k_asm) (by k_asm) (by k_asm) (by k_asm) (by k_asm) rfl hl' (by ktr_room) (by ktr_units) ?_
  rintro r9 tl9 h9 tk9 g9 F9 N9 K9 l9 G9 ⟨b9, ws, bs, n9, rfl, rfl, hI, hB⟩
  rw [List.cons_append, List.nil_append] at N9
  clear l9 K9
  k_steps
  unfold Stop
  rename News _ _ _ _ => N1
  refine store_cell (c := L + 1) (o := o1) rfl (.tail _ (.head _)) d1 (.tail (.inl (by intro v e; cases e)) (.head hk1)) (by assumption) N1 ?_ rfl rfl
  intro h4 o1' F4 N4 d1'
  k_steps
  exact fun hk => next _ _ _ _ o1' h4 _ _ hk (G9 hg) hI hB d1' F4 N4
end Mine

end
-- TurnLem
section
open PySem PySem.W PyProof.Rows PySem.Calls PySem.Spec PyProof.V PySem.SeqAt
set_option maxRecDepth 100000
set_option maxHeartbeats 8000000
namespace Mine
theorem fresh_TurnLem : True := by
  w_top off
  k_with_none
  k_with "omega" => lia
  trivial
def forBody : Stmt → List Stmt
  | .For _ _ b _ _ => b
  | _ => []
def headBody : List Stmt → List Stmt
  | st :: _ => forBody st
  | [] => []
noncomputable def aBody : List Stmt := headBody (lawRec.body.drop 11)
noncomputable def turnBody : List Stmt := headBody aBody
/-- a turn's rows from the k-th on -/
def TurnGo (k : Nat) (w : World) (L fa : Addr) (cd : Value) (Q : Flow → Shared → Prop) (E : Value → Shared → Prop) (s : Shared) : Prop :=
  wpAny (model PySem.Challenge.rw_sr0007_01.row.prog w) (callerA.deeper (lawEnv L fa cd)) (execs (turnBody.drop k) (lawEnv L fa cd)) Q E s
def AfterTurn (k : Nat) (w : World) (L fa : Addr) (cd : Value) (Q : Flow → Shared → Prop) (E : Value → Shared → Prop) (f : Flow) (s' : Shared) : Prop := match f with
  | .next => TurnGo k w L fa cd Q E s'
  | f => Q f s'
def AfterTurnT (n k : Nat) (w : World) (L fa : Addr) (cd : Value) (Q : Flow → Shared → Prop) (E : Value → Shared → Prop) (f : Flow) (s' : Shared) : Prop := n ≤ s'.toks → AfterTurn k w L fa cd Q E f s'
theorem turn_row {k : Nat} {w : World} {L fa : Addr} {cd : Value} {Q : Flow → Shared → Prop} {E : Value → Shared → Prop} {s : Shared} {st : Stmt} {rest : List Stmt} (hst : turnBody.drop k = st :: rest)
   (h : wpAny (model PySem.Challenge.rw_sr0007_01.row.prog w) (callerA.deeper (lawEnv L fa cd)) (exec st (lawEnv L fa cd)) (AfterTurnT s.toks (k + 1) w L fa cd Q E) E s) : TurnGo k w L fa cd Q E s := by
  have e : rest = turnBody.drop (k + 1) := by rw [← List.tail_drop, hst]; rfl
  unfold TurnGo
  rw [hst]
  refine wpAny_execs_cons (wpAny_with_toks (Nat.le_refl s.toks) (wpAny_mono h (fun f s' h' hk => ?_) fun _ _ e _ => e))
  have h'' := h' hk
  cases f <;> first | exact h'' | (rw [e]; exact h'')
theorem take_cut {α : Type} (l : List α) (x y : Nat) : (l.drop (min x l.length)).take (min y l.length - min x l.length) = (l.drop x).take (y - x) := by
  rcases Nat.lt_or_ge x l.length with h | h
  · rw [Nat.min_eq_left (Nat.le_of_lt h)]
    rcases Nat.lt_or_ge y l.length with h' | h'
    · rw [Nat.min_eq_left (Nat.le_of_lt h')]
    · rw [Nat.min_eq_right h', List.take_of_length_le (by simp), List.take_of_length_le (by simp; omega)]
  · rw [Nat.min_eq_right h, List.drop_of_length_le (Nat.le_refl _), List.drop_of_length_le h]; simp
theorem pick_cut (vs : List Value) {x y : Int} (h : 0 ≤ x) (h' : x ≤ y) : slicePick vs.toArray (some x) (some y) none = ((vs.drop x.toNat).take (y - x).toNat).toArray := by
  have e : sliceBounds (some x) (some y) none vs.toArray.size = (((min x.toNat vs.toArray.size : Nat) : Int), ((min y.toNat vs.toArray.size : Nat) : Int), 1) := by
    simp only [sliceBounds, Option.getD_none, show (1 : Int) > 0 by decide, if_true, if_neg (show ¬ (x < 0) by omega), if_neg (show ¬ (y < 0) by omega)]
    congr 1
    · omega
    · congr 1; omega
  rw [kmk_pick_nat _ e]
  show ((vs.drop (min x.toNat vs.toArray.size)).take (min y.toNat vs.toArray.size - min x.toNat vs.toArray.size)).toArray = _
  rw [List.size_toArray, take_cut]
  congr 2
  omega
theorem ints_take {vs : List Value} {ns : List Int} (h : IntsAre vs ns) : ∀ n, IntsAre (vs.take n) (ns.take n) := by
  induction h with
  | nil => intro n; simp; exact .nil
  | cons y t _ ih => intro n; cases n with
    | zero => exact .nil
    | succ n => exact .cons y t (ih n)
theorem ints_drop {vs : List Value} {ns : List Int} (h : IntsAre vs ns) : ∀ n, IntsAre (vs.drop n) (ns.drop n) := by
  induction h with
  | nil => intro n; simp; exact .nil
  | cons y t h' ih => intro n; cases n with
    | zero => exact .cons y t h'
    | succ n => exact ih n
section
variable {prog : Program} {w : World} {A : Around} {E : Value → Shared → Prop} {s : Shared} {h₀ : Heap} {L l a b : Addr} {m : Str → Option Value} {news : List (Addr × Obj)} {value slice : PySem.Expr} {vs : List Value} {ns : List Int} {vl vu : Value} {x y : Int} {Q : Value → Shared → Prop}
theorem ints_cut (F : Fr h₀ L s.heap m) (N : News h₀ L s.heap news) (hl : s.heap.IsList l vs.toArray) (hi : IntsAre vs ns) (hn : ns.length ≤ 100) (pl : IsPart vl (some x)) (pu : IsPart vu (some y)) (h0 : 0 ≤ x) (h1 : x ≤ y)
    (h : ∀ D ws h', Fr h₀ L h' m → News h₀ L h' ((D, listOf (List.toArray ws) 0) :: news) → IntsAre ws ((ns.drop x.toNat).take (y - x).toNat) → Q (.ref D) { s with heap := h' })
    (hs : subscripted slice false (.ref l) (.ref s.heap.objs.size) = operate [.ref s.heap.objs.size, .ref l] (getItem (.ref l) (.ref s.heap.objs.size))) (ht : ∀ r, letTemporaryGo value (.ref l) r = pure ()) :
    wpAny (model prog w) A (subscriptTail value slice (.ref l) (.ref s.heap.objs.size)) Q E { s with heap := s.heap.push { cls := .type "slice", data := .fields #[vl, vu, .none] } } := by
  refine kmk_slice F N hl pl pu (fun D h' F' N' _ => h D _ h' F' ?_ (ints_take (ints_drop hi _) _)) hs ht (by have := ints_len hi; rw [List.size_toArray, sizeLine_eq]; omega)
  rw [pick_cut vs h0 h1] at N'; exact N'
theorem ints_from (F : Fr h₀ L s.heap m) (N : News h₀ L s.heap news) (hl : s.heap.IsList l vs.toArray) (hi : IntsAre vs ns) (hn : ns.length ≤ 100) (pl : IsPart vl (some x)) (pu : IsPart vu none) (h0 : 0 ≤ x)
    (h : ∀ D ws h', Fr h₀ L h' m → News h₀ L h' ((D, listOf (List.toArray ws) 0) :: news) → IntsAre ws (ns.drop x.toNat) → Q (.ref D) { s with heap := h' })
    (hs : subscripted slice false (.ref l) (.ref s.heap.objs.size) = operate [.ref s.heap.objs.size, .ref l] (getItem (.ref l) (.ref s.heap.objs.size))) (ht : ∀ r, letTemporaryGo value (.ref l) r = pure ()) :
    wpAny (model prog w) A (subscriptTail value slice (.ref l) (.ref s.heap.objs.size)) Q E { s with heap := s.heap.push { cls := .type "slice", data := .fields #[vl, vu, .none] } } := by
  refine kmk_slice F N hl pl pu (fun D h' F' N' _ => h D _ h' F' ?_ (ints_drop hi _)) hs ht (by have := ints_len hi; rw [List.size_toArray, sizeLine_eq]; omega)
  rw [pick_from vs h0] at N'; exact N'
end
end Mine

end
-- L20
section
open PySem PySem.W PyProof.Rows PySem.Calls
set_option maxRecDepth 100000
set_option maxHeartbeats 8000000
namespace Mine
theorem fresh_L20 : True := by
  w_top off
  k_with_none
  k_with "omega" => lia
  trivial
theorem rows_L20_1 : True := by
  k_with "call ref" => (k_here; (with_reducible show wpAny _ _ (call (Value.ref 76) [Value.ref _]) _ _ _); k_dflt (refine' claim_use (c_neck _ _ _ _ _ _ _ ?hi ?hn) ?k1 ?k2 ?k3 ?k4 ?k5 ?kK ?kp ?kd ?ku ?_; (case hi => assumption); (case hn => assumption); (case k1 => k_asm); (case k2 => k_asm); (case k3 => k_asm); (case k4 => k_asm); (case k5 => k_asm); (case kK => first | exact rfl | assumption); (case kp => is_list); (case kd => ktr_room); (case ku => ktr_units); intro r9 tl9 h9 tk9 g9 F9 N9 K9 l9 G9 R9; obtain ⟨a9, ws9, bs9, n9, e9, e9', i9, b9⟩ := R9; subst e9; subst e9'; clear l9 K9; simp only [List.cons_append, List.nil_append] at N9; (try dsimp only)))
  k_with "CompEnd" => (k_dflt (refine' LCg.CompEnd.intro ?F ?N _ ?sub ?off ?src (And.intro rfl ?J); (case F => k_asm); (case N => k_asm); (case sub => lcg_sub); (case off => assumption); (case src => lcg_src); (case J => first | exact rows_snoc _ (by assumption) (by assumption) (by first | exact row_red _ | exact row_green _ | exact row_blue _) | exact sent_snoc _ (by assumption) (by assumption) (by first | exact sent_red _ | exact sent_green _ | exact sent_blue _) | exact count_snoc (by assumption) rfl)))
  k_with "subscriptTail Name Name ref int" => (k_here; (with_reducible show wpAny _ _ (subscriptTail _ _ (Value.ref _) (Value.int _ _)) _ _ _); k_dflt (refine' item_bead ?l ?i ?B ?n ?_ ?s ?g; (case l => is_list); (case i => assumption); (case B => assumption); (case n => assumption); (case s => with_unfolding_all rfl); (case g => (intro _; with_unfolding_all rfl)); intro b8 t8 e8 c8; (rcases c8 with c8 | c8 | c8 <;> subst c8)))
  k_with "subscriptTail List Subscript ref int" => (k_here; (with_reducible show wpAny _ _ (subscriptTail _ _ (Value.ref _) (Value.int _ _)) _ _ _); k_dflt (refine' item_new ?k1 ?k2 ?k3 ?k4 ?k5 ?_ ?k6 ?k7; (case k1 => k_asm); (case k2 => k_mem); (case k3 => decide); (case k4 => decide); (case k5 => exact rfl); (case k6 => with_unfolding_all rfl); (case k7 => (intro _; with_unfolding_all rfl))))
  k_with "subscriptTail List Name ref int" => (k_here; (with_reducible show wpAny _ _ (subscriptTail _ _ (Value.ref _) (Value.int _ _)) _ _ _); k_dflt (refine' item_new ?k1 ?k2 ?k3 ?k4 ?k5 ?_ ?k6 ?k7; (case k1 => k_asm); (case k2 => k_mem); (case k3 => decide); (case k4 => decide); (case k5 => exact rfl); (case k6 => with_unfolding_all rfl); (case k7 => (intro _; with_unfolding_all rfl))))
  k_with "call builtin:str.join" => (k_here; (with_reducible show wpAny _ _ (call (Value.builtin "str.join") [Value.str _ _, Value.ref _]) _ _ _); k_dflt (refine' join_rows ?e ?l ?i ?n ?_; (case e => with_unfolding_all rfl); (case l => is_list); (case i => assumption); (case n => first | exact Nat.le_trans (rows_flat (by assumption)) (by decide) | exact Nat.le_trans (sent_flat (by assumption)) (by decide)); intro t6 k6; (try dsimp only)))
  k_with "storeName" => (k_here; k_dflt (refine' store_cell ?c ?m ?d ?U ?F ?N ?_ ?a ?b; (case a => rfl); (case b => rfl); (case c => rfl); (case F => k_asm); (case N => k_asm); (case m => k_mem); (case d => k_asm); (case U => (first | (refine UpdN.head ?_; (repeat (first | exact List.forall_mem_nil _ | (refine List.forall_mem_cons.mpr ⟨Or.inr (by (try dsimp only); omega), ?_⟩)))) | (refine' UpdN.tail ?q ?b3; (case q => first | (exact Or.inl (by intro v e; cases e)) | (exact Or.inr (by (try dsimp only); omega))); (case b3 => (first | (refine UpdN.head ?_; (repeat (first | exact List.forall_mem_nil _ | (refine List.forall_mem_cons.mpr ⟨Or.inr (by (try dsimp only); omega), ?_⟩)))) | (refine' UpdN.tail ?q ?b3; (case q => first | (exact Or.inl (by intro v e; cases e)) | (exact Or.inr (by (try dsimp only); omega))); (case b3 => (first | (refine UpdN.head ?_; (repeat (first | exact List.forall_mem_nil _ | (refine List.forall_mem_cons.mpr ⟨Or.inr (by (try dsimp only); omega), ?_⟩)))) | (refine' UpdN.tail ?q ?b3; (case q => first | (exact Or.inl (by intro v e; cases e)) | (exact Or.inr (by (try dsimp only); omega))); (case b3 => (first | (refine UpdN.head ?_; (repeat (first | exact List.forall_mem_nil _ | (refine List.forall_mem_cons.mpr ⟨Or.inr (by (try dsimp only); omega), ?_⟩)))) | (refine' UpdN.tail ?q ?b3; (case q => first | (exact Or.inl (by intro v e; cases e)) | (exact Or.inr (by (try dsimp only); omega))); (case b3 => (first | (refine UpdN.head ?_; (repeat (first | exact List.forall_mem_nil _ | (refine List.forall_mem_cons.mpr ⟨Or.inr (by (try dsimp only); omega), ?_⟩)))) | (refine' UpdN.tail ?q ?b3; (case q => first | (exact Or.inl (by intro v e; cases e)) | (exact Or.inr (by (try dsimp only); omega))); (case b3 => (first | (refine UpdN.head ?_; (repeat (first | exact List.forall_mem_nil _ | (refine List.forall_mem_cons.mpr ⟨Or.inr (by (try dsimp only); omega), ?_⟩)))) | (refine' UpdN.tail ?q ?b3; (case q => first | (exact Or.inl (by intro v e; cases e)) | (exact Or.inr (by (try dsimp only); omega))); (case b3 => (first | (refine UpdN.head ?_; (repeat (first | exact List.forall_mem_nil _ | (refine List.forall_mem_cons.mpr ⟨Or.inr (by (try dsimp only); omega), ?_⟩)))) | (refine' UpdN.tail ?q ?b3; (case q => first | (exact Or.inl (by intro v e; cases e)) | (exact Or.inr (by (try dsimp only); omega))); (case b3 => (first | (refine UpdN.head ?_; (repeat (first | exact List.forall_mem_nil _ | (refine List.forall_mem_cons.mpr ⟨Or.inr (by (try dsimp only); omega), ?_⟩)))) | (refine' UpdN.tail ?q ?b3; (case q => first | (exact Or.inl (by intro v e; cases e)) | (exact Or.inr (by (try dsimp only); omega))); (case b3 => (first | (refine UpdN.head ?_; (repeat (first | exact List.forall_mem_nil _ | (refine List.forall_mem_cons.mpr ⟨Or.inr (by (try dsimp only); omega), ?_⟩)))) | (refine' UpdN.tail ?q ?b3; (case q => first | (exact Or.inl (by intro v e; cases e)) | (exact Or.inr (by (try dsimp only); omega))); (case b3 => (first | (refine UpdN.head ?_; (repeat (first | exact List.forall_mem_nil _ | (refine List.forall_mem_cons.mpr ⟨Or.inr (by (try dsimp only); omega), ?_⟩)))) | (refine' UpdN.tail ?q ?b3; (case q => first | (exact Or.inl (by intro v e; cases e)) | (exact Or.inr (by (try dsimp only); omega))); (case b3 => (first | (refine UpdN.head ?_; (repeat (first | exact List.forall_mem_nil _ | (refine List.forall_mem_cons.mpr ⟨Or.inr (by (try dsimp only); omega), ?_⟩)))) | (refine' UpdN.tail ?q ?b3; (case q => first | (exact Or.inl (by intro v e; cases e)) | (exact Or.inr (by (try dsimp only); omega))); (case b3 => (first | (refine UpdN.head ?_; (repeat (first | exact List.forall_mem_nil _ | (refine List.forall_mem_cons.mpr ⟨Or.inr (by (try dsimp only); omega), ?_⟩)))) | (refine' UpdN.tail ?q ?b3; (case q => first | (exact Or.inl (by intro v e; cases e)) | (exact Or.inr (by (try dsimp only); omega))); (case b3 => (first | (refine UpdN.head ?_; (repeat (first | exact List.forall_mem_nil _ | (refine List.forall_mem_cons.mpr ⟨Or.inr (by (try dsimp only); omega), ?_⟩)))) | (refine' UpdN.tail ?q ?b3; (case q => first | (exact Or.inl (by intro v e; cases e)) | (exact Or.inr (by (try dsimp only); omega))); (case b3 => (first | (refine UpdN.head ?_; (repeat (first | exact List.forall_mem_nil _ | (refine List.forall_mem_cons.mpr ⟨Or.inr (by (try dsimp only); omega), ?_⟩)))) | (refine' UpdN.tail ?q ?b3; (case q => first | (exact Or.inl (by intro v e; cases e)) | (exact Or.inr (by (try dsimp only); omega))); (case b3 => (first | (refine UpdN.head ?_; (repeat (first | exact List.forall_mem_nil _ | (refine List.forall_mem_cons.mpr ⟨Or.inr (by (try dsimp only); omega), ?_⟩)))) | (refine' UpdN.tail ?q ?b3; (case q => first | (exact Or.inl (by intro v e; cases e)) | (exact Or.inr (by (try dsimp only); omega))); (case b3 => (first | (refine UpdN.head ?_; (repeat (first | exact List.forall_mem_nil _ | (refine List.forall_mem_cons.mpr ⟨Or.inr (by (try dsimp only); omega), ?_⟩)))) | (refine' UpdN.tail ?q ?b3; (case q => first | (exact Or.inl (by intro v e; cases e)) | (exact Or.inr (by (try dsimp only); omega))); (case b3 => (refine UpdN.head ?_; (repeat (first | exact List.forall_mem_nil _ | (refine List.forall_mem_cons.mpr ⟨Or.inr (by (try dsimp only); omega), ?_⟩))))))))))))))))))))))))))))))))))))))))))))))))))))); k_whole; intro h' o' F' N' d'; (try dsimp only at N'); (try k_sweep)))
  k_with "eval ListComp" => (k_here; refine stopHere ?_)
  k_with "exec Assign cons ListComp" => (k_here; (with_reducible show wpAny _ _ (exec (Stmt.Assign [Expr.Name (Str.ofString "rows") _] _ _) _) _ _ _); refine stopHere ?_)
  k_with "exec Assign cons ListComp" => (k_here; (with_reducible show wpAny _ _ (exec (Stmt.Assign [Expr.Name (Str.ofString "twice") _] _ _) _) _ _ _); refine stopHere ?_)
  k_with "CompSrc" => (k_here; refine stopHere ?_)
  k_with "subscriptTail Name Slice ref ref" => (k_here; refine stopHere ?_)
  k_with "storeName" => (k_here; refine stopHere ?_)
  k_with "binaryOp Add ref ref" => (k_here; refine stopHere ?_)
  trivial
theorem turn_mine (w : World) (mean : ExcName → Option Value) (mg mb : Str → Option Value) (h₀ base : Heap) (Z : Here w mean mg mb h₀ base) (fa : Addr) (cd : Value) (L b9 : Addr) (ws : List Value) (bs : List Int) (n : Nat) (hI : IntsAre ws bs) (hlen : bs.length = 10) (a d : Int) (ta td : Tok) (pa : 0 ≤ a) (pa' : a ≤ 4) (pd : 1 ≤ d) (pd' : d ≤ 5) (s : Shared) (u : Str → Option Value) (keep : List (Addr × Obj)) (o1 o5 : Obj) (v5 : Option Value)
   (d1 : o1.data = .cell (some (.ref b9))) (d5 : o5.data = .cell v5) (F : Fr h₀ L s.heap (fun z => if z = Str.ofString "d" then some (.int d td) else if z = Str.ofString "a" then some (.int a ta) else u z))
   (N : News h₀ L s.heap ((b9, listOf ws.toArray n) :: (L + 1, o1) :: (L + 1 + 1 + 1 + 1 + 1, o5) :: keep)) (hk : ∀ p ∈ keep, Apt (L + 1 + 1 + 1 + 1 + 1) p) (Q : Flow → Shared → Prop) (E : Value → Shared → Prop)
   (next : ∀ am ms nm o5' h' tk, s.toks ≤ tk → IntsAre ms ((bs.drop a.toNat).take d.toNat ++ bs.drop (5 + d.toNat)) → o5'.data = .cell (some (.ref am)) → Fr h₀ L h' (fun z => if z = Str.ofString "d" then some (.int d td) else if z = Str.ofString "a" then some (.int a ta) else u z) → News h₀ L h' ((am, listOf (List.toArray ms) nm) :: (b9, listOf ws.toArray n) :: (L + 1, o1) :: (L + 1 + 1 + 1 + 1 + 1, o5') :: keep) → TurnGo 1 w L fa cd Q E { s with heap := h', toks := tk }) :
   TurnGo 0 w L fa cd Q E s := by
  obtain ⟨B, X, T, XB, TB⟩ := Z
  refine turn_row (by unfold turnBody aBody lawRec recOf; rfl) ?_
  unfold lawEnv lawRec recOf
  dsimp only
  revert X
  k_fill
  intro X
  k_steps
  unfold Stop
  refine ints_cut (x := a) (y := a + d) F N (of_mem N (.head _)) hI (by omega) (by kmk_part) (by kmk_part) pa (by omega) ?_ (by with_unfolding_all rfl) (by kmk_pure)
  intro D1 w1 h1 F1 N1 I1
  k_steps
  unfold Stop
  refine ints_from (x := 5 + d) F1 N1 (of_mem N1 (.tail _ (.head _))) hI (by omega) (by kmk_part) (by kmk_part) (by omega) ?_ (by with_unfolding_all rfl) (by kmk_pure)
  intro D2 w2 h2 F2 N2 I2
  k_steps
  unfold Stop
  refine kmk_add_ints F2 N2 (of_mem N2 (.tail _ (.head _))) (of_mem N2 (.head _)) I1 I2 ?_ ?_
  · intro D3 w3 h3 F3 N3 _ I3
    k_steps
    unfold Stop
    refine store_cell (c := L + 1 + 1 + 1 + 1 + 1) (o := o5) rfl (.tail _ (.tail _ (.tail _ (.tail _ (.tail _ (.head _)))))) d5 (.tail (.inl (by intro v e; cases e)) (.tail (.inl (by intro v e; cases e)) (.tail (.inl (by intro v e; cases e)) (.tail (.inl (by intro v e; cases e)) (.tail (.inr (by show @Ne Nat (L + 1) (L + 1 + 1 + 1 + 1 + 1); omega)) (.head hk)))))) F3 N3 ?_ rfl rfl
    intro h4 o5' F4 N4 d5'
    have e1 : (a + d - a).toNat = d.toNat := by omega
    have e2 : (5 + d).toNat = 5 + d.toNat := by omega
    rw [e1, e2] at I3
    refine fun hk => next D3 w3 0 o5' h4 _ hk I3 d5' F4 ?_
    intro p hp
    rcases List.mem_cons.mp hp with rfl | hp
    · exact N4 _ (.head _)
    · exact N4 _ (.tail _ (.tail _ (.tail _ hp)))
  · have := ints_len I1
    have := ints_len I2
    simp only [List.length_take, List.length_drop, sizeLine_eq]
    omega
end Mine

end
-- L21
section
open PySem PySem.W PyProof.Rows PySem.Calls
set_option maxRecDepth 100000
set_option maxHeartbeats 8000000
namespace Mine
theorem fresh_L21 : True := by
  w_top off
  k_with_none
  k_with "omega" => lia
  trivial
theorem rows_L21_1 : True := by
  k_with "call ref" => (k_here; (with_reducible show wpAny _ _ (call (Value.ref 76) [Value.ref _]) _ _ _); k_dflt (refine' claim_use (c_neck _ _ _ _ _ _ _ ?hi ?hn) ?k1 ?k2 ?k3 ?k4 ?k5 ?kK ?kp ?kd ?ku ?_; (case hi => assumption); (case hn => assumption); (case k1 => k_asm); (case k2 => k_asm); (case k3 => k_asm); (case k4 => k_asm); (case k5 => k_asm); (case kK => first | exact rfl | assumption); (case kp => is_list); (case kd => ktr_room); (case ku => ktr_units); intro r9 tl9 h9 tk9 g9 F9 N9 K9 l9 G9 R9; obtain ⟨a9, ws9, bs9, n9, e9, e9', i9, b9⟩ := R9; subst e9; subst e9'; clear l9 K9; simp only [List.cons_append, List.nil_append] at N9; (try dsimp only)))
  k_with "CompEnd" => (k_dflt (refine' LCg.CompEnd.intro ?F ?N _ ?sub ?off ?src (And.intro rfl ?J); (case F => k_asm); (case N => k_asm); (case sub => lcg_sub); (case off => assumption); (case src => lcg_src); (case J => first | exact rows_snoc _ (by assumption) (by assumption) (by first | exact row_red _ | exact row_green _ | exact row_blue _) | exact sent_snoc _ (by assumption) (by assumption) (by first | exact sent_red _ | exact sent_green _ | exact sent_blue _) | exact count_snoc (by assumption) rfl)))
  k_with "subscriptTail Name Name ref int" => (k_here; (with_reducible show wpAny _ _ (subscriptTail _ _ (Value.ref _) (Value.int _ _)) _ _ _); k_dflt (refine' item_bead ?l ?i ?B ?n ?_ ?s ?g; (case l => is_list); (case i => assumption); (case B => assumption); (case n => assumption); (case s => with_unfolding_all rfl); (case g => (intro _; with_unfolding_all rfl)); intro b8 t8 e8 c8; (rcases c8 with c8 | c8 | c8 <;> subst c8)))
  k_with "subscriptTail List Subscript ref int" => (k_here; (with_reducible show wpAny _ _ (subscriptTail _ _ (Value.ref _) (Value.int _ _)) _ _ _); k_dflt (refine' item_new ?k1 ?k2 ?k3 ?k4 ?k5 ?_ ?k6 ?k7; (case k1 => k_asm); (case k2 => k_mem); (case k3 => decide); (case k4 => decide); (case k5 => exact rfl); (case k6 => with_unfolding_all rfl); (case k7 => (intro _; with_unfolding_all rfl))))
  k_with "subscriptTail List Name ref int" => (k_here; (with_reducible show wpAny _ _ (subscriptTail _ _ (Value.ref _) (Value.int _ _)) _ _ _); k_dflt (refine' item_new ?k1 ?k2 ?k3 ?k4 ?k5 ?_ ?k6 ?k7; (case k1 => k_asm); (case k2 => k_mem); (case k3 => decide); (case k4 => decide); (case k5 => exact rfl); (case k6 => with_unfolding_all rfl); (case k7 => (intro _; with_unfolding_all rfl))))
  k_with "call builtin:str.join" => (k_here; (with_reducible show wpAny _ _ (call (Value.builtin "str.join") [Value.str _ _, Value.ref _]) _ _ _); k_dflt (refine' join_rows ?e ?l ?i ?n ?_; (case e => with_unfolding_all rfl); (case l => is_list); (case i => assumption); (case n => first | exact Nat.le_trans (rows_flat (by assumption)) (by decide) | exact Nat.le_trans (sent_flat (by assumption)) (by decide)); intro t6 k6; (try dsimp only)))
  k_with "storeName" => (k_here; k_dflt (refine' store_cell ?c ?m ?d ?U ?F ?N ?_ ?a ?b; (case a => rfl); (case b => rfl); (case c => rfl); (case F => k_asm); (case N => k_asm); (case m => k_mem); (case d => k_asm); (case U => (first | (refine UpdN.head ?_; (repeat (first | exact List.forall_mem_nil _ | (refine List.forall_mem_cons.mpr ⟨Or.inr (by (try dsimp only); omega), ?_⟩)))) | (refine' UpdN.tail ?q ?b3; (case q => first | (exact Or.inl (by intro v e; cases e)) | (exact Or.inr (by (try dsimp only); omega))); (case b3 => (first | (refine UpdN.head ?_; (repeat (first | exact List.forall_mem_nil _ | (refine List.forall_mem_cons.mpr ⟨Or.inr (by (try dsimp only); omega), ?_⟩)))) | (refine' UpdN.tail ?q ?b3; (case q => first | (exact Or.inl (by intro v e; cases e)) | (exact Or.inr (by (try dsimp only); omega))); (case b3 => (first | (refine UpdN.head ?_; (repeat (first | exact List.forall_mem_nil _ | (refine List.forall_mem_cons.mpr ⟨Or.inr (by (try dsimp only); omega), ?_⟩)))) | (refine' UpdN.tail ?q ?b3; (case q => first | (exact Or.inl (by intro v e; cases e)) | (exact Or.inr (by (try dsimp only); omega))); (case b3 => (first | (refine UpdN.head ?_; (repeat (first | exact List.forall_mem_nil _ | (refine List.forall_mem_cons.mpr ⟨Or.inr (by (try dsimp only); omega), ?_⟩)))) | (refine' UpdN.tail ?q ?b3; (case q => first | (exact Or.inl (by intro v e; cases e)) | (exact Or.inr (by (try dsimp only); omega))); (case b3 => (first | (refine UpdN.head ?_; (repeat (first | exact List.forall_mem_nil _ | (refine List.forall_mem_cons.mpr ⟨Or.inr (by (try dsimp only); omega), ?_⟩)))) | (refine' UpdN.tail ?q ?b3; (case q => first | (exact Or.inl (by intro v e; cases e)) | (exact Or.inr (by (try dsimp only); omega))); (case b3 => (first | (refine UpdN.head ?_; (repeat (first | exact List.forall_mem_nil _ | (refine List.forall_mem_cons.mpr ⟨Or.inr (by (try dsimp only); omega), ?_⟩)))) | (refine' UpdN.tail ?q ?b3; (case q => first | (exact Or.inl (by intro v e; cases e)) | (exact Or.inr (by (try dsimp only); omega))); (case b3 => (first | (refine UpdN.head ?_; (repeat (first | exact List.forall_mem_nil _ | (refine List.forall_mem_cons.mpr ⟨Or.inr (by (try dsimp only); omega), ?_⟩)))) | (refine' UpdN.tail ?q ?b3; (case q => first | (exact Or.inl (by intro v e; cases e)) | (exact Or.inr (by (try dsimp only); omega))); (case b3 => (first | (refine UpdN.head ?_; (repeat (first | exact List.forall_mem_nil _ | (refine List.forall_mem_cons.mpr ⟨Or.inr (by (try dsimp only); omega), ?_⟩)))) | (refine' UpdN.tail ?q ?b3; (case q => first | (exact Or.inl (by intro v e; cases e)) | (exact Or.inr (by (try dsimp only); omega))); (case b3 => (first | (refine UpdN.head ?_; (repeat (first | exact List.forall_mem_nil _ | (refine List.forall_mem_cons.mpr ⟨Or.inr (by (try dsimp only); omega), ?_⟩)))) | (refine' UpdN.tail ?q ?b3; (case q => first | (exact Or.inl (by intro v e; cases e)) | (exact Or.inr (by (try dsimp only); omega))); (case b3 => (first | (refine UpdN.head ?_; (repeat (first | exact List.forall_mem_nil _ | (refine List.forall_mem_cons.mpr ⟨Or.inr (by (try dsimp only); omega), ?_⟩)))) | (refine' UpdN.tail ?q ?b3; (case q => first | (exact Or.inl (by intro v e; cases e)) | (exact Or.inr (by (try dsimp only); omega))); (case b3 => (first | (refine UpdN.head ?_; (repeat (first | exact List.forall_mem_nil _ | (refine List.forall_mem_cons.mpr ⟨Or.inr (by (try dsimp only); omega), ?_⟩)))) | (refine' UpdN.tail ?q ?b3; (case q => first | (exact Or.inl (by intro v e; cases e)) | (exact Or.inr (by (try dsimp only); omega))); (case b3 => (first | (refine UpdN.head ?_; (repeat (first | exact List.forall_mem_nil _ | (refine List.forall_mem_cons.mpr ⟨Or.inr (by (try dsimp only); omega), ?_⟩)))) | (refine' UpdN.tail ?q ?b3; (case q => first | (exact Or.inl (by intro v e; cases e)) | (exact Or.inr (by (try dsimp only); omega))); (case b3 => (first | (refine UpdN.head ?_; (repeat (first | exact List.forall_mem_nil _ | (refine List.forall_mem_cons.mpr ⟨Or.inr (by (try dsimp only); omega), ?_⟩)))) | (refine' UpdN.tail ?q ?b3; (case q => first | (exact Or.inl (by intro v e; cases e)) | (exact Or.inr (by (try dsimp only); omega))); (case b3 => (first | (refine UpdN.head ?_; (repeat (first | exact List.forall_mem_nil _ | (refine List.forall_mem_cons.mpr ⟨Or.inr (by (try dsimp only); omega), ?_⟩)))) | (refine' UpdN.tail ?q ?b3; (case q => first | (exact Or.inl (by intro v e; cases e)) | (exact Or.inr (by (try dsimp only); omega))); (case b3 => (first | (refine UpdN.head ?_; (repeat (first | exact List.forall_mem_nil _ | (refine List.forall_mem_cons.mpr ⟨Or.inr (by (try dsimp only); omega), ?_⟩)))) | (refine' UpdN.tail ?q ?b3; (case q => first | (exact Or.inl (by intro v e; cases e)) | (exact Or.inr (by (try dsimp only); omega))); (case b3 => (first | (refine UpdN.head ?_; (repeat (first | exact List.forall_mem_nil _ | (refine List.forall_mem_cons.mpr ⟨Or.inr (by (try dsimp only); omega), ?_⟩)))) | (refine' UpdN.tail ?q ?b3; (case q => first | (exact Or.inl (by intro v e; cases e)) | (exact Or.inr (by (try dsimp only); omega))); (case b3 => (refine UpdN.head ?_; (repeat (first | exact List.forall_mem_nil _ | (refine List.forall_mem_cons.mpr ⟨Or.inr (by (try dsimp only); omega), ?_⟩))))))))))))))))))))))))))))))))))))))))))))))))))))); k_whole; intro h' o' F' N' d'; (try dsimp only at N'); (try k_sweep)))
  k_with "eval ListComp" => (k_here; refine stopHere ?_)
  k_with "exec Assign cons ListComp" => (k_here; (with_reducible show wpAny _ _ (exec (Stmt.Assign [Expr.Name (Str.ofString "rows") _] _ _) _) _ _ _); refine stopHere ?_)
  k_with "exec Assign cons ListComp" => (k_here; (with_reducible show wpAny _ _ (exec (Stmt.Assign [Expr.Name (Str.ofString "twice") _] _ _) _) _ _ _); refine stopHere ?_)
  k_with "CompSrc" => (k_here; refine stopHere ?_)
  trivial
def TwiceP (ms : List Int) (i : Nat) (ys : List Value) : Prop := IntsAre ys ((List.range i).map fun k => 2 * ((ms.count ((k : Nat) : Int) : Nat) : Int))
theorem turn_twice (w : World) (mean : ExcName → Option Value) (mg mb : Str → Option Value) (h₀ base : Heap) (Z : Here w mean mg mb h₀ base) (fa : Addr) (cd : Value) (L am : Addr) (zs : List Value) (ms : List Int) (nm : Nat) (hI : IntsAre zs ms) (s : Shared) (u : Str → Option Value) (keep : List (Addr × Obj)) (o5 : Obj)
   (d5 : o5.data = .cell (some (.ref am))) (F : Fr h₀ L s.heap u)
   (N : News h₀ L s.heap ((am, listOf zs.toArray nm) :: (L + 1 + 1 + 1 + 1 + 1, o5) :: keep)) (Q : Flow → Shared → Prop) (E : Value → Shared → Prop)
   (next : ∀ tw t1 t2 t3 h' tk, s.toks ≤ tk → Fr h₀ L h' (fun z => if z = Str.ofString "twice" then some (.ref tw) else u z) → News h₀ L h' ((tw, LCg.lst [.int (2 * ((ms.count 0 : Nat) : Int)) t1, .int (2 * ((ms.count 1 : Nat) : Int)) t2, .int (2 * ((ms.count 2 : Nat) : Int)) t3]) :: (am, listOf zs.toArray nm) :: (L + 1 + 1 + 1 + 1 + 1, o5) :: keep) → TurnGo 2 w L fa cd Q E { s with heap := h', toks := tk }) :
   TurnGo 1 w L fa cd Q E s := by
  obtain ⟨B, X, T, XB, TB⟩ := Z
  refine turn_row (by unfold turnBody aBody lawRec recOf; rfl) ?_
  unfold lawEnv lawRec recOf
  dsimp only
  revert X
  k_fill
  intro X
  k_steps
  unfold Stop
  refine LCg.Assign_ListComp_U (F₀ := by k_asm) (by rfl) (by with_unfolding_all rfl) (by with_unfolding_all rfl) (by decide) (by rfl) (by decide) (by rfl) (by rfl) (by rfl) ?_
  k_dflt lcg_toSrc
  unfold Stop
  refine LCg.CompSrc.range (n := 3) (by rfl) (by k_asm) (by k_asm) (by assumption) (by first | decide | rfl) (by first | rfl | decide) (by first | size_fits | exact Nat.le_of_ble_eq_true rfl) ?_
  intro g7
  refine comp_inv (KeepJ _ (TwiceP ms)) ?turn ?fin 3 0 [] _ rfl ⟨rfl, IntsAre.nil⟩
  case fin =>
    rintro ys7 news7 ⟨rfl, hP7⟩
    obtain ⟨t71, t72, t73, rfl⟩ := ints3 (show IntsAre ys7 [2 * ((ms.count 0 : Nat) : Int), 2 * ((ms.count 1 : Nat) : Int), 2 * ((ms.count 2 : Nat) : Int)] from hP7)
    unfold LCg.FinA
    intro D' h' tk' F' N' _
    exact fun hk => next D' t71 t72 t73 h' tk' hk F' N'
  case turn =>
    rintro i7 ys7 news7 hi7 ⟨rfl, hP7⟩ v7 I7 oI7 C7 oC7 D7 m7 h7 tk7 E7 ⟨t7, rfl⟩ hC7 hx7 F7 N7 off7
    k_steps
    refine LCg.CompEnd.intro F7 N7 _ (fun p hp => hp) off7 trivial ⟨rfl, ?_⟩
    unfold TwiceP at *
    rw [List.range_succ, List.map_append]
    rw [Int.zero_add]
    exact ints_snoc hP7 _ _
end Mine

end
-- SA
section
open PySem PySem.W PyProof.Rows PySem.Calls
set_option maxRecDepth 100000
set_option maxHeartbeats 8000000
namespace Mine
theorem fresh_SA : True := by
  w_top off
  k_with_none
  k_with "omega" => lia
  trivial
theorem rows_SA_1 : True := by
  k_with "cell_enter" => (refine' code_defCR ?k1 ?k2 ?k3 ?k5 ?kA ?kF ?kK ?k6 ?k7 ?k8 ?k9 ?kB ?kD ?_ ?c2 ?c3 ?c4; (case kA => exact rfl); (case kF => exact rfl); (case kK => assumption); (case k1 => k_asm); (case k2 => k_asm); (case k3 => k_asm); (case k5 => k_asm); (case k6 => k_is); (case k7 => k_is); (case k8 => ktr_room); (case k9 => exact BindsTo.of_eq rfl); (case kB => exact rfl); (case kD => decide +kernel); (case c2 => exact rfl); (case c3 => exact rfl); (case c4 => exact rfl); k_whole; intro L' h' tk' cells' F' N' Y' B' X' T'; k_cells Y'; (try simp only [List.cons_append, List.nil_append] at N'); (try dsimp only); (try k_fold))
  k_with "compareOp Eq int int" => (k_here; first | (refine' cmp_yes ?e ?_; (case e => omega); k_whole) | (refine' cmp_no ?e ?_; (case e => omega); k_whole))
  k_with "call type:int" => (k_here; (with_reducible show wpAny _ _ (call (Value.type "int") [Value.bool _]) _ _ _); (refine' int_bool ?_); (intro t9 k9); (try dsimp only [Bool.false_eq_true, if_false, if_true]); (try simp only [Bool.false_eq_true, if_false, if_true]))
  k_with "call ref" => (k_here; (with_reducible show wpAny _ _ (call (Value.ref 90) [Value.ref _, Value.ref _]) _ _ _); k_dflt (refine' claim_use (c_cutI _ _ _ _ _ _ _ ?hi _ _ ?hx ?hr ?hn ?hp ?hv) ?k1 ?k2 ?k3 ?k4 ?k5 ?kK ?kp ?kd ?ku ?_; (case hx => assumption); (case hr => assumption); (case hn => omega); (case k1 => k_asm); (case k2 => k_asm); (case k3 => k_asm); (case k4 => k_asm); (case k5 => k_asm); (case kK => first | exact rfl | assumption); (case kp => exact ⟨by is_list, by is_list⟩); (case hi => (repeat (refine IntsAre.cons _ _ ?_)); exact IntsAre.nil); (case hp => simp only [intsOf]; (repeat (first | rw [pre_cons (by omega) (by omega)] | rw [pre_zero] | rw [pre_stop] | rw [pre_nil])); simp); (case hv => simp only [intsOf]; (repeat (first | rw [pre_cons (by omega) (by omega)] | rw [pre_zero] | rw [pre_stop] | rw [pre_nil])); (intro x9 h9x; simp only [List.mem_cons, List.not_mem_nil, or_false] at h9x; omega)); (case kd => ktr_room); (case ku => ktr_units); intro r9 tl9 h9 tk9 g9 F9 N9 K9 l9 G9 R9; have Z9 := cut34_of R9 (cut_three (by simp only [intsOf]; (repeat (first | rw [pre_cons (by omega) (by omega)] | rw [pre_zero] | rw [pre_stop] | rw [pre_nil]))) (by simp [intsOf]) (by assumption) (by omega) (by omega) (by omega) (by omega)); clear R9; obtain ⟨ta9, lt9, lx9, t90, t91, t92, u90, u91, u92, u93, n19, n29, n39⟩ := Z9; have l91 := apartN_of (l9 _ (.head _)); have l92 := apartN_of (l9 _ (.tail _ (.head _))); have l93 := apartN_of (l9 _ (.tail _ (.tail _ (.head _)))); clear l9; (simp only [ApartN, and_true] at l91 l92 l93); simp only [List.cons_append, List.nil_append] at N9; (try dsimp only)))
  k_with "CompSrcT" => (k_here; k_dflt (first | (refine LCt.CompSrcT.range (n := 4) (by rfl) (by k_asm) (by k_asm) (by assumption) (by first | decide | rfl) (by first | rfl | decide) (by first | size_fits | exact Nat.le_of_ble_eq_true rfl) ?_; intro g') | (refine LCt.CompSrcT.range (n := 5) (by rfl) (by k_asm) (by k_asm) (by assumption) (by first | decide | rfl) (by first | rfl | decide) (by first | size_fits | exact Nat.le_of_ble_eq_true rfl) ?_; intro g') | (refine LCt.CompSrcT.range (n := 3) (by rfl) (by k_asm) (by k_asm) (by assumption) (by first | decide | rfl) (by first | rfl | decide) (by first | size_fits | exact Nat.le_of_ble_eq_true rfl) ?_; intro g')))
  k_with "eval ListComp" => (k_here; (rename News _ _ _ _ => N7); (first | (have N8 := shrinkT N7 rfl) | (have N8 := shrink N7 rfl)); clear N7; k_dflt (refine LCt.ListComp_T (F₀ := by k_asm) (by with_unfolding_all rfl) (by decide) (by rfl) (by decide) (by rfl) ?_); k_dflt lct_toSrc)
  k_with "subscriptTail Name Name ref int" => (k_here; (with_reducible show wpAny _ _ (subscriptTail _ _ (Value.ref _) (Value.int _ _)) _ _ _); k_dflt (refine' item_new ?k1 ?k2 ?k3 ?k4 ?k5 ?_ ?k6 ?k7; (case k1 => k_asm); (case k2 => k_mem); (case k3 => decide); (case k4 => decide); (case k5 => exact rfl); (case k6 => with_unfolding_all rfl); (case k7 => (intro _; with_unfolding_all rfl))))
  k_with "call builtin:str.join" => (k_here; (with_reducible show wpAny _ _ (call (Value.builtin "str.join") [Value.str _ _, Value.ref _]) _ _ _); k_dflt (first | (refine' join_two ?e ?l ?v ?p ?n ?q ?m ?_; (case e => with_unfolding_all rfl); (case l => is_list); (case v => exact rfl); (case p => (first | assumption | exact rows_take (by assumption) | exact rows_drop (by assumption) | exact rows_take (rows_drop (by assumption)) | exact (fun _ h => nomatch h))); (case n => (simp only [List.length_take, List.length_drop, List.length_nil]; omega)); (case q => (first | assumption | exact rows_take (by assumption) | exact rows_drop (by assumption) | exact rows_take (rows_drop (by assumption)) | exact (fun _ h => nomatch h))); (case m => (simp only [List.length_take, List.length_drop, List.length_nil]; omega)); intro t9 k9; (try dsimp only)) | (refine' join_one ?e1 ?l1 ?v1 ?p1 ?n1 ?_; (case e1 => with_unfolding_all rfl); (case l1 => is_list); (case v1 => exact rfl); (case p1 => (first | assumption | exact rows_take (by assumption) | exact rows_drop (by assumption) | exact rows_take (rows_drop (by assumption)) | exact (fun _ h => nomatch h))); (case n1 => (simp only [List.length_take, List.length_drop, List.length_nil]; omega)); intro t9 k9; (try dsimp only))))
  k_with "call ref" => (k_here; (with_reducible show wpAny _ _ (call (Value.ref 83) [Value.ref _]) _ _ _); k_dflt (refine' claimT_use (c_refused _ _ _ _ _ _ _) ?k1 ?k2 ?k3 ?k4 ?k5 ?k6 ?k7 ?kK ?kp ?kd ?ku ?_; (case k1 => k_asm); (case k2 => k_asm); (case k3 => k_asm); (case k4 => k_asm); (case k5 => k_asm); (case k6 => assumption); (case k7 => assumption); (case kK => first | exact rfl | assumption); (case kp => is_list); (case kd => ktr_room); (case ku => ktr_units); intro r8 tl8 h8 tk8 g8 gr8 T8 F8 N8 B8 X8 TT8 l8 G8 R8; obtain ⟨e8, e8'⟩ := R8; subst e8; subst e8'; clear l8; simp only [List.nil_append] at N8; have hl8 := list_turn T8 (by assumption); (try dsimp only)))
  trivial
theorem c_shareA (w : World) (mean : ExcName → Option Value) (mg mb : Str → Option Value) (l : Addr) (ws : List Value) (rs : List Row) (hx : StrsAre ws (rs.map rowS)) (hr : ∀ r ∈ rs, rowK r) (hrl : rs.length = 10) (a d : Int) (ta td : Tok) (ha : 1 ≤ a) (ha' : a ≤ 4) (hd : 1 ≤ d) (hd' : d ≤ 4) (hne : a ≠ d) :
   ClaimT w mean mg mb 95 30 [.ref l, .int a ta, .int d td] (fun h => h.IsList l ws.toArray) (ShareR rs a.toNat d.toNat) := by
  unfold ClaimT
  k_fill
  intro dp un gd cn cs ad ccd cl outer A₀ base h₀ L m s Q E B F X T XB TB hk hl hd1 hu hret
  refine wpAny_call ?_
  k_dflt cell_enter
  k_steps
  all_goals (rename Fr _ _ _ _ => FF; refine hret _ [] _ _ _ (fun b o z _ => ⟨o.slots, FF.keep _ _ z⟩) (fun b o z _ _ => FF.keep _ _ z) (fun p hp => nomatch hp) (fun z => ?_) (share_of ?_))
  all_goals (first | (rename (leftWithCleanup _ = false → leftWithCleanup _ = false) => GG; exact GG (by assumption)) | skip)
  all_goals (exact mine_two (by omega))
end Mine

end
-- SB
section
open PySem PySem.W PyProof.Rows PySem.Calls
set_option maxRecDepth 100000
set_option maxHeartbeats 8000000
namespace Mine
theorem fresh_SB : True := by
  w_top off
  k_with_none
  k_with "omega" => lia
  trivial
theorem rows_SB_1 : True := by
  k_with "cell_enter" => (refine' code_defCR ?k1 ?k2 ?k3 ?k5 ?kA ?kF ?kK ?k6 ?k7 ?k8 ?k9 ?kB ?kD ?_ ?c2 ?c3 ?c4; (case kA => exact rfl); (case kF => exact rfl); (case kK => assumption); (case k1 => k_asm); (case k2 => k_asm); (case k3 => k_asm); (case k5 => k_asm); (case k6 => k_is); (case k7 => k_is); (case k8 => ktr_room); (case k9 => exact BindsTo.of_eq rfl); (case kB => exact rfl); (case kD => decide +kernel); (case c2 => exact rfl); (case c3 => exact rfl); (case c4 => exact rfl); k_whole; intro L' h' tk' cells' F' N' Y' B' X' T'; k_cells Y'; (try simp only [List.cons_append, List.nil_append] at N'); (try dsimp only); (try k_fold))
  k_with "compareOp Eq int int" => (k_here; first | (refine' cmp_yes ?e ?_; (case e => omega); k_whole) | (refine' cmp_no ?e ?_; (case e => omega); k_whole))
  k_with "call type:int" => (k_here; (with_reducible show wpAny _ _ (call (Value.type "int") [Value.bool _]) _ _ _); (refine' int_bool ?_); (intro t9 k9); (try dsimp only [Bool.false_eq_true, if_false, if_true]); (try simp only [Bool.false_eq_true, if_false, if_true]))
  k_with "call ref" => (k_here; (with_reducible show wpAny _ _ (call (Value.ref 90) [Value.ref _, Value.ref _]) _ _ _); k_dflt (refine' claim_use (c_cutI _ _ _ _ _ _ _ ?hi _ _ ?hx ?hr ?hn ?hp ?hv) ?k1 ?k2 ?k3 ?k4 ?k5 ?kK ?kp ?kd ?ku ?_; (case hx => assumption); (case hr => assumption); (case hn => omega); (case k1 => k_asm); (case k2 => k_asm); (case k3 => k_asm); (case k4 => k_asm); (case k5 => k_asm); (case kK => first | exact rfl | assumption); (case kp => exact ⟨by is_list, by is_list⟩); (case hi => (repeat (refine IntsAre.cons _ _ ?_)); exact IntsAre.nil); (case hp => simp only [intsOf]; (repeat (first | rw [pre_cons (by omega) (by omega)] | rw [pre_zero] | rw [pre_stop] | rw [pre_nil])); simp); (case hv => simp only [intsOf]; (repeat (first | rw [pre_cons (by omega) (by omega)] | rw [pre_zero] | rw [pre_stop] | rw [pre_nil])); (intro x9 h9x; simp only [List.mem_cons, List.not_mem_nil, or_false] at h9x; omega)); (case kd => ktr_room); (case ku => ktr_units); intro r9 tl9 h9 tk9 g9 F9 N9 K9 l9 G9 R9; have Z9 := cut45_of R9 (cut_three_again (by simp only [intsOf]; (repeat (first | rw [pre_cons (by omega) (by omega)] | rw [pre_zero] | rw [pre_stop] | rw [pre_nil]))) (by simp [intsOf]) (by assumption) (by omega) (by omega) (by omega) (by omega)); clear R9; obtain ⟨ta9, lt9, lx9, t90, t91, t92, t93, u90, u91, u92, u93, u94, n19, n29, n39⟩ := Z9; have l91 := apartN_of (l9 _ (.head _)); have l92 := apartN_of (l9 _ (.tail _ (.head _))); have l93 := apartN_of (l9 _ (.tail _ (.tail _ (.head _)))); clear l9; (simp only [ApartN, and_true] at l91 l92 l93); simp only [List.cons_append, List.nil_append] at N9; (try dsimp only)))
  k_with "CompSrcT" => (k_here; k_dflt (first | (refine LCt.CompSrcT.range (n := 4) (by rfl) (by k_asm) (by k_asm) (by assumption) (by first | decide | rfl) (by first | rfl | decide) (by first | size_fits | exact Nat.le_of_ble_eq_true rfl) ?_; intro g') | (refine LCt.CompSrcT.range (n := 5) (by rfl) (by k_asm) (by k_asm) (by assumption) (by first | decide | rfl) (by first | rfl | decide) (by first | size_fits | exact Nat.le_of_ble_eq_true rfl) ?_; intro g') | (refine LCt.CompSrcT.range (n := 3) (by rfl) (by k_asm) (by k_asm) (by assumption) (by first | decide | rfl) (by first | rfl | decide) (by first | size_fits | exact Nat.le_of_ble_eq_true rfl) ?_; intro g')))
  k_with "eval ListComp" => (k_here; (rename News _ _ _ _ => N7); (first | (have N8 := shrinkT N7 rfl) | (have N8 := shrink N7 rfl)); clear N7; k_dflt (refine LCt.ListComp_T (F₀ := by k_asm) (by with_unfolding_all rfl) (by decide) (by rfl) (by decide) (by rfl) ?_); k_dflt lct_toSrc)
  k_with "subscriptTail Name Name ref int" => (k_here; (with_reducible show wpAny _ _ (subscriptTail _ _ (Value.ref _) (Value.int _ _)) _ _ _); k_dflt (refine' item_new ?k1 ?k2 ?k3 ?k4 ?k5 ?_ ?k6 ?k7; (case k1 => k_asm); (case k2 => k_mem); (case k3 => decide); (case k4 => decide); (case k5 => exact rfl); (case k6 => with_unfolding_all rfl); (case k7 => (intro _; with_unfolding_all rfl))))
  k_with "call builtin:str.join" => (k_here; (with_reducible show wpAny _ _ (call (Value.builtin "str.join") [Value.str _ _, Value.ref _]) _ _ _); k_dflt (first | (refine' join_two ?e ?l ?v ?p ?n ?q ?m ?_; (case e => with_unfolding_all rfl); (case l => is_list); (case v => exact rfl); (case p => (first | assumption | exact rows_take (by assumption) | exact rows_drop (by assumption) | exact rows_take (rows_drop (by assumption)) | exact (fun _ h => nomatch h))); (case n => (simp only [List.length_take, List.length_drop, List.length_nil]; omega)); (case q => (first | assumption | exact rows_take (by assumption) | exact rows_drop (by assumption) | exact rows_take (rows_drop (by assumption)) | exact (fun _ h => nomatch h))); (case m => (simp only [List.length_take, List.length_drop, List.length_nil]; omega)); intro t9 k9; (try dsimp only)) | (refine' join_one ?e1 ?l1 ?v1 ?p1 ?n1 ?_; (case e1 => with_unfolding_all rfl); (case l1 => is_list); (case v1 => exact rfl); (case p1 => (first | assumption | exact rows_take (by assumption) | exact rows_drop (by assumption) | exact rows_take (rows_drop (by assumption)) | exact (fun _ h => nomatch h))); (case n1 => (simp only [List.length_take, List.length_drop, List.length_nil]; omega)); intro t9 k9; (try dsimp only))))
  k_with "call ref" => (k_here; (with_reducible show wpAny _ _ (call (Value.ref 83) [Value.ref _]) _ _ _); k_dflt (refine' claimT_use (c_refused _ _ _ _ _ _ _) ?k1 ?k2 ?k3 ?k4 ?k5 ?k6 ?k7 ?kK ?kp ?kd ?ku ?_; (case k1 => k_asm); (case k2 => k_asm); (case k3 => k_asm); (case k4 => k_asm); (case k5 => k_asm); (case k6 => assumption); (case k7 => assumption); (case kK => first | exact rfl | assumption); (case kp => is_list); (case kd => ktr_room); (case ku => ktr_units); intro r8 tl8 h8 tk8 g8 gr8 T8 F8 N8 B8 X8 TT8 l8 G8 R8; obtain ⟨e8, e8'⟩ := R8; subst e8; subst e8'; clear l8; simp only [List.nil_append] at N8; have hl8 := list_turn T8 (by assumption); (try dsimp only)))
  trivial
theorem c_shareB (w : World) (mean : ExcName → Option Value) (mg mb : Str → Option Value) (l : Addr) (ws : List Value) (rs : List Row) (hx : StrsAre ws (rs.map rowS)) (hr : ∀ r ∈ rs, rowK r) (hrl : rs.length = 10) (a : Int) (ta td : Tok) (ha : 1 ≤ a) (ha' : a ≤ 4) :
   ClaimT w mean mg mb 95 30 [.ref l, .int a ta, .int a td] (fun h => h.IsList l ws.toArray) (ShareR rs a.toNat a.toNat) := by
  unfold ClaimT
  k_fill
  intro dp un gd cn cs ad ccd cl outer A₀ base h₀ L m s Q E B F X T XB TB hk hl hd1 hu hret
  refine wpAny_call ?_
  k_dflt cell_enter
  k_steps
  all_goals (rename Fr _ _ _ _ => FF; refine hret _ [] _ _ _ (fun b o z _ => ⟨o.slots, FF.keep _ _ z⟩) (fun b o z _ _ => FF.keep _ _ z) (fun p hp => nomatch hp) (fun z => ?_) (share_of ?_))
  all_goals (first | (rename (leftWithCleanup _ = false → leftWithCleanup _ = false) => GG; exact GG (by assumption)) | skip)
  all_goals (exact mine_two (by omega))
end Mine

end
-- SC
section
open PySem PySem.W PyProof.Rows PySem.Calls
set_option maxRecDepth 100000
set_option maxHeartbeats 8000000
namespace Mine
theorem fresh_SC : True := by
  w_top off
  k_with_none
  k_with "omega" => lia
  trivial
theorem rows_SC_1 : True := by
  k_with "cell_enter" => (refine' code_defCR ?k1 ?k2 ?k3 ?k5 ?kA ?kF ?kK ?k6 ?k7 ?k8 ?k9 ?kB ?kD ?_ ?c2 ?c3 ?c4; (case kA => exact rfl); (case kF => exact rfl); (case kK => assumption); (case k1 => k_asm); (case k2 => k_asm); (case k3 => k_asm); (case k5 => k_asm); (case k6 => k_is); (case k7 => k_is); (case k8 => ktr_room); (case k9 => exact BindsTo.of_eq rfl); (case kB => exact rfl); (case kD => decide +kernel); (case c2 => exact rfl); (case c3 => exact rfl); (case c4 => exact rfl); k_whole; intro L' h' tk' cells' F' N' Y' B' X' T'; k_cells Y'; (try simp only [List.cons_append, List.nil_append] at N'); (try dsimp only); (try k_fold))
  k_with "compareOp Eq int int" => (k_here; first | (refine' cmp_yes ?e ?_; (case e => omega); k_whole) | (refine' cmp_no ?e ?_; (case e => omega); k_whole))
  k_with "call type:int" => (k_here; (with_reducible show wpAny _ _ (call (Value.type "int") [Value.bool _]) _ _ _); (refine' int_bool ?_); (intro t9 k9); (try dsimp only [Bool.false_eq_true, if_false, if_true]); (try simp only [Bool.false_eq_true, if_false, if_true]))
  k_with "call ref" => (k_here; (with_reducible show wpAny _ _ (call (Value.ref 90) [Value.ref _, Value.ref _]) _ _ _); k_dflt (refine' claim_use (c_cutI _ _ _ _ _ _ _ ?hi _ _ ?hx ?hr ?hn ?hp ?hv) ?k1 ?k2 ?k3 ?k4 ?k5 ?kK ?kp ?kd ?ku ?_; (case hx => assumption); (case hr => assumption); (case hn => omega); (case k1 => k_asm); (case k2 => k_asm); (case k3 => k_asm); (case k4 => k_asm); (case k5 => k_asm); (case kK => first | exact rfl | assumption); (case kp => exact ⟨by is_list, by is_list⟩); (case hi => (repeat (refine IntsAre.cons _ _ ?_)); exact IntsAre.nil); (case hp => simp only [intsOf]; (repeat (first | rw [pre_cons (by omega) (by omega)] | rw [pre_zero] | rw [pre_stop] | rw [pre_nil])); simp); (case hv => simp only [intsOf]; (repeat (first | rw [pre_cons (by omega) (by omega)] | rw [pre_zero] | rw [pre_stop] | rw [pre_nil])); (intro x9 h9x; simp only [List.mem_cons, List.not_mem_nil, or_false] at h9x; omega)); (case kd => ktr_room); (case ku => ktr_units); intro r9 tl9 h9 tk9 g9 F9 N9 K9 l9 G9 R9; have Z9 := cut23_of R9 (cut_two (by simp only [intsOf]; (repeat (first | rw [pre_cons (by omega) (by omega)] | rw [pre_zero] | rw [pre_stop] | rw [pre_nil]))) (by simp [intsOf]) (by assumption) (by omega) (by omega) (by omega)); clear R9; obtain ⟨ta9, lt9, lx9, t90, t91, u90, u91, u92, n19, n29, n39⟩ := Z9; have l91 := apartN_of (l9 _ (.head _)); have l92 := apartN_of (l9 _ (.tail _ (.head _))); have l93 := apartN_of (l9 _ (.tail _ (.tail _ (.head _)))); clear l9; (simp only [ApartN, and_true] at l91 l92 l93); simp only [List.cons_append, List.nil_append] at N9; (try dsimp only)))
  k_with "CompSrcT" => (k_here; k_dflt (first | (refine LCt.CompSrcT.range (n := 4) (by rfl) (by k_asm) (by k_asm) (by assumption) (by first | decide | rfl) (by first | rfl | decide) (by first | size_fits | exact Nat.le_of_ble_eq_true rfl) ?_; intro g') | (refine LCt.CompSrcT.range (n := 5) (by rfl) (by k_asm) (by k_asm) (by assumption) (by first | decide | rfl) (by first | rfl | decide) (by first | size_fits | exact Nat.le_of_ble_eq_true rfl) ?_; intro g') | (refine LCt.CompSrcT.range (n := 3) (by rfl) (by k_asm) (by k_asm) (by assumption) (by first | decide | rfl) (by first | rfl | decide) (by first | size_fits | exact Nat.le_of_ble_eq_true rfl) ?_; intro g')))
  k_with "eval ListComp" => (k_here; (rename News _ _ _ _ => N7); (first | (have N8 := shrinkT N7 rfl) | (have N8 := shrink N7 rfl)); clear N7; k_dflt (refine LCt.ListComp_T (F₀ := by k_asm) (by with_unfolding_all rfl) (by decide) (by rfl) (by decide) (by rfl) ?_); k_dflt lct_toSrc)
  k_with "subscriptTail Name Name ref int" => (k_here; (with_reducible show wpAny _ _ (subscriptTail _ _ (Value.ref _) (Value.int _ _)) _ _ _); k_dflt (refine' item_new ?k1 ?k2 ?k3 ?k4 ?k5 ?_ ?k6 ?k7; (case k1 => k_asm); (case k2 => k_mem); (case k3 => decide); (case k4 => decide); (case k5 => exact rfl); (case k6 => with_unfolding_all rfl); (case k7 => (intro _; with_unfolding_all rfl))))
  k_with "call builtin:str.join" => (k_here; (with_reducible show wpAny _ _ (call (Value.builtin "str.join") [Value.str _ _, Value.ref _]) _ _ _); k_dflt (first | (refine' join_two ?e ?l ?v ?p ?n ?q ?m ?_; (case e => with_unfolding_all rfl); (case l => is_list); (case v => exact rfl); (case p => (first | assumption | exact rows_take (by assumption) | exact rows_drop (by assumption) | exact rows_take (rows_drop (by assumption)) | exact (fun _ h => nomatch h))); (case n => (simp only [List.length_take, List.length_drop, List.length_nil]; omega)); (case q => (first | assumption | exact rows_take (by assumption) | exact rows_drop (by assumption) | exact rows_take (rows_drop (by assumption)) | exact (fun _ h => nomatch h))); (case m => (simp only [List.length_take, List.length_drop, List.length_nil]; omega)); intro t9 k9; (try dsimp only)) | (refine' join_one ?e1 ?l1 ?v1 ?p1 ?n1 ?_; (case e1 => with_unfolding_all rfl); (case l1 => is_list); (case v1 => exact rfl); (case p1 => (first | assumption | exact rows_take (by assumption) | exact rows_drop (by assumption) | exact rows_take (rows_drop (by assumption)) | exact (fun _ h => nomatch h))); (case n1 => (simp only [List.length_take, List.length_drop, List.length_nil]; omega)); intro t9 k9; (try dsimp only))))
  k_with "call ref" => (k_here; (with_reducible show wpAny _ _ (call (Value.ref 83) [Value.ref _]) _ _ _); k_dflt (refine' claimT_use (c_refused _ _ _ _ _ _ _) ?k1 ?k2 ?k3 ?k4 ?k5 ?k6 ?k7 ?kK ?kp ?kd ?ku ?_; (case k1 => k_asm); (case k2 => k_asm); (case k3 => k_asm); (case k4 => k_asm); (case k5 => k_asm); (case k6 => assumption); (case k7 => assumption); (case kK => first | exact rfl | assumption); (case kp => is_list); (case kd => ktr_room); (case ku => ktr_units); intro r8 tl8 h8 tk8 g8 gr8 T8 F8 N8 B8 X8 TT8 l8 G8 R8; obtain ⟨e8, e8'⟩ := R8; subst e8; subst e8'; clear l8; simp only [List.nil_append] at N8; have hl8 := list_turn T8 (by assumption); (try dsimp only)))
  trivial
theorem c_shareC (w : World) (mean : ExcName → Option Value) (mg mb : Str → Option Value) (l : Addr) (ws : List Value) (rs : List Row) (hx : StrsAre ws (rs.map rowS)) (hr : ∀ r ∈ rs, rowK r) (hrl : rs.length = 10) (a : Int) (ta td : Tok) (ha : 1 ≤ a) (ha' : a ≤ 4) :
   ClaimT w mean mg mb 95 30 [.ref l, .int a ta, .int 5 td] (fun h => h.IsList l ws.toArray) (ShareR rs a.toNat 5) := by
  unfold ClaimT
  k_fill
  intro dp un gd cn cs ad ccd cl outer A₀ base h₀ L m s Q E B F X T XB TB hk hl hd1 hu hret
  refine wpAny_call ?_
  k_dflt cell_enter
  k_steps
  all_goals (rename Fr _ _ _ _ => FF; refine hret _ [] _ _ _ (fun b o z _ => ⟨o.slots, FF.keep _ _ z⟩) (fun b o z _ _ => FF.keep _ _ z) (fun p hp => nomatch hp) (fun z => ?_) (share_of ?_))
  all_goals (first | (rename (leftWithCleanup _ = false → leftWithCleanup _ = false) => GG; exact GG (by assumption)) | skip)
  all_goals (exact mine_one hrl (by omega))
end Mine

end
-- SD
section
open PySem PySem.W PyProof.Rows PySem.Calls
set_option maxRecDepth 100000
set_option maxHeartbeats 8000000
namespace Mine
theorem fresh_SD : True := by
  w_top off
  k_with_none
  k_with "omega" => lia
  trivial
theorem rows_SD_1 : True := by
  k_with "cell_enter" => (refine' code_defCR ?k1 ?k2 ?k3 ?k5 ?kA ?kF ?kK ?k6 ?k7 ?k8 ?k9 ?kB ?kD ?_ ?c2 ?c3 ?c4; (case kA => exact rfl); (case kF => exact rfl); (case kK => assumption); (case k1 => k_asm); (case k2 => k_asm); (case k3 => k_asm); (case k5 => k_asm); (case k6 => k_is); (case k7 => k_is); (case k8 => ktr_room); (case k9 => exact BindsTo.of_eq rfl); (case kB => exact rfl); (case kD => decide +kernel); (case c2 => exact rfl); (case c3 => exact rfl); (case c4 => exact rfl); k_whole; intro L' h' tk' cells' F' N' Y' B' X' T'; k_cells Y'; (try simp only [List.cons_append, List.nil_append] at N'); (try dsimp only); (try k_fold))
  k_with "compareOp Eq int int" => (k_here; first | (refine' cmp_yes ?e ?_; (case e => omega); k_whole) | (refine' cmp_no ?e ?_; (case e => omega); k_whole))
  k_with "call type:int" => (k_here; (with_reducible show wpAny _ _ (call (Value.type "int") [Value.bool _]) _ _ _); (refine' int_bool ?_); (intro t9 k9); (try dsimp only [Bool.false_eq_true, if_false, if_true]); (try simp only [Bool.false_eq_true, if_false, if_true]))
  k_with "call ref" => (k_here; (with_reducible show wpAny _ _ (call (Value.ref 90) [Value.ref _, Value.ref _]) _ _ _); k_dflt (refine' claim_use (c_cutI _ _ _ _ _ _ _ ?hi _ _ ?hx ?hr ?hn ?hp ?hv) ?k1 ?k2 ?k3 ?k4 ?k5 ?kK ?kp ?kd ?ku ?_; (case hx => assumption); (case hr => assumption); (case hn => omega); (case k1 => k_asm); (case k2 => k_asm); (case k3 => k_asm); (case k4 => k_asm); (case k5 => k_asm); (case kK => first | exact rfl | assumption); (case kp => exact ⟨by is_list, by is_list⟩); (case hi => (repeat (refine IntsAre.cons _ _ ?_)); exact IntsAre.nil); (case hp => simp only [intsOf]; (repeat (first | rw [pre_cons (by omega) (by omega)] | rw [pre_zero] | rw [pre_stop] | rw [pre_nil])); simp); (case hv => simp only [intsOf]; (repeat (first | rw [pre_cons (by omega) (by omega)] | rw [pre_zero] | rw [pre_stop] | rw [pre_nil])); (intro x9 h9x; simp only [List.mem_cons, List.not_mem_nil, or_false] at h9x; omega)); (case kd => ktr_room); (case ku => ktr_units); intro r9 tl9 h9 tk9 g9 F9 N9 K9 l9 G9 R9; have Z9 := cut23_of R9 (cut_two (by simp only [intsOf]; (repeat (first | rw [pre_cons (by omega) (by omega)] | rw [pre_zero] | rw [pre_stop] | rw [pre_nil]))) (by simp [intsOf]) (by assumption) (by omega) (by omega) (by omega)); clear R9; obtain ⟨ta9, lt9, lx9, t90, t91, u90, u91, u92, n19, n29, n39⟩ := Z9; have l91 := apartN_of (l9 _ (.head _)); have l92 := apartN_of (l9 _ (.tail _ (.head _))); have l93 := apartN_of (l9 _ (.tail _ (.tail _ (.head _)))); clear l9; (simp only [ApartN, and_true] at l91 l92 l93); simp only [List.cons_append, List.nil_append] at N9; (try dsimp only)))
  k_with "CompSrcT" => (k_here; k_dflt (first | (refine LCt.CompSrcT.range (n := 4) (by rfl) (by k_asm) (by k_asm) (by assumption) (by first | decide | rfl) (by first | rfl | decide) (by first | size_fits | exact Nat.le_of_ble_eq_true rfl) ?_; intro g') | (refine LCt.CompSrcT.range (n := 5) (by rfl) (by k_asm) (by k_asm) (by assumption) (by first | decide | rfl) (by first | rfl | decide) (by first | size_fits | exact Nat.le_of_ble_eq_true rfl) ?_; intro g') | (refine LCt.CompSrcT.range (n := 3) (by rfl) (by k_asm) (by k_asm) (by assumption) (by first | decide | rfl) (by first | rfl | decide) (by first | size_fits | exact Nat.le_of_ble_eq_true rfl) ?_; intro g')))
  k_with "eval ListComp" => (k_here; (rename News _ _ _ _ => N7); (first | (have N8 := shrinkT N7 rfl) | (have N8 := shrink N7 rfl)); clear N7; k_dflt (refine LCt.ListComp_T (F₀ := by k_asm) (by with_unfolding_all rfl) (by decide) (by rfl) (by decide) (by rfl) ?_); k_dflt lct_toSrc)
  k_with "subscriptTail Name Name ref int" => (k_here; (with_reducible show wpAny _ _ (subscriptTail _ _ (Value.ref _) (Value.int _ _)) _ _ _); k_dflt (refine' item_new ?k1 ?k2 ?k3 ?k4 ?k5 ?_ ?k6 ?k7; (case k1 => k_asm); (case k2 => k_mem); (case k3 => decide); (case k4 => decide); (case k5 => exact rfl); (case k6 => with_unfolding_all rfl); (case k7 => (intro _; with_unfolding_all rfl))))
  k_with "call builtin:str.join" => (k_here; (with_reducible show wpAny _ _ (call (Value.builtin "str.join") [Value.str _ _, Value.ref _]) _ _ _); k_dflt (first | (refine' join_two ?e ?l ?v ?p ?n ?q ?m ?_; (case e => with_unfolding_all rfl); (case l => is_list); (case v => exact rfl); (case p => (first | assumption | exact rows_take (by assumption) | exact rows_drop (by assumption) | exact rows_take (rows_drop (by assumption)) | exact (fun _ h => nomatch h))); (case n => (simp only [List.length_take, List.length_drop, List.length_nil]; omega)); (case q => (first | assumption | exact rows_take (by assumption) | exact rows_drop (by assumption) | exact rows_take (rows_drop (by assumption)) | exact (fun _ h => nomatch h))); (case m => (simp only [List.length_take, List.length_drop, List.length_nil]; omega)); intro t9 k9; (try dsimp only)) | (refine' join_one ?e1 ?l1 ?v1 ?p1 ?n1 ?_; (case e1 => with_unfolding_all rfl); (case l1 => is_list); (case v1 => exact rfl); (case p1 => (first | assumption | exact rows_take (by assumption) | exact rows_drop (by assumption) | exact rows_take (rows_drop (by assumption)) | exact (fun _ h => nomatch h))); (case n1 => (simp only [List.length_take, List.length_drop, List.length_nil]; omega)); intro t9 k9; (try dsimp only))))
  k_with "call ref" => (k_here; (with_reducible show wpAny _ _ (call (Value.ref 83) [Value.ref _]) _ _ _); k_dflt (refine' claimT_use (c_refused _ _ _ _ _ _ _) ?k1 ?k2 ?k3 ?k4 ?k5 ?k6 ?k7 ?kK ?kp ?kd ?ku ?_; (case k1 => k_asm); (case k2 => k_asm); (case k3 => k_asm); (case k4 => k_asm); (case k5 => k_asm); (case k6 => assumption); (case k7 => assumption); (case kK => first | exact rfl | assumption); (case kp => is_list); (case kd => ktr_room); (case ku => ktr_units); intro r8 tl8 h8 tk8 g8 gr8 T8 F8 N8 B8 X8 TT8 l8 G8 R8; obtain ⟨e8, e8'⟩ := R8; subst e8; subst e8'; clear l8; simp only [List.nil_append] at N8; have hl8 := list_turn T8 (by assumption); (try dsimp only)))
  trivial
theorem c_shareD (w : World) (mean : ExcName → Option Value) (mg mb : Str → Option Value) (l : Addr) (ws : List Value) (rs : List Row) (hx : StrsAre ws (rs.map rowS)) (hr : ∀ r ∈ rs, rowK r) (hrl : rs.length = 10) (d : Int) (ta td : Tok) (hd : 1 ≤ d) (hd' : d ≤ 4) :
   ClaimT w mean mg mb 95 30 [.ref l, .int 0 ta, .int d td] (fun h => h.IsList l ws.toArray) (ShareR rs 0 d.toNat) := by
  unfold ClaimT
  k_fill
  intro dp un gd cn cs ad ccd cl outer A₀ base h₀ L m s Q E B F X T XB TB hk hl hd1 hu hret
  refine wpAny_call ?_
  k_dflt cell_enter
  k_steps
  all_goals (rename KtsTurn _ _ _ => TK; rename Fr _ _ _ _ => FF; refine hret _ [] _ _ _ (fun b o z _ => (TK.up z).imp fun sl hs => FF.keep _ _ hs) (fun b o z n1 n2 => FF.keep _ _ (TK.other b o z (not_frames n1 n2))) (fun p hp => nomatch hp) (fun z => ?_) (share_of ?_))
  all_goals (first | (rename (leftWithCleanup _ = false → leftWithCleanup _ = false) => GG; refine GG ?_; clear GG; rename (leftWithCleanup _ = false → leftWithCleanup _ = false) => GG; exact GG (by assumption)) | skip)
  all_goals (exact mine_zero (by omega))
end Mine

end
-- SE
section
open PySem PySem.W PyProof.Rows PySem.Calls
set_option maxRecDepth 100000
set_option maxHeartbeats 8000000
namespace Mine
theorem fresh_SE : True := by
  w_top off
  k_with_none
  k_with "omega" => lia
  trivial
theorem rows_SE_1 : True := by
  k_with "cell_enter" => (refine' code_defCR ?k1 ?k2 ?k3 ?k5 ?kA ?kF ?kK ?k6 ?k7 ?k8 ?k9 ?kB ?kD ?_ ?c2 ?c3 ?c4; (case kA => exact rfl); (case kF => exact rfl); (case kK => assumption); (case k1 => k_asm); (case k2 => k_asm); (case k3 => k_asm); (case k5 => k_asm); (case k6 => k_is); (case k7 => k_is); (case k8 => ktr_room); (case k9 => exact BindsTo.of_eq rfl); (case kB => exact rfl); (case kD => decide +kernel); (case c2 => exact rfl); (case c3 => exact rfl); (case c4 => exact rfl); k_whole; intro L' h' tk' cells' F' N' Y' B' X' T'; k_cells Y'; (try simp only [List.cons_append, List.nil_append] at N'); (try dsimp only); (try k_fold))
  k_with "compareOp Eq int int" => (k_here; first | (refine' cmp_yes ?e ?_; (case e => omega); k_whole) | (refine' cmp_no ?e ?_; (case e => omega); k_whole))
  k_with "call type:int" => (k_here; (with_reducible show wpAny _ _ (call (Value.type "int") [Value.bool _]) _ _ _); (refine' int_bool ?_); (intro t9 k9); (try dsimp only [Bool.false_eq_true, if_false, if_true]); (try simp only [Bool.false_eq_true, if_false, if_true]))
  k_with "call ref" => (k_here; (with_reducible show wpAny _ _ (call (Value.ref 90) [Value.ref _, Value.ref _]) _ _ _); k_dflt (refine' claim_use (c_cutI _ _ _ _ _ _ _ ?hi _ _ ?hx ?hr ?hn ?hp ?hv) ?k1 ?k2 ?k3 ?k4 ?k5 ?kK ?kp ?kd ?ku ?_; (case hx => assumption); (case hr => assumption); (case hn => omega); (case k1 => k_asm); (case k2 => k_asm); (case k3 => k_asm); (case k4 => k_asm); (case k5 => k_asm); (case kK => first | exact rfl | assumption); (case kp => exact ⟨by is_list, by is_list⟩); (case hi => (repeat (refine IntsAre.cons _ _ ?_)); exact IntsAre.nil); (case hp => simp only [intsOf]; (repeat (first | rw [pre_cons (by omega) (by omega)] | rw [pre_zero] | rw [pre_stop] | rw [pre_nil])); simp); (case hv => simp only [intsOf]; (repeat (first | rw [pre_cons (by omega) (by omega)] | rw [pre_zero] | rw [pre_stop] | rw [pre_nil])); (intro x9 h9x; simp only [List.mem_cons, List.not_mem_nil, or_false] at h9x; omega)); (case kd => ktr_room); (case ku => ktr_units); intro r9 tl9 h9 tk9 g9 F9 N9 K9 l9 G9 R9; have Z9 := cut23_of R9 (cut_one_again (by simp only [intsOf]; (repeat (first | rw [pre_cons (by omega) (by omega)] | rw [pre_zero] | rw [pre_stop] | rw [pre_nil]))) (by simp [intsOf]) (by assumption)); clear R9; obtain ⟨ta9, lt9, lx9, t90, t91, u90, u91, u92, n19, n29, n39⟩ := Z9; have l91 := apartN_of (l9 _ (.head _)); have l92 := apartN_of (l9 _ (.tail _ (.head _))); have l93 := apartN_of (l9 _ (.tail _ (.tail _ (.head _)))); clear l9; (simp only [ApartN, and_true] at l91 l92 l93); simp only [List.cons_append, List.nil_append] at N9; (try dsimp only)))
  k_with "CompSrcT" => (k_here; k_dflt (first | (refine LCt.CompSrcT.range (n := 4) (by rfl) (by k_asm) (by k_asm) (by assumption) (by first | decide | rfl) (by first | rfl | decide) (by first | size_fits | exact Nat.le_of_ble_eq_true rfl) ?_; intro g') | (refine LCt.CompSrcT.range (n := 5) (by rfl) (by k_asm) (by k_asm) (by assumption) (by first | decide | rfl) (by first | rfl | decide) (by first | size_fits | exact Nat.le_of_ble_eq_true rfl) ?_; intro g') | (refine LCt.CompSrcT.range (n := 3) (by rfl) (by k_asm) (by k_asm) (by assumption) (by first | decide | rfl) (by first | rfl | decide) (by first | size_fits | exact Nat.le_of_ble_eq_true rfl) ?_; intro g')))
  k_with "eval ListComp" => (k_here; (rename News _ _ _ _ => N7); (first | (have N8 := shrinkT N7 rfl) | (have N8 := shrink N7 rfl)); clear N7; k_dflt (refine LCt.ListComp_T (F₀ := by k_asm) (by with_unfolding_all rfl) (by decide) (by rfl) (by decide) (by rfl) ?_); k_dflt lct_toSrc)
  k_with "subscriptTail Name Name ref int" => (k_here; (with_reducible show wpAny _ _ (subscriptTail _ _ (Value.ref _) (Value.int _ _)) _ _ _); k_dflt (refine' item_new ?k1 ?k2 ?k3 ?k4 ?k5 ?_ ?k6 ?k7; (case k1 => k_asm); (case k2 => k_mem); (case k3 => decide); (case k4 => decide); (case k5 => exact rfl); (case k6 => with_unfolding_all rfl); (case k7 => (intro _; with_unfolding_all rfl))))
  k_with "call builtin:str.join" => (k_here; (with_reducible show wpAny _ _ (call (Value.builtin "str.join") [Value.str _ _, Value.ref _]) _ _ _); k_dflt (first | (refine' join_two ?e ?l ?v ?p ?n ?q ?m ?_; (case e => with_unfolding_all rfl); (case l => is_list); (case v => exact rfl); (case p => (first | assumption | exact rows_take (by assumption) | exact rows_drop (by assumption) | exact rows_take (rows_drop (by assumption)) | exact (fun _ h => nomatch h))); (case n => (simp only [List.length_take, List.length_drop, List.length_nil]; omega)); (case q => (first | assumption | exact rows_take (by assumption) | exact rows_drop (by assumption) | exact rows_take (rows_drop (by assumption)) | exact (fun _ h => nomatch h))); (case m => (simp only [List.length_take, List.length_drop, List.length_nil]; omega)); intro t9 k9; (try dsimp only)) | (refine' join_one ?e1 ?l1 ?v1 ?p1 ?n1 ?_; (case e1 => with_unfolding_all rfl); (case l1 => is_list); (case v1 => exact rfl); (case p1 => (first | assumption | exact rows_take (by assumption) | exact rows_drop (by assumption) | exact rows_take (rows_drop (by assumption)) | exact (fun _ h => nomatch h))); (case n1 => (simp only [List.length_take, List.length_drop, List.length_nil]; omega)); intro t9 k9; (try dsimp only))))
  k_with "call ref" => (k_here; (with_reducible show wpAny _ _ (call (Value.ref 83) [Value.ref _]) _ _ _); k_dflt (refine' claimT_use (c_refused _ _ _ _ _ _ _) ?k1 ?k2 ?k3 ?k4 ?k5 ?k6 ?k7 ?kK ?kp ?kd ?ku ?_; (case k1 => k_asm); (case k2 => k_asm); (case k3 => k_asm); (case k4 => k_asm); (case k5 => k_asm); (case k6 => assumption); (case k7 => assumption); (case kK => first | exact rfl | assumption); (case kp => is_list); (case kd => ktr_room); (case ku => ktr_units); intro r8 tl8 h8 tk8 g8 gr8 T8 F8 N8 B8 X8 TT8 l8 G8 R8; obtain ⟨e8, e8'⟩ := R8; subst e8; subst e8'; clear l8; simp only [List.nil_append] at N8; have hl8 := list_turn T8 (by assumption); (try dsimp only)))
  trivial
theorem c_shareE (w : World) (mean : ExcName → Option Value) (mg mb : Str → Option Value) (l : Addr) (ws : List Value) (rs : List Row) (hx : StrsAre ws (rs.map rowS)) (hr : ∀ r ∈ rs, rowK r) (hrl : rs.length = 10) (ta td : Tok) :
   ClaimT w mean mg mb 95 30 [.ref l, .int 0 ta, .int 5 td] (fun h => h.IsList l ws.toArray) (ShareR rs 0 5) := by
  unfold ClaimT
  k_fill
  intro dp un gd cn cs ad ccd cl outer A₀ base h₀ L m s Q E B F X T XB TB hk hl hd1 hu hret
  refine wpAny_call ?_
  k_dflt cell_enter
  k_steps
  all_goals (rename KtsTurn _ _ _ => TK; rename Fr _ _ _ _ => FF; refine hret _ [] _ _ _ (fun b o z _ => (TK.up z).imp fun sl hs => FF.keep _ _ hs) (fun b o z n1 n2 => FF.keep _ _ (TK.other b o z (not_frames n1 n2))) (fun p hp => nomatch hp) (fun z => ?_) (share_of ?_))
  all_goals (first | (rename (leftWithCleanup _ = false → leftWithCleanup _ = false) => GG; refine GG ?_; clear GG; rename (leftWithCleanup _ = false → leftWithCleanup _ = false) => GG; exact GG (by assumption)) | skip)
  all_goals (exact mine_end hrl)
end Mine

end
-- Share
section
open PySem PySem.W PyProof.Rows PySem.Calls
set_option maxRecDepth 100000
set_option maxHeartbeats 8000000
namespace Mine
theorem fresh_Share : True := by
  w_top off
  k_with_none
  k_with "omega" => lia
  trivial
theorem c_share (w : World) (mean : ExcName → Option Value) (mg mb : Str → Option Value) (l : Addr) (ws : List Value) (rs : List Row) (hx : StrsAre ws (rs.map rowS)) (hr : ∀ r ∈ rs, rowK r) (hrl : rs.length = 10) (a d : Int) (ta td : Tok) (ha : 0 ≤ a) (ha' : a ≤ 4) (hd : 1 ≤ d) (hd' : d ≤ 5) :
   ClaimT w mean mg mb 95 30 [.ref l, .int a ta, .int d td] (fun h => h.IsList l ws.toArray) (ShareR rs a.toNat d.toNat) := by
  by_cases h0 : a = 0
  · subst h0
    by_cases h5 : d = 5
    · subst h5; exact c_shareE w mean mg mb l ws rs hx hr hrl ta td
    · exact c_shareD w mean mg mb l ws rs hx hr hrl d ta td hd (by omega)
  · by_cases h5 : d = 5
    · subst h5; exact c_shareC w mean mg mb l ws rs hx hr hrl a ta td (by omega) ha'
    · by_cases he : a = d
      · subst he; exact c_shareB w mean mg mb l ws rs hx hr hrl a ta td (by omega) ha'
      · exact c_shareA w mean mg mb l ws rs hx hr hrl a d ta td (by omega) ha' hd (by omega) he
end Mine

end
-- L22
section
open PySem PySem.W PyProof.Rows PySem.Calls
set_option maxRecDepth 100000
set_option maxHeartbeats 8000000
namespace Mine
theorem fresh_L22 : True := by
  w_top off
  k_with_none
  k_with "omega" => lia
  trivial
theorem rows_L22_1 : True := by
  k_with "call ref" => (k_here; (with_reducible show wpAny _ _ (call (Value.ref 76) [Value.ref _]) _ _ _); k_dflt (refine' claim_use (c_neck _ _ _ _ _ _ _ ?hi ?hn) ?k1 ?k2 ?k3 ?k4 ?k5 ?kK ?kp ?kd ?ku ?_; (case hi => assumption); (case hn => assumption); (case k1 => k_asm); (case k2 => k_asm); (case k3 => k_asm); (case k4 => k_asm); (case k5 => k_asm); (case kK => first | exact rfl | assumption); (case kp => is_list); (case kd => ktr_room); (case ku => ktr_units); intro r9 tl9 h9 tk9 g9 F9 N9 K9 l9 G9 R9; obtain ⟨a9, ws9, bs9, n9, e9, e9', i9, b9⟩ := R9; subst e9; subst e9'; clear l9 K9; simp only [List.cons_append, List.nil_append] at N9; (try dsimp only)))
  k_with "CompEnd" => (k_dflt (refine' LCg.CompEnd.intro ?F ?N _ ?sub ?off ?src (And.intro rfl ?J); (case F => k_asm); (case N => k_asm); (case sub => lcg_sub); (case off => assumption); (case src => lcg_src); (case J => first | exact rows_snoc _ (by assumption) (by assumption) (by first | exact row_red _ | exact row_green _ | exact row_blue _) | exact sent_snoc _ (by assumption) (by assumption) (by first | exact sent_red _ | exact sent_green _ | exact sent_blue _) | exact count_snoc (by assumption) rfl)))
  k_with "subscriptTail Name Name ref int" => (k_here; (with_reducible show wpAny _ _ (subscriptTail _ _ (Value.ref _) (Value.int _ _)) _ _ _); k_dflt (refine' item_bead ?l ?i ?B ?n ?_ ?s ?g; (case l => is_list); (case i => assumption); (case B => assumption); (case n => assumption); (case s => with_unfolding_all rfl); (case g => (intro _; with_unfolding_all rfl)); intro b8 t8 e8 c8; (rcases c8 with c8 | c8 | c8 <;> subst c8)))
  k_with "subscriptTail List Subscript ref int" => (k_here; (with_reducible show wpAny _ _ (subscriptTail _ _ (Value.ref _) (Value.int _ _)) _ _ _); k_dflt (refine' item_new ?k1 ?k2 ?k3 ?k4 ?k5 ?_ ?k6 ?k7; (case k1 => k_asm); (case k2 => k_mem); (case k3 => decide); (case k4 => decide); (case k5 => exact rfl); (case k6 => with_unfolding_all rfl); (case k7 => (intro _; with_unfolding_all rfl))))
  k_with "subscriptTail List Name ref int" => (k_here; (with_reducible show wpAny _ _ (subscriptTail _ _ (Value.ref _) (Value.int _ _)) _ _ _); k_dflt (refine' item_new ?k1 ?k2 ?k3 ?k4 ?k5 ?_ ?k6 ?k7; (case k1 => k_asm); (case k2 => k_mem); (case k3 => decide); (case k4 => decide); (case k5 => exact rfl); (case k6 => with_unfolding_all rfl); (case k7 => (intro _; with_unfolding_all rfl))))
  k_with "call builtin:str.join" => (k_here; (with_reducible show wpAny _ _ (call (Value.builtin "str.join") [Value.str _ _, Value.ref _]) _ _ _); k_dflt (refine' join_rows ?e ?l ?i ?n ?_; (case e => with_unfolding_all rfl); (case l => is_list); (case i => assumption); (case n => first | exact Nat.le_trans (rows_flat (by assumption)) (by decide) | exact Nat.le_trans (sent_flat (by assumption)) (by decide)); intro t6 k6; (try dsimp only)))
  k_with "storeName" => (k_here; k_dflt (refine' store_cell ?c ?m ?d ?U ?F ?N ?_ ?a ?b; (case a => rfl); (case b => rfl); (case c => rfl); (case F => k_asm); (case N => k_asm); (case m => k_mem); (case d => k_asm); (case U => (first | (refine UpdN.head ?_; (repeat (first | exact List.forall_mem_nil _ | (refine List.forall_mem_cons.mpr ⟨Or.inr (by (try dsimp only); omega), ?_⟩)))) | (refine' UpdN.tail ?q ?b3; (case q => first | (exact Or.inl (by intro v e; cases e)) | (exact Or.inr (by (try dsimp only); omega))); (case b3 => (first | (refine UpdN.head ?_; (repeat (first | exact List.forall_mem_nil _ | (refine List.forall_mem_cons.mpr ⟨Or.inr (by (try dsimp only); omega), ?_⟩)))) | (refine' UpdN.tail ?q ?b3; (case q => first | (exact Or.inl (by intro v e; cases e)) | (exact Or.inr (by (try dsimp only); omega))); (case b3 => (first | (refine UpdN.head ?_; (repeat (first | exact List.forall_mem_nil _ | (refine List.forall_mem_cons.mpr ⟨Or.inr (by (try dsimp only); omega), ?_⟩)))) | (refine' UpdN.tail ?q ?b3; (case q => first | (exact Or.inl (by intro v e; cases e)) | (exact Or.inr (by (try dsimp only); omega))); (case b3 => (first | (refine UpdN.head ?_; (repeat (first | exact List.forall_mem_nil _ | (refine List.forall_mem_cons.mpr ⟨Or.inr (by (try dsimp only); omega), ?_⟩)))) | (refine' UpdN.tail ?q ?b3; (case q => first | (exact Or.inl (by intro v e; cases e)) | (exact Or.inr (by (try dsimp only); omega))); (case b3 => (first | (refine UpdN.head ?_; (repeat (first | exact List.forall_mem_nil _ | (refine List.forall_mem_cons.mpr ⟨Or.inr (by (try dsimp only); omega), ?_⟩)))) | (refine' UpdN.tail ?q ?b3; (case q => first | (exact Or.inl (by intro v e; cases e)) | (exact Or.inr (by (try dsimp only); omega))); (case b3 => (first | (refine UpdN.head ?_; (repeat (first | exact List.forall_mem_nil _ | (refine List.forall_mem_cons.mpr ⟨Or.inr (by (try dsimp only); omega), ?_⟩)))) | (refine' UpdN.tail ?q ?b3; (case q => first | (exact Or.inl (by intro v e; cases e)) | (exact Or.inr (by (try dsimp only); omega))); (case b3 => (first | (refine UpdN.head ?_; (repeat (first | exact List.forall_mem_nil _ | (refine List.forall_mem_cons.mpr ⟨Or.inr (by (try dsimp only); omega), ?_⟩)))) | (refine' UpdN.tail ?q ?b3; (case q => first | (exact Or.inl (by intro v e; cases e)) | (exact Or.inr (by (try dsimp only); omega))); (case b3 => (first | (refine UpdN.head ?_; (repeat (first | exact List.forall_mem_nil _ | (refine List.forall_mem_cons.mpr ⟨Or.inr (by (try dsimp only); omega), ?_⟩)))) | (refine' UpdN.tail ?q ?b3; (case q => first | (exact Or.inl (by intro v e; cases e)) | (exact Or.inr (by (try dsimp only); omega))); (case b3 => (first | (refine UpdN.head ?_; (repeat (first | exact List.forall_mem_nil _ | (refine List.forall_mem_cons.mpr ⟨Or.inr (by (try dsimp only); omega), ?_⟩)))) | (refine' UpdN.tail ?q ?b3; (case q => first | (exact Or.inl (by intro v e; cases e)) | (exact Or.inr (by (try dsimp only); omega))); (case b3 => (first | (refine UpdN.head ?_; (repeat (first | exact List.forall_mem_nil _ | (refine List.forall_mem_cons.mpr ⟨Or.inr (by (try dsimp only); omega), ?_⟩)))) | (refine' UpdN.tail ?q ?b3; (case q => first | (exact Or.inl (by intro v e; cases e)) | (exact Or.inr (by (try dsimp only); omega))); (case b3 => (first | (refine UpdN.head ?_; (repeat (first | exact List.forall_mem_nil _ | (refine List.forall_mem_cons.mpr ⟨Or.inr (by (try dsimp only); omega), ?_⟩)))) | (refine' UpdN.tail ?q ?b3; (case q => first | (exact Or.inl (by intro v e; cases e)) | (exact Or.inr (by (try dsimp only); omega))); (case b3 => (first | (refine UpdN.head ?_; (repeat (first | exact List.forall_mem_nil _ | (refine List.forall_mem_cons.mpr ⟨Or.inr (by (try dsimp only); omega), ?_⟩)))) | (refine' UpdN.tail ?q ?b3; (case q => first | (exact Or.inl (by intro v e; cases e)) | (exact Or.inr (by (try dsimp only); omega))); (case b3 => (first | (refine UpdN.head ?_; (repeat (first | exact List.forall_mem_nil _ | (refine List.forall_mem_cons.mpr ⟨Or.inr (by (try dsimp only); omega), ?_⟩)))) | (refine' UpdN.tail ?q ?b3; (case q => first | (exact Or.inl (by intro v e; cases e)) | (exact Or.inr (by (try dsimp only); omega))); (case b3 => (first | (refine UpdN.head ?_; (repeat (first | exact List.forall_mem_nil _ | (refine List.forall_mem_cons.mpr ⟨Or.inr (by (try dsimp only); omega), ?_⟩)))) | (refine' UpdN.tail ?q ?b3; (case q => first | (exact Or.inl (by intro v e; cases e)) | (exact Or.inr (by (try dsimp only); omega))); (case b3 => (first | (refine UpdN.head ?_; (repeat (first | exact List.forall_mem_nil _ | (refine List.forall_mem_cons.mpr ⟨Or.inr (by (try dsimp only); omega), ?_⟩)))) | (refine' UpdN.tail ?q ?b3; (case q => first | (exact Or.inl (by intro v e; cases e)) | (exact Or.inr (by (try dsimp only); omega))); (case b3 => (first | (refine UpdN.head ?_; (repeat (first | exact List.forall_mem_nil _ | (refine List.forall_mem_cons.mpr ⟨Or.inr (by (try dsimp only); omega), ?_⟩)))) | (refine' UpdN.tail ?q ?b3; (case q => first | (exact Or.inl (by intro v e; cases e)) | (exact Or.inr (by (try dsimp only); omega))); (case b3 => (refine UpdN.head ?_; (repeat (first | exact List.forall_mem_nil _ | (refine List.forall_mem_cons.mpr ⟨Or.inr (by (try dsimp only); omega), ?_⟩))))))))))))))))))))))))))))))))))))))))))))))))))))); k_whole; intro h' o' F' N' d'; (try dsimp only at N'); (try k_sweep)))
  k_with "eval ListComp" => (k_here; refine stopHere ?_)
  k_with "exec Assign cons ListComp" => (k_here; (with_reducible show wpAny _ _ (exec (Stmt.Assign [Expr.Name (Str.ofString "rows") _] _ _) _) _ _ _); refine stopHere ?_)
  k_with "exec Assign cons ListComp" => (k_here; (with_reducible show wpAny _ _ (exec (Stmt.Assign [Expr.Name (Str.ofString "twice") _] _ _) _) _ _ _); refine stopHere ?_)
  k_with "CompSrc" => (k_here; refine stopHere ?_)
  k_with "call ref" => (k_here; refine stopHere ?_)
  k_with "storeName" => (k_here; refine stopHere ?_)
  trivial
theorem turn_share (w : World) (mean : ExcName → Option Value) (mg mb : Str → Option Value) (h₀ base : Heap) (Z : Here w mean mg mb h₀ base) (fa : Addr) (cd : Value) (L D : Addr) (ys : List Value) (rs : List Row) (hx : StrsAre ys (rs.map rowS)) (hr : ∀ r ∈ rs, rowK r) (hrl : rs.length = 10) (a d : Int) (ta td : Tok) (pa : 0 ≤ a) (pa' : a ≤ 4) (pd : 1 ≤ d) (pd' : d ≤ 5) (s : Shared) (u : Str → Option Value) (vt : Value) (keep : List (Addr × Obj)) (o6 o7 o8 : Obj) (v6 v7 v8 : Option Value)
   (d6 : o6.data = .cell v6) (d7 : o7.data = .cell v7) (d8 : o8.data = .cell v8) (hg : leftWithCleanup s.gens = false)
   (F : Fr h₀ L s.heap (fun z => if z = Str.ofString "twice" then some vt else if z = Str.ofString "d" then some (.int d td) else if z = Str.ofString "a" then some (.int a ta) else if z = Str.ofString "rows" then some (.ref D) else u z))
   (N : News h₀ L s.heap ((D, LCg.lst ys) :: (L + 1 + 1 + 1 + 1 + 1 + 1, o6) :: (L + 1 + 1 + 1 + 1 + 1 + 1 + 1, o7) :: (L + 1 + 1 + 1 + 1 + 1 + 1 + 1 + 1, o8) :: keep)) (hk6 : ∀ p ∈ keep, Apt (L + 1 + 1 + 1 + 1 + 1 + 1) p) (hk7 : ∀ p ∈ keep, Apt (L + 1 + 1 + 1 + 1 + 1 + 1 + 1) p) (hk8 : ∀ p ∈ keep, Apt (L + 1 + 1 + 1 + 1 + 1 + 1 + 1 + 1) p) (Q : Flow → Shared → Prop) (E : Value → Shared → Prop)
   (next : ∀ t1 t2 t3 o6' o7' o8' h' tk g, s.toks ≤ tk → leftWithCleanup g = false → o6'.data = .cell (some (.int (cnt 0 (mineR rs a.toNat d.toNat) : Nat) t1)) → o7'.data = .cell (some (.int (cnt 1 (mineR rs a.toNat d.toNat) : Nat) t2)) → o8'.data = .cell (some (.int (cnt 2 (mineR rs a.toNat d.toNat) : Nat) t3)) →
      Fr h₀ L h' (fun z => if z = Str.ofString "twice" then some vt else if z = Str.ofString "d" then some (.int d td) else if z = Str.ofString "a" then some (.int a ta) else if z = Str.ofString "rows" then some (.ref D) else u z) →
      News h₀ L h' ((D, LCg.lst ys) :: (L + 1 + 1 + 1 + 1 + 1 + 1, o6') :: (L + 1 + 1 + 1 + 1 + 1 + 1 + 1, o7') :: (L + 1 + 1 + 1 + 1 + 1 + 1 + 1 + 1, o8') :: keep) → TurnGo 3 w L fa cd Q E { s with heap := h', toks := tk, gens := g }) :
   TurnGo 2 w L fa cd Q E s := by
  obtain ⟨B, X, T, XB, TB⟩ := Z
  have hm1 : ∀ r ∈ mineR rs a.toNat d.toNat, rowK r := fun r h => by
    rcases List.mem_append.mp h with h | h
    · exact rows_take (rows_drop hr) r h
    · exact rows_drop hr r h
  have hm2 : (mineR rs a.toNat d.toNat).length ≤ 10 := by unfold mineR; simp only [List.length_append, List.length_take, List.length_drop]; omega
  have hm3 := flat_len hm1
  refine turn_row (by unfold turnBody aBody lawRec recOf; rfl) ?_
  unfold lawEnv lawRec recOf
  dsimp only
  revert X
  k_fill
  intro X
  k_steps
  unfold Stop
  refine claimT_use0 (c_share w mean mg mb D ys rs hx hr hrl a d ta td pa pa' pd pd') (by k_asm) (by k_asm) (by k_asm) (by k_asm) (by k_asm) XB TB rfl (of_mem N (.head _)) (by ktr_room) (by ktr_units) ?_
  rintro r9 tl9 h9 tk9 g9 F9 N9 l9 G9 ⟨rfl, t9, rfl⟩
  rw [List.nil_append] at N9
  clear l9
  k_steps
  unfold Stop
  refine claim0_use (t_col w mean mg mb (mineR rs a.toNat d.toNat) (fun r h => rowK_good (hm1 r h)) (by omega) t9) (by k_asm) (by k_asm) (by k_asm) (by k_asm) (by k_asm) rfl trivial (by ktr_room) (by ktr_units) ?_
  rintro r8 tl8 h8 tk8 F8 N8 K8 l8 ⟨a8, n8, t81, t82, t83, rfl, rfl⟩
  rw [col_R hm1, col_G hm1, col_B hm1] at N8
  rw [List.cons_append, List.nil_append] at N8
  clear l8 K8
  k_steps
  unfold Stop
  rename News _ _ _ _ => NA
  rename Fr _ _ _ _ => FA
  refine store_cell (c := L + 1 + 1 + 1 + 1 + 1 + 1) (o := o6) rfl (.tail _ (.tail _ (.head _))) d6 (.tail (.inl (by intro v e; cases e)) (.tail (.inl (by intro v e; cases e)) (.head ?_))) FA NA ?_ rfl rfl
  · intro p hp
    rcases List.mem_cons.mp hp with rfl | hp
    · exact .inr (by show @Ne Nat (L + 1 + 1 + 1 + 1 + 1 + 1 + 1) (L + 1 + 1 + 1 + 1 + 1 + 1); omega)
    · rcases List.mem_cons.mp hp with rfl | hp
      · exact .inr (by show @Ne Nat (L + 1 + 1 + 1 + 1 + 1 + 1 + 1 + 1) (L + 1 + 1 + 1 + 1 + 1 + 1); omega)
      · exact hk6 p hp
  intro h6 o6' F6 N6 d6'
  k_steps
  unfold Stop
  refine store_cell (c := L + 1 + 1 + 1 + 1 + 1 + 1 + 1) (o := o7) rfl (.tail _ (.tail _ (.tail _ (.head _)))) d7 (.tail (.inl (by intro v e; cases e)) (.tail (.inl (by intro v e; cases e)) (.tail (.inr (by show @Ne Nat (L + 1 + 1 + 1 + 1 + 1 + 1) (L + 1 + 1 + 1 + 1 + 1 + 1 + 1); omega)) (.head ?_)))) F6 N6 ?_ rfl rfl
  · intro p hp
    rcases List.mem_cons.mp hp with rfl | hp
    · exact .inr (by show @Ne Nat (L + 1 + 1 + 1 + 1 + 1 + 1 + 1 + 1) (L + 1 + 1 + 1 + 1 + 1 + 1 + 1); omega)
    · exact hk7 p hp
  intro h7 o7' F7 N7 d7'
  k_steps
  unfold Stop
  refine store_cell (c := L + 1 + 1 + 1 + 1 + 1 + 1 + 1 + 1) (o := o8) rfl (.tail _ (.tail _ (.tail _ (.tail _ (.head _))))) d8 (.tail (.inl (by intro v e; cases e)) (.tail (.inl (by intro v e; cases e)) (.tail (.inr (by show @Ne Nat (L + 1 + 1 + 1 + 1 + 1 + 1) (L + 1 + 1 + 1 + 1 + 1 + 1 + 1 + 1); omega)) (.tail (.inr (by show @Ne Nat (L + 1 + 1 + 1 + 1 + 1 + 1 + 1) (L + 1 + 1 + 1 + 1 + 1 + 1 + 1 + 1); omega)) (.head hk8))))) F7 N7 ?_ rfl rfl
  intro h8' o8' F8' N8' d8'
  k_steps
  exact fun hk => next _ _ _ o6' o7' o8' h8' _ _ hk (G9 hg) d6' d7' d8' F8' (fun p hp => N8' p (.tail _ hp))
end Mine

end
-- L23
section
open PySem PySem.W PyProof.Rows PySem.Calls
set_option maxRecDepth 100000
set_option maxHeartbeats 8000000
namespace Mine
theorem fresh_L23 : True := by
  w_top off
  k_with_none
  k_with "omega" => lia
  trivial
theorem rows_L23_1 : True := by
  k_with "call ref" => (k_here; (with_reducible show wpAny _ _ (call (Value.ref 76) [Value.ref _]) _ _ _); k_dflt (refine' claim_use (c_neck _ _ _ _ _ _ _ ?hi ?hn) ?k1 ?k2 ?k3 ?k4 ?k5 ?kK ?kp ?kd ?ku ?_; (case hi => assumption); (case hn => assumption); (case k1 => k_asm); (case k2 => k_asm); (case k3 => k_asm); (case k4 => k_asm); (case k5 => k_asm); (case kK => first | exact rfl | assumption); (case kp => is_list); (case kd => ktr_room); (case ku => ktr_units); intro r9 tl9 h9 tk9 g9 F9 N9 K9 l9 G9 R9; obtain ⟨a9, ws9, bs9, n9, e9, e9', i9, b9⟩ := R9; subst e9; subst e9'; clear l9 K9; simp only [List.cons_append, List.nil_append] at N9; (try dsimp only)))
  k_with "CompEnd" => (k_dflt (refine' LCg.CompEnd.intro ?F ?N _ ?sub ?off ?src (And.intro rfl ?J); (case F => k_asm); (case N => k_asm); (case sub => lcg_sub); (case off => assumption); (case src => lcg_src); (case J => first | exact rows_snoc _ (by assumption) (by assumption) (by first | exact row_red _ | exact row_green _ | exact row_blue _) | exact sent_snoc _ (by assumption) (by assumption) (by first | exact sent_red _ | exact sent_green _ | exact sent_blue _) | exact count_snoc (by assumption) rfl)))
  k_with "subscriptTail Name Name ref int" => (k_here; (with_reducible show wpAny _ _ (subscriptTail _ _ (Value.ref _) (Value.int _ _)) _ _ _); k_dflt (refine' item_bead ?l ?i ?B ?n ?_ ?s ?g; (case l => is_list); (case i => assumption); (case B => assumption); (case n => assumption); (case s => with_unfolding_all rfl); (case g => (intro _; with_unfolding_all rfl)); intro b8 t8 e8 c8; (rcases c8 with c8 | c8 | c8 <;> subst c8)))
  k_with "subscriptTail List Subscript ref int" => (k_here; (with_reducible show wpAny _ _ (subscriptTail _ _ (Value.ref _) (Value.int _ _)) _ _ _); k_dflt (refine' item_new ?k1 ?k2 ?k3 ?k4 ?k5 ?_ ?k6 ?k7; (case k1 => k_asm); (case k2 => k_mem); (case k3 => decide); (case k4 => decide); (case k5 => exact rfl); (case k6 => with_unfolding_all rfl); (case k7 => (intro _; with_unfolding_all rfl))))
  k_with "subscriptTail List Name ref int" => (k_here; (with_reducible show wpAny _ _ (subscriptTail _ _ (Value.ref _) (Value.int _ _)) _ _ _); k_dflt (refine' item_new ?k1 ?k2 ?k3 ?k4 ?k5 ?_ ?k6 ?k7; (case k1 => k_asm); (case k2 => k_mem); (case k3 => decide); (case k4 => decide); (case k5 => exact rfl); (case k6 => with_unfolding_all rfl); (case k7 => (intro _; with_unfolding_all rfl))))
  k_with "call builtin:str.join" => (k_here; (with_reducible show wpAny _ _ (call (Value.builtin "str.join") [Value.str _ _, Value.ref _]) _ _ _); k_dflt (refine' join_rows ?e ?l ?i ?n ?_; (case e => with_unfolding_all rfl); (case l => is_list); (case i => assumption); (case n => first | exact Nat.le_trans (rows_flat (by assumption)) (by decide) | exact Nat.le_trans (sent_flat (by assumption)) (by decide)); intro t6 k6; (try dsimp only)))
  k_with "storeName" => (k_here; k_dflt (refine' store_cell ?c ?m ?d ?U ?F ?N ?_ ?a ?b; (case a => rfl); (case b => rfl); (case c => rfl); (case F => k_asm); (case N => k_asm); (case m => k_mem); (case d => k_asm); (case U => (first | (refine UpdN.head ?_; (repeat (first | exact List.forall_mem_nil _ | (refine List.forall_mem_cons.mpr ⟨Or.inr (by (try dsimp only); omega), ?_⟩)))) | (refine' UpdN.tail ?q ?b3; (case q => first | (exact Or.inl (by intro v e; cases e)) | (exact Or.inr (by (try dsimp only); omega))); (case b3 => (first | (refine UpdN.head ?_; (repeat (first | exact List.forall_mem_nil _ | (refine List.forall_mem_cons.mpr ⟨Or.inr (by (try dsimp only); omega), ?_⟩)))) | (refine' UpdN.tail ?q ?b3; (case q => first | (exact Or.inl (by intro v e; cases e)) | (exact Or.inr (by (try dsimp only); omega))); (case b3 => (first | (refine UpdN.head ?_; (repeat (first | exact List.forall_mem_nil _ | (refine List.forall_mem_cons.mpr ⟨Or.inr (by (try dsimp only); omega), ?_⟩)))) | (refine' UpdN.tail ?q ?b3; (case q => first | (exact Or.inl (by intro v e; cases e)) | (exact Or.inr (by (try dsimp only); omega))); (case b3 => (first | (refine UpdN.head ?_; (repeat (first | exact List.forall_mem_nil _ | (refine List.forall_mem_cons.mpr ⟨Or.inr (by (try dsimp only); omega), ?_⟩)))) | (refine' UpdN.tail ?q ?b3; (case q => first | (exact Or.inl (by intro v e; cases e)) | (exact Or.inr (by (try dsimp only); omega))); (case b3 => (first | (refine UpdN.head ?_; (repeat (first | exact List.forall_mem_nil _ | (refine List.forall_mem_cons.mpr ⟨Or.inr (by (try dsimp only); omega), ?_⟩)))) | (refine' UpdN.tail ?q ?b3; (case q => first | (exact Or.inl (by intro v e; cases e)) | (exact Or.inr (by (try dsimp only); omega))); (case b3 => (first | (refine UpdN.head ?_; (repeat (first | exact List.forall_mem_nil _ | (refine List.forall_mem_cons.mpr ⟨Or.inr (by (try dsimp only); omega), ?_⟩)))) | (refine' UpdN.tail ?q ?b3; (case q => first | (exact Or.inl (by intro v e; cases e)) | (exact Or.inr (by (try dsimp only); omega))); (case b3 => (first | (refine UpdN.head ?_; (repeat (first | exact List.forall_mem_nil _ | (refine List.forall_mem_cons.mpr ⟨Or.inr (by (try dsimp only); omega), ?_⟩)))) | (refine' UpdN.tail ?q ?b3; (case q => first | (exact Or.inl (by intro v e; cases e)) | (exact Or.inr (by (try dsimp only); omega))); (case b3 => (first | (refine UpdN.head ?_; (repeat (first | exact List.forall_mem_nil _ | (refine List.forall_mem_cons.mpr ⟨Or.inr (by (try dsimp only); omega), ?_⟩)))) | (refine' UpdN.tail ?q ?b3; (case q => first | (exact Or.inl (by intro v e; cases e)) | (exact Or.inr (by (try dsimp only); omega))); (case b3 => (first | (refine UpdN.head ?_; (repeat (first | exact List.forall_mem_nil _ | (refine List.forall_mem_cons.mpr ⟨Or.inr (by (try dsimp only); omega), ?_⟩)))) | (refine' UpdN.tail ?q ?b3; (case q => first | (exact Or.inl (by intro v e; cases e)) | (exact Or.inr (by (try dsimp only); omega))); (case b3 => (first | (refine UpdN.head ?_; (repeat (first | exact List.forall_mem_nil _ | (refine List.forall_mem_cons.mpr ⟨Or.inr (by (try dsimp only); omega), ?_⟩)))) | (refine' UpdN.tail ?q ?b3; (case q => first | (exact Or.inl (by intro v e; cases e)) | (exact Or.inr (by (try dsimp only); omega))); (case b3 => (first | (refine UpdN.head ?_; (repeat (first | exact List.forall_mem_nil _ | (refine List.forall_mem_cons.mpr ⟨Or.inr (by (try dsimp only); omega), ?_⟩)))) | (refine' UpdN.tail ?q ?b3; (case q => first | (exact Or.inl (by intro v e; cases e)) | (exact Or.inr (by (try dsimp only); omega))); (case b3 => (first | (refine UpdN.head ?_; (repeat (first | exact List.forall_mem_nil _ | (refine List.forall_mem_cons.mpr ⟨Or.inr (by (try dsimp only); omega), ?_⟩)))) | (refine' UpdN.tail ?q ?b3; (case q => first | (exact Or.inl (by intro v e; cases e)) | (exact Or.inr (by (try dsimp only); omega))); (case b3 => (first | (refine UpdN.head ?_; (repeat (first | exact List.forall_mem_nil _ | (refine List.forall_mem_cons.mpr ⟨Or.inr (by (try dsimp only); omega), ?_⟩)))) | (refine' UpdN.tail ?q ?b3; (case q => first | (exact Or.inl (by intro v e; cases e)) | (exact Or.inr (by (try dsimp only); omega))); (case b3 => (first | (refine UpdN.head ?_; (repeat (first | exact List.forall_mem_nil _ | (refine List.forall_mem_cons.mpr ⟨Or.inr (by (try dsimp only); omega), ?_⟩)))) | (refine' UpdN.tail ?q ?b3; (case q => first | (exact Or.inl (by intro v e; cases e)) | (exact Or.inr (by (try dsimp only); omega))); (case b3 => (first | (refine UpdN.head ?_; (repeat (first | exact List.forall_mem_nil _ | (refine List.forall_mem_cons.mpr ⟨Or.inr (by (try dsimp only); omega), ?_⟩)))) | (refine' UpdN.tail ?q ?b3; (case q => first | (exact Or.inl (by intro v e; cases e)) | (exact Or.inr (by (try dsimp only); omega))); (case b3 => (first | (refine UpdN.head ?_; (repeat (first | exact List.forall_mem_nil _ | (refine List.forall_mem_cons.mpr ⟨Or.inr (by (try dsimp only); omega), ?_⟩)))) | (refine' UpdN.tail ?q ?b3; (case q => first | (exact Or.inl (by intro v e; cases e)) | (exact Or.inr (by (try dsimp only); omega))); (case b3 => (refine UpdN.head ?_; (repeat (first | exact List.forall_mem_nil _ | (refine List.forall_mem_cons.mpr ⟨Or.inr (by (try dsimp only); omega), ?_⟩))))))))))))))))))))))))))))))))))))))))))))))))))))); k_whole; intro h' o' F' N' d'; (try dsimp only at N'); (try k_sweep)))
  k_with "eval ListComp" => (k_here; refine stopHere ?_)
  k_with "exec Assign cons ListComp" => (k_here; (with_reducible show wpAny _ _ (exec (Stmt.Assign [Expr.Name (Str.ofString "rows") _] _ _) _) _ _ _); refine stopHere ?_)
  k_with "exec Assign cons ListComp" => (k_here; (with_reducible show wpAny _ _ (exec (Stmt.Assign [Expr.Name (Str.ofString "twice") _] _ _) _) _ _ _); refine stopHere ?_)
  k_with "CompSrc" => (k_here; refine stopHere ?_)
  k_with "compareOp NotEq ref ref" => (k_here; refine stopHere ?_)
  trivial
theorem turn_if1 (w : World) (mean : ExcName → Option Value) (mg mb : Str → Option Value) (h₀ base : Heap) (Z : Here w mean mg mb h₀ base) (fa : Addr) (cd : Value) (L tw : Addr) (r g b : Int) (t1 t2 t3 t4 t5 t6 : Tok) (n : Nat) (s : Shared) (u : Str → Option Value) (keep : List (Addr × Obj)) (o6 o7 o8 : Obj)
   (d6 : o6.data = .cell (some (.int r t1))) (d7 : o7.data = .cell (some (.int g t2))) (d8 : o8.data = .cell (some (.int b t3)))
   (F : Fr h₀ L s.heap (fun z => if z = Str.ofString "twice" then some (.ref tw) else u z))
   (N : News h₀ L s.heap ((tw, listOf (List.toArray [.int (2 * r) t4, .int (2 * g) t5, .int (2 * b) t6]) n) :: (L + 1 + 1 + 1 + 1 + 1 + 1, o6) :: (L + 1 + 1 + 1 + 1 + 1 + 1 + 1, o7) :: (L + 1 + 1 + 1 + 1 + 1 + 1 + 1 + 1, o8) :: keep)) (Q : Flow → Shared → Prop) (E : Value → Shared → Prop)
   (next : ∀ h' tk, s.toks ≤ tk → Fr h₀ L h' (fun z => if z = Str.ofString "twice" then some (.ref tw) else u z) →
      News h₀ L h' ((tw, listOf (List.toArray [.int (2 * r) t4, .int (2 * g) t5, .int (2 * b) t6]) n) :: (L + 1 + 1 + 1 + 1 + 1 + 1, o6) :: (L + 1 + 1 + 1 + 1 + 1 + 1 + 1, o7) :: (L + 1 + 1 + 1 + 1 + 1 + 1 + 1 + 1, o8) :: keep) → TurnGo 4 w L fa cd Q E { s with heap := h', toks := tk }) :
   TurnGo 3 w L fa cd Q E s := by
  obtain ⟨B, X, T, XB, TB⟩ := Z
  refine turn_row (by unfold turnBody aBody lawRec recOf; rfl) ?_
  unfold lawEnv lawRec recOf
  dsimp only
  revert X
  k_fill
  intro X
  k_steps
  unfold Stop
  rename News _ _ _ _ => N1
  refine ne_intsK (of_mem N1 (.head _)) (.cons _ _ (.cons _ _ (.cons _ _ .nil))) (of_mem N1 (.tail _ (.head _))) (.cons _ _ (.cons _ _ (.cons _ _ .nil))) (by ktr_units) ?_
  rw [decide_eq_true rfl]
  k_steps
  exact fun hk => next _ _ hk (by assumption) (fun p hp => N1 p (.tail _ hp))
end Mine

end
-- L24
section
open PySem PySem.W PyProof.Rows PySem.Calls
set_option maxRecDepth 100000
set_option maxHeartbeats 8000000
namespace Mine
theorem fresh_L24 : True := by
  w_top off
  k_with_none
  k_with "omega" => lia
  trivial
theorem rows_L24_1 : True := by
  k_with "call ref" => (k_here; (with_reducible show wpAny _ _ (call (Value.ref 76) [Value.ref _]) _ _ _); k_dflt (refine' claim_use (c_neck _ _ _ _ _ _ _ ?hi ?hn) ?k1 ?k2 ?k3 ?k4 ?k5 ?kK ?kp ?kd ?ku ?_; (case hi => assumption); (case hn => assumption); (case k1 => k_asm); (case k2 => k_asm); (case k3 => k_asm); (case k4 => k_asm); (case k5 => k_asm); (case kK => first | exact rfl | assumption); (case kp => is_list); (case kd => ktr_room); (case ku => ktr_units); intro r9 tl9 h9 tk9 g9 F9 N9 K9 l9 G9 R9; obtain ⟨a9, ws9, bs9, n9, e9, e9', i9, b9⟩ := R9; subst e9; subst e9'; clear l9 K9; simp only [List.cons_append, List.nil_append] at N9; (try dsimp only)))
  k_with "CompEnd" => (k_dflt (refine' LCg.CompEnd.intro ?F ?N _ ?sub ?off ?src (And.intro rfl ?J); (case F => k_asm); (case N => k_asm); (case sub => lcg_sub); (case off => assumption); (case src => lcg_src); (case J => first | exact rows_snoc _ (by assumption) (by assumption) (by first | exact row_red _ | exact row_green _ | exact row_blue _) | exact sent_snoc _ (by assumption) (by assumption) (by first | exact sent_red _ | exact sent_green _ | exact sent_blue _) | exact count_snoc (by assumption) rfl)))
  k_with "subscriptTail Name Name ref int" => (k_here; (with_reducible show wpAny _ _ (subscriptTail _ _ (Value.ref _) (Value.int _ _)) _ _ _); k_dflt (refine' item_bead ?l ?i ?B ?n ?_ ?s ?g; (case l => is_list); (case i => assumption); (case B => assumption); (case n => assumption); (case s => with_unfolding_all rfl); (case g => (intro _; with_unfolding_all rfl)); intro b8 t8 e8 c8; (rcases c8 with c8 | c8 | c8 <;> subst c8)))
  k_with "subscriptTail List Subscript ref int" => (k_here; (with_reducible show wpAny _ _ (subscriptTail _ _ (Value.ref _) (Value.int _ _)) _ _ _); k_dflt (refine' item_new ?k1 ?k2 ?k3 ?k4 ?k5 ?_ ?k6 ?k7; (case k1 => k_asm); (case k2 => k_mem); (case k3 => decide); (case k4 => decide); (case k5 => exact rfl); (case k6 => with_unfolding_all rfl); (case k7 => (intro _; with_unfolding_all rfl))))
  k_with "subscriptTail List Name ref int" => (k_here; (with_reducible show wpAny _ _ (subscriptTail _ _ (Value.ref _) (Value.int _ _)) _ _ _); k_dflt (refine' item_new ?k1 ?k2 ?k3 ?k4 ?k5 ?_ ?k6 ?k7; (case k1 => k_asm); (case k2 => k_mem); (case k3 => decide); (case k4 => decide); (case k5 => exact rfl); (case k6 => with_unfolding_all rfl); (case k7 => (intro _; with_unfolding_all rfl))))
  k_with "call builtin:str.join" => (k_here; (with_reducible show wpAny _ _ (call (Value.builtin "str.join") [Value.str _ _, Value.ref _]) _ _ _); k_dflt (refine' join_rows ?e ?l ?i ?n ?_; (case e => with_unfolding_all rfl); (case l => is_list); (case i => assumption); (case n => first | exact Nat.le_trans (rows_flat (by assumption)) (by decide) | exact Nat.le_trans (sent_flat (by assumption)) (by decide)); intro t6 k6; (try dsimp only)))
  k_with "storeName" => (k_here; k_dflt (refine' store_cell ?c ?m ?d ?U ?F ?N ?_ ?a ?b; (case a => rfl); (case b => rfl); (case c => rfl); (case F => k_asm); (case N => k_asm); (case m => k_mem); (case d => k_asm); (case U => (first | (refine UpdN.head ?_; (repeat (first | exact List.forall_mem_nil _ | (refine List.forall_mem_cons.mpr ⟨Or.inr (by (try dsimp only); omega), ?_⟩)))) | (refine' UpdN.tail ?q ?b3; (case q => first | (exact Or.inl (by intro v e; cases e)) | (exact Or.inr (by (try dsimp only); omega))); (case b3 => (first | (refine UpdN.head ?_; (repeat (first | exact List.forall_mem_nil _ | (refine List.forall_mem_cons.mpr ⟨Or.inr (by (try dsimp only); omega), ?_⟩)))) | (refine' UpdN.tail ?q ?b3; (case q => first | (exact Or.inl (by intro v e; cases e)) | (exact Or.inr (by (try dsimp only); omega))); (case b3 => (first | (refine UpdN.head ?_; (repeat (first | exact List.forall_mem_nil _ | (refine List.forall_mem_cons.mpr ⟨Or.inr (by (try dsimp only); omega), ?_⟩)))) | (refine' UpdN.tail ?q ?b3; (case q => first | (exact Or.inl (by intro v e; cases e)) | (exact Or.inr (by (try dsimp only); omega))); (case b3 => (first | (refine UpdN.head ?_; (repeat (first | exact List.forall_mem_nil _ | (refine List.forall_mem_cons.mpr ⟨Or.inr (by (try dsimp only); omega), ?_⟩)))) | (refine' UpdN.tail ?q ?b3; (case q => first | (exact Or.inl (by intro v e; cases e)) | (exact Or.inr (by (try dsimp only); omega))); (case b3 => (first | (refine UpdN.head ?_; (repeat (first | exact List.forall_mem_nil _ | (refine List.forall_mem_cons.mpr ⟨Or.inr (by (try dsimp only); omega), ?_⟩)))) | (refine' UpdN.tail ?q ?b3; (case q => first | (exact Or.inl (by intro v e; cases e)) | (exact Or.inr (by (try dsimp only); omega))); (case b3 => (first | (refine UpdN.head ?_; (repeat (first | exact List.forall_mem_nil _ | (refine List.forall_mem_cons.mpr ⟨Or.inr (by (try dsimp only); omega), ?_⟩)))) | (refine' UpdN.tail ?q ?b3; (case q => first | (exact Or.inl (by intro v e; cases e)) | (exact Or.inr (by (try dsimp only); omega))); (case b3 => (first | (refine UpdN.head ?_; (repeat (first | exact List.forall_mem_nil _ | (refine List.forall_mem_cons.mpr ⟨Or.inr (by (try dsimp only); omega), ?_⟩)))) | (refine' UpdN.tail ?q ?b3; (case q => first | (exact Or.inl (by intro v e; cases e)) | (exact Or.inr (by (try dsimp only); omega))); (case b3 => (first | (refine UpdN.head ?_; (repeat (first | exact List.forall_mem_nil _ | (refine List.forall_mem_cons.mpr ⟨Or.inr (by (try dsimp only); omega), ?_⟩)))) | (refine' UpdN.tail ?q ?b3; (case q => first | (exact Or.inl (by intro v e; cases e)) | (exact Or.inr (by (try dsimp only); omega))); (case b3 => (first | (refine UpdN.head ?_; (repeat (first | exact List.forall_mem_nil _ | (refine List.forall_mem_cons.mpr ⟨Or.inr (by (try dsimp only); omega), ?_⟩)))) | (refine' UpdN.tail ?q ?b3; (case q => first | (exact Or.inl (by intro v e; cases e)) | (exact Or.inr (by (try dsimp only); omega))); (case b3 => (first | (refine UpdN.head ?_; (repeat (first | exact List.forall_mem_nil _ | (refine List.forall_mem_cons.mpr ⟨Or.inr (by (try dsimp only); omega), ?_⟩)))) | (refine' UpdN.tail ?q ?b3; (case q => first | (exact Or.inl (by intro v e; cases e)) | (exact Or.inr (by (try dsimp only); omega))); (case b3 => (first | (refine UpdN.head ?_; (repeat (first | exact List.forall_mem_nil _ | (refine List.forall_mem_cons.mpr ⟨Or.inr (by (try dsimp only); omega), ?_⟩)))) | (refine' UpdN.tail ?q ?b3; (case q => first | (exact Or.inl (by intro v e; cases e)) | (exact Or.inr (by (try dsimp only); omega))); (case b3 => (first | (refine UpdN.head ?_; (repeat (first | exact List.forall_mem_nil _ | (refine List.forall_mem_cons.mpr ⟨Or.inr (by (try dsimp only); omega), ?_⟩)))) | (refine' UpdN.tail ?q ?b3; (case q => first | (exact Or.inl (by intro v e; cases e)) | (exact Or.inr (by (try dsimp only); omega))); (case b3 => (first | (refine UpdN.head ?_; (repeat (first | exact List.forall_mem_nil _ | (refine List.forall_mem_cons.mpr ⟨Or.inr (by (try dsimp only); omega), ?_⟩)))) | (refine' UpdN.tail ?q ?b3; (case q => first | (exact Or.inl (by intro v e; cases e)) | (exact Or.inr (by (try dsimp only); omega))); (case b3 => (first | (refine UpdN.head ?_; (repeat (first | exact List.forall_mem_nil _ | (refine List.forall_mem_cons.mpr ⟨Or.inr (by (try dsimp only); omega), ?_⟩)))) | (refine' UpdN.tail ?q ?b3; (case q => first | (exact Or.inl (by intro v e; cases e)) | (exact Or.inr (by (try dsimp only); omega))); (case b3 => (first | (refine UpdN.head ?_; (repeat (first | exact List.forall_mem_nil _ | (refine List.forall_mem_cons.mpr ⟨Or.inr (by (try dsimp only); omega), ?_⟩)))) | (refine' UpdN.tail ?q ?b3; (case q => first | (exact Or.inl (by intro v e; cases e)) | (exact Or.inr (by (try dsimp only); omega))); (case b3 => (first | (refine UpdN.head ?_; (repeat (first | exact List.forall_mem_nil _ | (refine List.forall_mem_cons.mpr ⟨Or.inr (by (try dsimp only); omega), ?_⟩)))) | (refine' UpdN.tail ?q ?b3; (case q => first | (exact Or.inl (by intro v e; cases e)) | (exact Or.inr (by (try dsimp only); omega))); (case b3 => (refine UpdN.head ?_; (repeat (first | exact List.forall_mem_nil _ | (refine List.forall_mem_cons.mpr ⟨Or.inr (by (try dsimp only); omega), ?_⟩))))))))))))))))))))))))))))))))))))))))))))))))))))); k_whole; intro h' o' F' N' d'; (try dsimp only at N'); (try k_sweep)))
  k_with "eval ListComp" => (k_here; refine stopHere ?_)
  k_with "exec Assign cons ListComp" => (k_here; (with_reducible show wpAny _ _ (exec (Stmt.Assign [Expr.Name (Str.ofString "rows") _] _ _) _) _ _ _); refine stopHere ?_)
  k_with "exec Assign cons ListComp" => (k_here; (with_reducible show wpAny _ _ (exec (Stmt.Assign [Expr.Name (Str.ofString "twice") _] _ _) _) _ _ _); refine stopHere ?_)
  k_with "CompSrc" => (k_here; refine stopHere ?_)
  k_with "call ref" => (k_here; (with_reducible show wpAny _ _ (call (Value.ref 45) [Value.int _ _, Value.int _ _, Value.int _ _]) _ _ _); refine stopHere ?_)
  trivial
theorem turn_told (w : World) (mean : ExcName → Option Value) (mg mb : Str → Option Value) (h₀ base : Heap) (Z : Here w mean mg mb h₀ base) (fa : Addr) (cd : Value) (L : Addr) (r g b : Int) (p0 : 0 ≤ r) (p1 : 0 ≤ g) (p2 : 0 ≤ b) (p3 : r + g + b = 5) (t1 t2 t3 : Tok) (s : Shared) (u : Str → Option Value) (keep : List (Addr × Obj)) (o6 o7 o8 : Obj)
   (d6 : o6.data = .cell (some (.int r t1))) (d7 : o7.data = .cell (some (.int g t2))) (d8 : o8.data = .cell (some (.int b t3))) (F : Fr h₀ L s.heap u)
   (N : News h₀ L s.heap ((L + 1 + 1 + 1 + 1 + 1 + 1, o6) :: (L + 1 + 1 + 1 + 1 + 1 + 1 + 1, o7) :: (L + 1 + 1 + 1 + 1 + 1 + 1 + 1 + 1, o8) :: keep)) (Q : Flow → Shared → Prop) (E : Value → Shared → Prop)
   (next : ∀ ac u1 u2 u3 n h' tk, s.toks ≤ tk → (s.toks ≤ u1 ∧ u1 < tk) → (s.toks ≤ u2 ∧ u2 < tk) → Fr h₀ L h' (fun z => if z = Str.ofString "told" then some (.ref ac) else u z) → News h₀ L h' ((ac, tupOf #[.float (rgbH r g b) u1, .float (rgbS r g b) u2, .int (mx r g b) u3] n) :: (L + 1 + 1 + 1 + 1 + 1 + 1, o6) :: (L + 1 + 1 + 1 + 1 + 1 + 1 + 1, o7) :: (L + 1 + 1 + 1 + 1 + 1 + 1 + 1 + 1, o8) :: keep) → TurnGo 5 w L fa cd Q E { s with heap := h', toks := tk }) :
   TurnGo 4 w L fa cd Q E s := by
  obtain ⟨B, X, T, XB, TB⟩ := Z
  refine turn_row (by unfold turnBody aBody lawRec recOf; rfl) ?_
  unfold lawEnv lawRec recOf
  dsimp only
  revert X
  k_fill
  intro X
  k_steps
  unfold Stop
  refine claimK_use (c_rgb w mean mg mb r g b t1 t2 t3 p0 p1 p2 (by omega) (by omega)) (by k_asm) (by k_asm) (by k_asm) (by k_asm) (by k_asm) rfl trivial (by ktr_room) (by ktr_units) ?_
  rintro r9 tl9 h9 tk9 F9 N9 K9 l9 ⟨a9, H9, S9, V9, u1, u2, u3, n9, rfl, rfl, rfl, rfl, rfl, ⟨y1, y2⟩, y3, y4⟩
  try dsimp only at y1 y2 y3 y4
  rw [List.cons_append, List.nil_append] at N9
  clear l9 K9
  k_steps
  have y5 : u1 < tk9 + 1 := Nat.lt_succ_of_lt y2
  have y6 : u2 < tk9 + 1 := Nat.lt_succ_of_lt y4
  exact fun hk => next a9 u1 u2 u3 n9 _ (tk9 + 1) hk ⟨by omega, y5⟩ ⟨by omega, y6⟩ (by assumption) (by assumption)
end Mine

end
-- T3
section
open PySem PySem.W PyProof.Rows PySem.Calls
set_option maxRecDepth 100000
set_option maxHeartbeats 8000000
namespace Mine
theorem fresh_T3 : True := by
  w_top off
  k_with_none
  trivial
theorem rows_T3_1 : True := by
  k_with "cell_enter" => (refine' code_defE ?k1 ?k2 ?k3 ?k5 ?kA ?kF ?kK ?k6 ?k7 ?k8 ?k9 ?kB ?_ ?c2 ?c3 ?c4 ?c5; (case kA => exact rfl); (case kF => exact rfl); (case kK => assumption); (case k1 => k_asm); (case k2 => k_asm); (case k3 => k_asm); (case k5 => k_asm); (case k6 => k_is); (case k7 => k_is); (case k8 => ktr_room); (case k9 => exact BindsTo.of_eq rfl); (case c5 => decide); (case kB => exact locs rfl); (case c2 => exact rfl); (case c3 => exact rfl); (case c4 => exact rfl); k_whole; intro L' h' F' N' B' X' T'; (try dsimp only); (try k_lift B'); (try k_fold))
  trivial
/-- a place that rounds to n when a half is added -/
def RoundsV (p : Value) (n : Int) : Prop :=
  (∃ k t, p = .int k t ∧ k.natAbs ≤ 2 ^ 40 ∧ Float64.isFinite (Float64.add (Float64.ofInt k) half) = true ∧ Flt.toInt Float64.truncOf (Float64.add (Float64.ofInt k) half) = n) ∨
  (∃ x t, p = .float x t ∧ Float64.isFinite (Float64.add x half) = true ∧ Flt.toInt Float64.truncOf (Float64.add x half) = n)
theorem rounds_i {k n : Int} {t : Tok} (h : (PV.i k).ok n = true) : RoundsV (.int k t) n := by
  simp only [PV.ok, PV.small, PV.q, Bool.and_eq_true, decide_eq_true_eq] at h
  exact .inl ⟨k, t, rfl, h.1.1, h.1.2, of_decide_eq_true h.2⟩
theorem rounds_f {x : UInt64} {n : Int} {t : Tok} (h : (PV.f x).ok n = true) : RoundsV (.float x t) n := by
  simp only [PV.ok, PV.small, PV.q, Bool.and_eq_true, decide_eq_true_eq] at h
  exact .inr ⟨x, t, rfl, h.1.2, of_decide_eq_true h.2⟩
theorem chk_parts {r g b : Int} (h : chk r g b = true) : (Float64.cmp (rgbS r g b) 0 == some Ordering.eq) = false ∧ Float64.isFinite (Float64.mul (rgbH r g b) 4618441417868443648) = true ∧
    0 ≤ Flt.toInt Float64.truncOf (Float64.mul (rgbH r g b) 4618441417868443648) ∧ Flt.toInt Float64.truncOf (Float64.mul (rgbH r g b) 4618441417868443648) ≤ 5 ∧
    (hsvVals (rgbH r g b) (rgbS r g b) (2147483648 * mx r g b)).1.ok (2147483648 * r) = true ∧ (hsvVals (rgbH r g b) (rgbS r g b) (2147483648 * mx r g b)).2.1.ok (2147483648 * g) = true ∧ (hsvVals (rgbH r g b) (rgbS r g b) (2147483648 * mx r g b)).2.2.ok (2147483648 * b) = true := by
  simp only [chk, Bool.and_eq_true, Bool.not_eq_true', decide_eq_true_eq] at h
  obtain ⟨⟨⟨⟨⟨⟨a1, a2⟩, a3⟩, a4⟩, a5⟩, a6⟩, a7⟩ := h
  exact ⟨a1, a2, a3, a4, a5, a6, a7⟩
theorem hsv0 {h s : UInt64} {v : Int} (e : (Flt.toInt Float64.truncOf (Float64.mul h 4618441417868443648)).fmod 6 = 0) : hsvVals h s v = (.i v, .f (hT h s v), .f (hP s v)) := by
  unfold hsvVals; rw [if_pos (show (hI h).fmod 6 = 0 from e)]
theorem hsv1 {h s : UInt64} {v : Int} (e : (Flt.toInt Float64.truncOf (Float64.mul h 4618441417868443648)).fmod 6 = 1) : hsvVals h s v = (.f (hQ h s v), .i v, .f (hP s v)) := by
  unfold hsvVals; rw [if_neg (show ¬ (hI h).fmod 6 = 0 from fun x => absurd (e.symm.trans x) (by decide)), if_pos (show (hI h).fmod 6 = 1 from e)]
theorem hsv2 {h s : UInt64} {v : Int} (e : (Flt.toInt Float64.truncOf (Float64.mul h 4618441417868443648)).fmod 6 = 2) : hsvVals h s v = (.f (hP s v), .i v, .f (hT h s v)) := by
  unfold hsvVals; rw [if_neg (show ¬ (hI h).fmod 6 = 0 from fun x => absurd (e.symm.trans x) (by decide)), if_neg (show ¬ (hI h).fmod 6 = 1 from fun x => absurd (e.symm.trans x) (by decide)), if_pos (show (hI h).fmod 6 = 2 from e)]
theorem hsv3 {h s : UInt64} {v : Int} (e : (Flt.toInt Float64.truncOf (Float64.mul h 4618441417868443648)).fmod 6 = 3) : hsvVals h s v = (.f (hP s v), .f (hQ h s v), .i v) := by
  unfold hsvVals; rw [if_neg (show ¬ (hI h).fmod 6 = 0 from fun x => absurd (e.symm.trans x) (by decide)), if_neg (show ¬ (hI h).fmod 6 = 1 from fun x => absurd (e.symm.trans x) (by decide)), if_neg (show ¬ (hI h).fmod 6 = 2 from fun x => absurd (e.symm.trans x) (by decide)), if_pos (show (hI h).fmod 6 = 3 from e)]
theorem hsv4 {h s : UInt64} {v : Int} (e : (Flt.toInt Float64.truncOf (Float64.mul h 4618441417868443648)).fmod 6 = 4) : hsvVals h s v = (.f (hT h s v), .f (hP s v), .i v) := by
  unfold hsvVals; rw [if_neg (show ¬ (hI h).fmod 6 = 0 from fun x => absurd (e.symm.trans x) (by decide)), if_neg (show ¬ (hI h).fmod 6 = 1 from fun x => absurd (e.symm.trans x) (by decide)), if_neg (show ¬ (hI h).fmod 6 = 2 from fun x => absurd (e.symm.trans x) (by decide)), if_neg (show ¬ (hI h).fmod 6 = 3 from fun x => absurd (e.symm.trans x) (by decide)), if_pos (show (hI h).fmod 6 = 4 from e)]
theorem hsv5 {h s : UInt64} {v : Int} (e : (Flt.toInt Float64.truncOf (Float64.mul h 4618441417868443648)).fmod 6 = 5) : hsvVals h s v = (.i v, .f (hP s v), .f (hQ h s v)) := by
  unfold hsvVals; rw [if_neg (show ¬ (hI h).fmod 6 = 0 from fun x => absurd (e.symm.trans x) (by decide)), if_neg (show ¬ (hI h).fmod 6 = 1 from fun x => absurd (e.symm.trans x) (by decide)), if_neg (show ¬ (hI h).fmod 6 = 2 from fun x => absurd (e.symm.trans x) (by decide)), if_neg (show ¬ (hI h).fmod 6 = 3 from fun x => absurd (e.symm.trans x) (by decide)), if_neg (show ¬ (hI h).fmod 6 = 4 from fun x => absurd (e.symm.trans x) (by decide))]
theorem c_hsv (w : World) (mean : ExcName → Option Value) (mg mb : Str → Option Value) (r g b V : Int) (h s' : UInt64) (t1 t2 t3 : Tok) (h1 : 0 ≤ r) (h2 : 0 ≤ g) (h3 : 0 ≤ b) (h4 : r + g + b = 5) (eh : h = rgbH r g b) (es : s' = rgbS r g b) (eV : V = 2147483648 * mx r g b) :
   Claim w mean mg mb 52 2 [.float h t1, .float s' t2, .int V t3] (fun _ => True) (fun tl v => ∃ a p1 p2 p3 n, tl = [(a, tupOf #[p1, p2, p3] n)] ∧ v = .ref a ∧ RoundsV p1 (2147483648 * r) ∧ RoundsV p2 (2147483648 * g) ∧ RoundsV p3 (2147483648 * b)) := by
  unfold Claim
  k_fill
  obtain ⟨c1, c2, c3, c4, c5, c6, c7⟩ := chk_parts (chk_of h1 h2 h3 h4)
  have hv1 : 0 ≤ V := by rw [eV]; unfold mx; omega
  have hv2 : V ≤ 2 ^ 35 := by rw [eV]; unfold mx; omega
  rw [← eh] at c2 c3 c4 c5 c6 c7
  rw [← es] at c1 c5 c6 c7
  rw [← eV] at c5 c6 c7
  clear eh es eV
  intro dp un gd cn cs a ccd cl outer A₀ base h₀ L m s Q E B F X T hk hpre hd1 hu hret
  clear hpre
  refine wpAny_call ?_
  k_dflt cell_enter
  k_steps
  all_goals first
    | (exfalso; omega)
    | (refine hret _ _ _ _ _ (Fr.keep (by assumption)) (made_of (by assumption) (fun p hp => hp)) (fun x => x) ⟨_, _, _, _, _, rfl, rfl, ?_, ?_, ?_⟩)
    | (exfalso; (have z1 := Int.fmod_nonneg_of_pos (Flt.toInt Float64.truncOf (Float64.mul h 4618441417868443648)) (show (0 : Int) < 6 by decide)); (have z2 := Int.fmod_lt_of_pos (Flt.toInt Float64.truncOf (Float64.mul h 4618441417868443648)) (show (0 : Int) < 6 by decide)); omega)
  all_goals (first | rw [hsv0 (by assumption)] at c5 c6 c7 | rw [hsv1 (by assumption)] at c5 c6 c7 | rw [hsv2 (by assumption)] at c5 c6 c7 | rw [hsv3 (by assumption)] at c5 c6 c7 | rw [hsv4 (by assumption)] at c5 c6 c7 | rw [hsv5 (by assumption)] at c5 c6 c7)
  all_goals first | exact rounds_i c5 | exact rounds_i c6 | exact rounds_i c7 | exact rounds_f c5 | exact rounds_f c6 | exact rounds_f c7
end Mine

end
-- L25
section
open PySem PySem.W PyProof.Rows PySem.Calls
set_option maxRecDepth 100000
set_option maxHeartbeats 8000000
namespace Mine
theorem fresh_L25 : True := by
  w_top off
  k_with_none
  k_with "omega" => lia
  trivial
theorem rows_L25_1 : True := by
  k_with "call ref" => (k_here; (with_reducible show wpAny _ _ (call (Value.ref 76) [Value.ref _]) _ _ _); k_dflt (refine' claim_use (c_neck _ _ _ _ _ _ _ ?hi ?hn) ?k1 ?k2 ?k3 ?k4 ?k5 ?kK ?kp ?kd ?ku ?_; (case hi => assumption); (case hn => assumption); (case k1 => k_asm); (case k2 => k_asm); (case k3 => k_asm); (case k4 => k_asm); (case k5 => k_asm); (case kK => first | exact rfl | assumption); (case kp => is_list); (case kd => ktr_room); (case ku => ktr_units); intro r9 tl9 h9 tk9 g9 F9 N9 K9 l9 G9 R9; obtain ⟨a9, ws9, bs9, n9, e9, e9', i9, b9⟩ := R9; subst e9; subst e9'; clear l9 K9; simp only [List.cons_append, List.nil_append] at N9; (try dsimp only)))
  k_with "CompEnd" => (k_dflt (refine' LCg.CompEnd.intro ?F ?N _ ?sub ?off ?src (And.intro rfl ?J); (case F => k_asm); (case N => k_asm); (case sub => lcg_sub); (case off => assumption); (case src => lcg_src); (case J => first | exact rows_snoc _ (by assumption) (by assumption) (by first | exact row_red _ | exact row_green _ | exact row_blue _) | exact sent_snoc _ (by assumption) (by assumption) (by first | exact sent_red _ | exact sent_green _ | exact sent_blue _) | exact count_snoc (by assumption) rfl)))
  k_with "subscriptTail Name Name ref int" => (k_here; (with_reducible show wpAny _ _ (subscriptTail _ _ (Value.ref _) (Value.int _ _)) _ _ _); k_dflt (refine' item_bead ?l ?i ?B ?n ?_ ?s ?g; (case l => is_list); (case i => assumption); (case B => assumption); (case n => assumption); (case s => with_unfolding_all rfl); (case g => (intro _; with_unfolding_all rfl)); intro b8 t8 e8 c8; (rcases c8 with c8 | c8 | c8 <;> subst c8)))
  k_with "subscriptTail List Subscript ref int" => (k_here; (with_reducible show wpAny _ _ (subscriptTail _ _ (Value.ref _) (Value.int _ _)) _ _ _); k_dflt (refine' item_new ?k1 ?k2 ?k3 ?k4 ?k5 ?_ ?k6 ?k7; (case k1 => k_asm); (case k2 => k_mem); (case k3 => decide); (case k4 => decide); (case k5 => exact rfl); (case k6 => with_unfolding_all rfl); (case k7 => (intro _; with_unfolding_all rfl))))
  k_with "subscriptTail List Name ref int" => (k_here; (with_reducible show wpAny _ _ (subscriptTail _ _ (Value.ref _) (Value.int _ _)) _ _ _); k_dflt (refine' item_new ?k1 ?k2 ?k3 ?k4 ?k5 ?_ ?k6 ?k7; (case k1 => k_asm); (case k2 => k_mem); (case k3 => decide); (case k4 => decide); (case k5 => exact rfl); (case k6 => with_unfolding_all rfl); (case k7 => (intro _; with_unfolding_all rfl))))
  k_with "call builtin:str.join" => (k_here; (with_reducible show wpAny _ _ (call (Value.builtin "str.join") [Value.str _ _, Value.ref _]) _ _ _); k_dflt (refine' join_rows ?e ?l ?i ?n ?_; (case e => with_unfolding_all rfl); (case l => is_list); (case i => assumption); (case n => first | exact Nat.le_trans (rows_flat (by assumption)) (by decide) | exact Nat.le_trans (sent_flat (by assumption)) (by decide)); intro t6 k6; (try dsimp only)))
  k_with "storeName" => (k_here; k_dflt (refine' store_cell ?c ?m ?d ?U ?F ?N ?_ ?a ?b; (case a => rfl); (case b => rfl); (case c => rfl); (case F => k_asm); (case N => k_asm); (case m => k_mem); (case d => k_asm); (case U => (first | (refine UpdN.head ?_; (repeat (first | exact List.forall_mem_nil _ | (refine List.forall_mem_cons.mpr ⟨Or.inr (by (try dsimp only); omega), ?_⟩)))) | (refine' UpdN.tail ?q ?b3; (case q => first | (exact Or.inl (by intro v e; cases e)) | (exact Or.inr (by (try dsimp only); omega))); (case b3 => (first | (refine UpdN.head ?_; (repeat (first | exact List.forall_mem_nil _ | (refine List.forall_mem_cons.mpr ⟨Or.inr (by (try dsimp only); omega), ?_⟩)))) | (refine' UpdN.tail ?q ?b3; (case q => first | (exact Or.inl (by intro v e; cases e)) | (exact Or.inr (by (try dsimp only); omega))); (case b3 => (first | (refine UpdN.head ?_; (repeat (first | exact List.forall_mem_nil _ | (refine List.forall_mem_cons.mpr ⟨Or.inr (by (try dsimp only); omega), ?_⟩)))) | (refine' UpdN.tail ?q ?b3; (case q => first | (exact Or.inl (by intro v e; cases e)) | (exact Or.inr (by (try dsimp only); omega))); (case b3 => (first | (refine UpdN.head ?_; (repeat (first | exact List.forall_mem_nil _ | (refine List.forall_mem_cons.mpr ⟨Or.inr (by (try dsimp only); omega), ?_⟩)))) | (refine' UpdN.tail ?q ?b3; (case q => first | (exact Or.inl (by intro v e; cases e)) | (exact Or.inr (by (try dsimp only); omega))); (case b3 => (first | (refine UpdN.head ?_; (repeat (first | exact List.forall_mem_nil _ | (refine List.forall_mem_cons.mpr ⟨Or.inr (by (try dsimp only); omega), ?_⟩)))) | (refine' UpdN.tail ?q ?b3; (case q => first | (exact Or.inl (by intro v e; cases e)) | (exact Or.inr (by (try dsimp only); omega))); (case b3 => (first | (refine UpdN.head ?_; (repeat (first | exact List.forall_mem_nil _ | (refine List.forall_mem_cons.mpr ⟨Or.inr (by (try dsimp only); omega), ?_⟩)))) | (refine' UpdN.tail ?q ?b3; (case q => first | (exact Or.inl (by intro v e; cases e)) | (exact Or.inr (by (try dsimp only); omega))); (case b3 => (first | (refine UpdN.head ?_; (repeat (first | exact List.forall_mem_nil _ | (refine List.forall_mem_cons.mpr ⟨Or.inr (by (try dsimp only); omega), ?_⟩)))) | (refine' UpdN.tail ?q ?b3; (case q => first | (exact Or.inl (by intro v e; cases e)) | (exact Or.inr (by (try dsimp only); omega))); (case b3 => (first | (refine UpdN.head ?_; (repeat (first | exact List.forall_mem_nil _ | (refine List.forall_mem_cons.mpr ⟨Or.inr (by (try dsimp only); omega), ?_⟩)))) | (refine' UpdN.tail ?q ?b3; (case q => first | (exact Or.inl (by intro v e; cases e)) | (exact Or.inr (by (try dsimp only); omega))); (case b3 => (first | (refine UpdN.head ?_; (repeat (first | exact List.forall_mem_nil _ | (refine List.forall_mem_cons.mpr ⟨Or.inr (by (try dsimp only); omega), ?_⟩)))) | (refine' UpdN.tail ?q ?b3; (case q => first | (exact Or.inl (by intro v e; cases e)) | (exact Or.inr (by (try dsimp only); omega))); (case b3 => (first | (refine UpdN.head ?_; (repeat (first | exact List.forall_mem_nil _ | (refine List.forall_mem_cons.mpr ⟨Or.inr (by (try dsimp only); omega), ?_⟩)))) | (refine' UpdN.tail ?q ?b3; (case q => first | (exact Or.inl (by intro v e; cases e)) | (exact Or.inr (by (try dsimp only); omega))); (case b3 => (first | (refine UpdN.head ?_; (repeat (first | exact List.forall_mem_nil _ | (refine List.forall_mem_cons.mpr ⟨Or.inr (by (try dsimp only); omega), ?_⟩)))) | (refine' UpdN.tail ?q ?b3; (case q => first | (exact Or.inl (by intro v e; cases e)) | (exact Or.inr (by (try dsimp only); omega))); (case b3 => (first | (refine UpdN.head ?_; (repeat (first | exact List.forall_mem_nil _ | (refine List.forall_mem_cons.mpr ⟨Or.inr (by (try dsimp only); omega), ?_⟩)))) | (refine' UpdN.tail ?q ?b3; (case q => first | (exact Or.inl (by intro v e; cases e)) | (exact Or.inr (by (try dsimp only); omega))); (case b3 => (first | (refine UpdN.head ?_; (repeat (first | exact List.forall_mem_nil _ | (refine List.forall_mem_cons.mpr ⟨Or.inr (by (try dsimp only); omega), ?_⟩)))) | (refine' UpdN.tail ?q ?b3; (case q => first | (exact Or.inl (by intro v e; cases e)) | (exact Or.inr (by (try dsimp only); omega))); (case b3 => (first | (refine UpdN.head ?_; (repeat (first | exact List.forall_mem_nil _ | (refine List.forall_mem_cons.mpr ⟨Or.inr (by (try dsimp only); omega), ?_⟩)))) | (refine' UpdN.tail ?q ?b3; (case q => first | (exact Or.inl (by intro v e; cases e)) | (exact Or.inr (by (try dsimp only); omega))); (case b3 => (first | (refine UpdN.head ?_; (repeat (first | exact List.forall_mem_nil _ | (refine List.forall_mem_cons.mpr ⟨Or.inr (by (try dsimp only); omega), ?_⟩)))) | (refine' UpdN.tail ?q ?b3; (case q => first | (exact Or.inl (by intro v e; cases e)) | (exact Or.inr (by (try dsimp only); omega))); (case b3 => (first | (refine UpdN.head ?_; (repeat (first | exact List.forall_mem_nil _ | (refine List.forall_mem_cons.mpr ⟨Or.inr (by (try dsimp only); omega), ?_⟩)))) | (refine' UpdN.tail ?q ?b3; (case q => first | (exact Or.inl (by intro v e; cases e)) | (exact Or.inr (by (try dsimp only); omega))); (case b3 => (refine UpdN.head ?_; (repeat (first | exact List.forall_mem_nil _ | (refine List.forall_mem_cons.mpr ⟨Or.inr (by (try dsimp only); omega), ?_⟩))))))))))))))))))))))))))))))))))))))))))))))))))))); k_whole; intro h' o' F' N' d'; (try dsimp only at N'); (try k_sweep)))
  k_with "eval ListComp" => (k_here; refine stopHere ?_)
  k_with "exec Assign cons ListComp" => (k_here; (with_reducible show wpAny _ _ (exec (Stmt.Assign [Expr.Name (Str.ofString "rows") _] _ _) _) _ _ _); refine stopHere ?_)
  k_with "exec Assign cons ListComp" => (k_here; (with_reducible show wpAny _ _ (exec (Stmt.Assign [Expr.Name (Str.ofString "twice") _] _ _) _) _ _ _); refine stopHere ?_)
  k_with "CompSrc" => (k_here; refine stopHere ?_)
  k_with "call ref" => (k_here; refine stopHere ?_)
  k_with "subscriptTail Name Constant ref int" => (k_here; refine stopHere ?_)
  trivial
theorem turn_made (w : World) (mean : ExcName → Option Value) (mg mb : Str → Option Value) (h₀ base : Heap) (Z : Here w mean mg mb h₀ base) (fa : Addr) (cd : Value) (L ac : Addr) (r g b : Int) (p0 : 0 ≤ r) (p1 : 0 ≤ g) (p2 : 0 ≤ b) (p3 : r + g + b = 5) (u1 u2 u3 : Tok) (n : Nat) (s : Shared) (u : Str → Option Value) (keep : List (Addr × Obj))
   (hg : leftWithCleanup s.gens = false) (F : Fr h₀ L s.heap (fun z => if z = Str.ofString "told" then some (.ref ac) else u z))
   (N : News h₀ L s.heap ((ac, tupOf #[.float (rgbH r g b) u1, .float (rgbS r g b) u2, .int (mx r g b) u3] n) :: keep)) (Q : Flow → Shared → Prop) (E : Value → Shared → Prop)
   (next : ∀ am q1 q2 q3 n' h' tk g', s.toks ≤ tk → leftWithCleanup g' = false → RoundsV q1 (2147483648 * r) → RoundsV q2 (2147483648 * g) → RoundsV q3 (2147483648 * b) → Fr h₀ L h' (fun z => if z = Str.ofString "made" then some (.ref am) else if z = Str.ofString "told" then some (.ref ac) else u z) →
     News h₀ L h' ((am, tupOf #[q1, q2, q3] n') :: (ac, tupOf #[.float (rgbH r g b) u1, .float (rgbS r g b) u2, .int (mx r g b) u3] n) :: keep) → TurnGo 6 w L fa cd Q E { s with heap := h', toks := tk, gens := g' }) :
   TurnGo 5 w L fa cd Q E s := by
  obtain ⟨B, X, T, XB, TB⟩ := Z
  refine turn_row (by unfold turnBody aBody lawRec recOf; rfl) ?_
  unfold lawEnv lawRec recOf
  dsimp only
  revert X
  k_fill
  intro X
  k_steps
  unfold Stop
  refine item_tupleL (l := [.float (rgbH r g b) u1, .float (rgbS r g b) u2, .int (mx r g b) u3]) ⟨_, (N _ (.head _)).1, rfl, _, rfl⟩ (by decide) (by decide) rfl rfl ?_ (by with_unfolding_all rfl) (by intro _; with_unfolding_all rfl)
  k_steps
  unfold Stop
  refine item_tupleL (l := [.float (rgbH r g b) u1, .float (rgbS r g b) u2, .int (mx r g b) u3]) ⟨_, (N _ (.head _)).1, rfl, _, rfl⟩ (by decide) (by decide) rfl rfl ?_ (by with_unfolding_all rfl) (by intro _; with_unfolding_all rfl)
  k_steps
  unfold Stop
  refine item_tupleL (l := [.float (rgbH r g b) u1, .float (rgbS r g b) u2, .int (mx r g b) u3]) ⟨_, (N _ (.head _)).1, rfl, _, rfl⟩ (by decide) (by decide) rfl rfl ?_ (by with_unfolding_all rfl) (by intro _; with_unfolding_all rfl)
  k_steps
  unfold Stop
  refine claim_use (c_hsv w mean mg mb r g b _ _ _ _ _ _ p0 p1 p2 p3 rfl rfl rfl) (by k_asm) (by k_asm) (by k_asm) (by k_asm) (by k_asm) rfl trivial (by ktr_room) (by ktr_units) ?_
  rintro r9 tl9 h9 tk9 g9 F9 N9 K9 l9 G9 ⟨a9, q1, q2, q3, n9, rfl, rfl, e1, e2, e3⟩
  rw [List.cons_append, List.nil_append] at N9
  clear l9 K9
  k_steps
  exact fun hk => next a9 q1 q2 q3 n9 _ _ _ hk (G9 hg) e1 e2 e3 (by assumption) (by assumption)
end Mine

end
-- CompTup
section
open PySem PySem.W PyProof.Rows PySem.Calls PySem.Spec
set_option maxRecDepth 100000
set_option maxHeartbeats 8000000
namespace Mine
theorem fresh_CompTup : True := by
  w_top off
  k_with_none
  k_with "omega" => lia
  trivial
section
variable {prog : Program} {w : World} {A : Around} {E : Value → Shared → Prop} {s : Shared} {h₀ : Heap} {L : Addr} {m : Str → Option Value} {env : Env}
abbrev tupO (its : Array Value) (n : Nat) : Obj := { cls := .type "tuple", data := .seq its n }
/-- the source of a comprehension over a tuple of the ledger -/
def TupSrc (prog : Program) (w : World) (A : Around) (h₀ : Heap) (L : Addr) (m : Str → Option Value) (env : Env) (elt : PySem.Expr) (x : Str) (scope : Scope) (cl : List (Str × Addr)) (Q : Value → Shared → Prop) (xv : Value) (s₁ : Shared) : Prop :=
  ∃ (t : Addr) (its : Array Value) (k : Nat) (news : List (Addr × Obj)), xv = .ref t ∧ A.handled = none ∧ Fr h₀ L s₁.heap m ∧ News h₀ L s₁.heap news ∧ (t, tupO its k) ∈ news ∧ its.size ≤ 1000 ∧
    ∀ g, LCg.CompRest prog w A h₀ L m env elt x scope cl { s₁ with heap := g } (fun nw => (t, tupO its k) ∈ nw) (fun i v => its[i]? = some v) (LCg.FinE h₀ L m { s₁ with heap := g } Q) its.size 0 [] news
theorem comp_tuple {elt iter : PySem.Expr} {x : Str} {px pos : Pos} {scope : Scope} {cl : List (Str × Addr)} {Q : Value → Shared → Prop}
    (hclos : closureFor scope env = pure cl) (hcell : ∀ y ∈ scope.names, y.2 ≠ .cell) (hkind : scope.kind = .function)
    (hnames : ∀ y ∈ scope.names, y.2 = .local → scope.names.lookup y.1 = some .local) (hx : scope.names.lookup x = some .local) (hs : ∀ y, foldedSetIterable iter env y = pure y)
    (h : wpAny (model prog w) A (eval iter env) (TupSrc prog w A h₀ L m env elt x scope cl Q) E s) :
    wpAny (model prog w) A (eval (.ListComp elt [⟨.Name x px, iter, [], 0⟩] scope pos) env) Q E s := by
  rw [eval_ListComp]
  refine wpAny_comprehension_free (use := none) rfl hs hclos hkind hnames (wpAny_mono h (fun xv s₁ h₁ => ?_) fun _ _ e => e)
  obtain ⟨t, its, k, news, rfl, hh, F, N, hm, hsz, R⟩ := h₁
  have ht : s₁.heap.IsTuple t its := ⟨_, (N _ hm).1, rfl, _, rfl⟩
  have hlt : t < s₁.heap.objs.size := Heap.lt_size (N _ hm).1
  refine wpAny_pyIter_tuple ht ?_
  have up : ∀ b o, s₁.heap.get? b = some o → (s₁.heap.push { cls := .type "tuple_iterator", data := .fields #[.ref t, .int 0 0] }).get? b = some o := fun b o e => Heap.get?_push_of_some _ e
  refine LCg.block_U (S := fun nw => (t, tupO its k) ∈ nw) (Walks.tuple hh s₁.heap.objs.size t (Nat.ne_of_lt hlt) its) (Nat.le_trans hsz (by rw [sizeLine_eq]; decide)) (fun i h st => by obtain ⟨o, e, _⟩ := st.1; exact ⟨o, e⟩) ?st hcell hkind hx ⟨⟨_, Heap.get?_push_size _ rfl, rfl, rfl⟩, ht.at fun o e => up _ o e⟩ (fun b hb => ?_)
      (F.keeps up) (N.grown up) (Nat.ne_of_lt F.ns.lt) (next_is_new F) (fun p hp => Nat.ne_of_lt (Heap.lt_size (N p hp).1)) hm (R _) ?_
  case st =>
    intro i h h' o nw st e e' _ N' S'
    refine ⟨?_, ⟨_, (N' _ S').1, rfl, _, rfl⟩⟩
    obtain ⟨o', q, r⟩ := st.1
    rw [e] at q
    cases q
    exact ⟨o, e', r⟩
  · show b < (s₁.heap.push _).objs.size
    rw [Heap.size_push]
    rcases List.mem_cons.mp hb with rfl | hb
    · exact Nat.lt_succ_self _
    · rw [List.mem_singleton.mp hb]; exact Nat.lt_succ_of_lt hlt
  · intro D C h tk m' ys news' F' N' o1 hn hC₀ hD₀ hCL hDL hCD offC fin
    refine ⟨m', hn, fun h'' hs'' => fin D h'' tk (F'.change hs'' hCL hC₀) (fun p hp => ?_) o1⟩
    refine ⟨hs''.extBut _ _ ?_ (N' p hp).1, (N' p hp).2⟩
    rcases List.mem_cons.mp hp with rfl | hp
    · exact Ne.symm hCD
    · exact offC p hp
end
end Mine

end
-- L26
section
open PySem PySem.W PyProof.Rows PySem.Calls
set_option maxRecDepth 100000
set_option maxHeartbeats 8000000
namespace Mine
theorem fresh_L26 : True := by
  w_top off
  k_with_none
  k_with "omega" => lia
  trivial
theorem rows_L26_1 : True := by
  k_with "call ref" => (k_here; (with_reducible show wpAny _ _ (call (Value.ref 76) [Value.ref _]) _ _ _); k_dflt (refine' claim_use (c_neck _ _ _ _ _ _ _ ?hi ?hn) ?k1 ?k2 ?k3 ?k4 ?k5 ?kK ?kp ?kd ?ku ?_; (case hi => assumption); (case hn => assumption); (case k1 => k_asm); (case k2 => k_asm); (case k3 => k_asm); (case k4 => k_asm); (case k5 => k_asm); (case kK => first | exact rfl | assumption); (case kp => is_list); (case kd => ktr_room); (case ku => ktr_units); intro r9 tl9 h9 tk9 g9 F9 N9 K9 l9 G9 R9; obtain ⟨a9, ws9, bs9, n9, e9, e9', i9, b9⟩ := R9; subst e9; subst e9'; clear l9 K9; simp only [List.cons_append, List.nil_append] at N9; (try dsimp only)))
  k_with "CompEnd" => (k_dflt (refine' LCg.CompEnd.intro ?F ?N _ ?sub ?off ?src (And.intro rfl ?J); (case F => k_asm); (case N => k_asm); (case sub => lcg_sub); (case off => assumption); (case src => lcg_src); (case J => first | exact rows_snoc _ (by assumption) (by assumption) (by first | exact row_red _ | exact row_green _ | exact row_blue _) | exact sent_snoc _ (by assumption) (by assumption) (by first | exact sent_red _ | exact sent_green _ | exact sent_blue _) | exact count_snoc (by assumption) rfl)))
  k_with "subscriptTail Name Name ref int" => (k_here; (with_reducible show wpAny _ _ (subscriptTail _ _ (Value.ref _) (Value.int _ _)) _ _ _); k_dflt (refine' item_bead ?l ?i ?B ?n ?_ ?s ?g; (case l => is_list); (case i => assumption); (case B => assumption); (case n => assumption); (case s => with_unfolding_all rfl); (case g => (intro _; with_unfolding_all rfl)); intro b8 t8 e8 c8; (rcases c8 with c8 | c8 | c8 <;> subst c8)))
  k_with "subscriptTail List Subscript ref int" => (k_here; (with_reducible show wpAny _ _ (subscriptTail _ _ (Value.ref _) (Value.int _ _)) _ _ _); k_dflt (refine' item_new ?k1 ?k2 ?k3 ?k4 ?k5 ?_ ?k6 ?k7; (case k1 => k_asm); (case k2 => k_mem); (case k3 => decide); (case k4 => decide); (case k5 => exact rfl); (case k6 => with_unfolding_all rfl); (case k7 => (intro _; with_unfolding_all rfl))))
  k_with "subscriptTail List Name ref int" => (k_here; (with_reducible show wpAny _ _ (subscriptTail _ _ (Value.ref _) (Value.int _ _)) _ _ _); k_dflt (refine' item_new ?k1 ?k2 ?k3 ?k4 ?k5 ?_ ?k6 ?k7; (case k1 => k_asm); (case k2 => k_mem); (case k3 => decide); (case k4 => decide); (case k5 => exact rfl); (case k6 => with_unfolding_all rfl); (case k7 => (intro _; with_unfolding_all rfl))))
  k_with "call builtin:str.join" => (k_here; (with_reducible show wpAny _ _ (call (Value.builtin "str.join") [Value.str _ _, Value.ref _]) _ _ _); k_dflt (refine' join_rows ?e ?l ?i ?n ?_; (case e => with_unfolding_all rfl); (case l => is_list); (case i => assumption); (case n => first | exact Nat.le_trans (rows_flat (by assumption)) (by decide) | exact Nat.le_trans (sent_flat (by assumption)) (by decide)); intro t6 k6; (try dsimp only)))
  k_with "storeName" => (k_here; k_dflt (refine' store_cell ?c ?m ?d ?U ?F ?N ?_ ?a ?b; (case a => rfl); (case b => rfl); (case c => rfl); (case F => k_asm); (case N => k_asm); (case m => k_mem); (case d => k_asm); (case U => (first | (refine UpdN.head ?_; (repeat (first | exact List.forall_mem_nil _ | (refine List.forall_mem_cons.mpr ⟨Or.inr (by (try dsimp only); omega), ?_⟩)))) | (refine' UpdN.tail ?q ?b3; (case q => first | (exact Or.inl (by intro v e; cases e)) | (exact Or.inr (by (try dsimp only); omega))); (case b3 => (first | (refine UpdN.head ?_; (repeat (first | exact List.forall_mem_nil _ | (refine List.forall_mem_cons.mpr ⟨Or.inr (by (try dsimp only); omega), ?_⟩)))) | (refine' UpdN.tail ?q ?b3; (case q => first | (exact Or.inl (by intro v e; cases e)) | (exact Or.inr (by (try dsimp only); omega))); (case b3 => (first | (refine UpdN.head ?_; (repeat (first | exact List.forall_mem_nil _ | (refine List.forall_mem_cons.mpr ⟨Or.inr (by (try dsimp only); omega), ?_⟩)))) | (refine' UpdN.tail ?q ?b3; (case q => first | (exact Or.inl (by intro v e; cases e)) | (exact Or.inr (by (try dsimp only); omega))); (case b3 => (first | (refine UpdN.head ?_; (repeat (first | exact List.forall_mem_nil _ | (refine List.forall_mem_cons.mpr ⟨Or.inr (by (try dsimp only); omega), ?_⟩)))) | (refine' UpdN.tail ?q ?b3; (case q => first | (exact Or.inl (by intro v e; cases e)) | (exact Or.inr (by (try dsimp only); omega))); (case b3 => (first | (refine UpdN.head ?_; (repeat (first | exact List.forall_mem_nil _ | (refine List.forall_mem_cons.mpr ⟨Or.inr (by (try dsimp only); omega), ?_⟩)))) | (refine' UpdN.tail ?q ?b3; (case q => first | (exact Or.inl (by intro v e; cases e)) | (exact Or.inr (by (try dsimp only); omega))); (case b3 => (first | (refine UpdN.head ?_; (repeat (first | exact List.forall_mem_nil _ | (refine List.forall_mem_cons.mpr ⟨Or.inr (by (try dsimp only); omega), ?_⟩)))) | (refine' UpdN.tail ?q ?b3; (case q => first | (exact Or.inl (by intro v e; cases e)) | (exact Or.inr (by (try dsimp only); omega))); (case b3 => (first | (refine UpdN.head ?_; (repeat (first | exact List.forall_mem_nil _ | (refine List.forall_mem_cons.mpr ⟨Or.inr (by (try dsimp only); omega), ?_⟩)))) | (refine' UpdN.tail ?q ?b3; (case q => first | (exact Or.inl (by intro v e; cases e)) | (exact Or.inr (by (try dsimp only); omega))); (case b3 => (first | (refine UpdN.head ?_; (repeat (first | exact List.forall_mem_nil _ | (refine List.forall_mem_cons.mpr ⟨Or.inr (by (try dsimp only); omega), ?_⟩)))) | (refine' UpdN.tail ?q ?b3; (case q => first | (exact Or.inl (by intro v e; cases e)) | (exact Or.inr (by (try dsimp only); omega))); (case b3 => (first | (refine UpdN.head ?_; (repeat (first | exact List.forall_mem_nil _ | (refine List.forall_mem_cons.mpr ⟨Or.inr (by (try dsimp only); omega), ?_⟩)))) | (refine' UpdN.tail ?q ?b3; (case q => first | (exact Or.inl (by intro v e; cases e)) | (exact Or.inr (by (try dsimp only); omega))); (case b3 => (first | (refine UpdN.head ?_; (repeat (first | exact List.forall_mem_nil _ | (refine List.forall_mem_cons.mpr ⟨Or.inr (by (try dsimp only); omega), ?_⟩)))) | (refine' UpdN.tail ?q ?b3; (case q => first | (exact Or.inl (by intro v e; cases e)) | (exact Or.inr (by (try dsimp only); omega))); (case b3 => (first | (refine UpdN.head ?_; (repeat (first | exact List.forall_mem_nil _ | (refine List.forall_mem_cons.mpr ⟨Or.inr (by (try dsimp only); omega), ?_⟩)))) | (refine' UpdN.tail ?q ?b3; (case q => first | (exact Or.inl (by intro v e; cases e)) | (exact Or.inr (by (try dsimp only); omega))); (case b3 => (first | (refine UpdN.head ?_; (repeat (first | exact List.forall_mem_nil _ | (refine List.forall_mem_cons.mpr ⟨Or.inr (by (try dsimp only); omega), ?_⟩)))) | (refine' UpdN.tail ?q ?b3; (case q => first | (exact Or.inl (by intro v e; cases e)) | (exact Or.inr (by (try dsimp only); omega))); (case b3 => (first | (refine UpdN.head ?_; (repeat (first | exact List.forall_mem_nil _ | (refine List.forall_mem_cons.mpr ⟨Or.inr (by (try dsimp only); omega), ?_⟩)))) | (refine' UpdN.tail ?q ?b3; (case q => first | (exact Or.inl (by intro v e; cases e)) | (exact Or.inr (by (try dsimp only); omega))); (case b3 => (first | (refine UpdN.head ?_; (repeat (first | exact List.forall_mem_nil _ | (refine List.forall_mem_cons.mpr ⟨Or.inr (by (try dsimp only); omega), ?_⟩)))) | (refine' UpdN.tail ?q ?b3; (case q => first | (exact Or.inl (by intro v e; cases e)) | (exact Or.inr (by (try dsimp only); omega))); (case b3 => (first | (refine UpdN.head ?_; (repeat (first | exact List.forall_mem_nil _ | (refine List.forall_mem_cons.mpr ⟨Or.inr (by (try dsimp only); omega), ?_⟩)))) | (refine' UpdN.tail ?q ?b3; (case q => first | (exact Or.inl (by intro v e; cases e)) | (exact Or.inr (by (try dsimp only); omega))); (case b3 => (first | (refine UpdN.head ?_; (repeat (first | exact List.forall_mem_nil _ | (refine List.forall_mem_cons.mpr ⟨Or.inr (by (try dsimp only); omega), ?_⟩)))) | (refine' UpdN.tail ?q ?b3; (case q => first | (exact Or.inl (by intro v e; cases e)) | (exact Or.inr (by (try dsimp only); omega))); (case b3 => (refine UpdN.head ?_; (repeat (first | exact List.forall_mem_nil _ | (refine List.forall_mem_cons.mpr ⟨Or.inr (by (try dsimp only); omega), ?_⟩))))))))))))))))))))))))))))))))))))))))))))))))))))); k_whole; intro h' o' F' N' d'; (try dsimp only at N'); (try k_sweep)))
  k_with "eval ListComp" => (k_here; refine stopHere ?_)
  k_with "exec Assign cons ListComp" => (k_here; (with_reducible show wpAny _ _ (exec (Stmt.Assign [Expr.Name (Str.ofString "rows") _] _ _) _) _ _ _); refine stopHere ?_)
  k_with "exec Assign cons ListComp" => (k_here; (with_reducible show wpAny _ _ (exec (Stmt.Assign [Expr.Name (Str.ofString "twice") _] _ _) _) _ _ _); refine stopHere ?_)
  k_with "CompSrc" => (k_here; refine stopHere ?_)
  k_with "compareOp NotEq ref ref" => (k_here; refine stopHere ?_)
  trivial
theorem fin_nan {x : UInt64} (h : Float64.isFinite x = true) (h' : Float64.isNaN x = true) : False := by
  unfold Float64.isFinite at h
  unfold Float64.isNaN at h'
  cases q : Float64.decode x <;> rw [q] at h h' <;> first | exact Bool.noConfusion h | exact Bool.noConfusion h'
theorem fin_inf {x : UInt64} (h : Float64.isFinite x = true) (h' : Float64.isInf x = true) : False := by
  unfold Float64.isFinite at h
  unfold Float64.isInf at h'
  cases q : Float64.decode x <;> rw [q] at h h' <;> first | exact Bool.noConfusion h | exact Bool.noConfusion h'
theorem ints_snocE {vs : List Value} {ns : List Int} (h : IntsAre vs ns) {n n' : Int} {t : Tok} (e : n = n') : IntsAre (vs ++ [.int n t]) (ns ++ [n']) := e ▸ ints_snoc h n t
theorem turn_if2 (w : World) (mean : ExcName → Option Value) (mg mb : Str → Option Value) (h₀ base : Heap) (Z : Here w mean mg mb h₀ base) (fa : Addr) (cd : Value) (L am tw : Addr) (q1 q2 q3 : Value) (r g b : Int) (e1 : RoundsV q1 (2147483648 * r)) (e2 : RoundsV q2 (2147483648 * g)) (e3 : RoundsV q3 (2147483648 * b)) (t1 t2 t3 : Tok) (n1 n2 : Nat) (s : Shared) (u : Str → Option Value) (vs : Value) (keep : List (Addr × Obj))
   (F : Fr h₀ L s.heap (fun z => if z = Str.ofString "made" then some (.ref am) else if z = Str.ofString "told" then some vs else if z = Str.ofString "twice" then some (.ref tw) else u z))
   (N : News h₀ L s.heap ((am, tupOf #[q1, q2, q3] n1) :: (tw, listOf (List.toArray [.int (2 * r) t1, .int (2 * g) t2, .int (2 * b) t3]) n2) :: keep)) (Q : Flow → Shared → Prop) (E : Value → Shared → Prop)
   (next : ∀ h' tk, s.toks ≤ tk → Fr h₀ L h' (fun z => if z = Str.ofString "made" then some (.ref am) else if z = Str.ofString "told" then some vs else if z = Str.ofString "twice" then some (.ref tw) else u z) →
     News h₀ L h' ((am, tupOf #[q1, q2, q3] n1) :: (tw, listOf (List.toArray [.int (2 * r) t1, .int (2 * g) t2, .int (2 * b) t3]) n2) :: keep) → TurnGo 7 w L fa cd Q E { s with heap := h', toks := tk }) :
   TurnGo 6 w L fa cd Q E s := by
  obtain ⟨B, X, T, XB, TB⟩ := Z
  refine turn_row (by unfold turnBody aBody lawRec recOf; rfl) ?_
  unfold lawEnv lawRec recOf
  dsimp only
  revert X
  k_fill
  intro X
  k_steps
  unfold Stop
  refine comp_tuple (h₀ := h₀) (L := L) (m := fun z => if z = Str.ofString "made" then some (.ref am) else if z = Str.ofString "told" then some vs else if z = Str.ofString "twice" then some (.ref tw) else u z) (by with_unfolding_all rfl) (by decide) (by rfl) (by decide) (by rfl) (by intro _; with_unfolding_all rfl) ?_
  k_steps
  refine ⟨am, #[q1, q2, q3], n1, _, rfl, rfl, F, N, .head _, (show 3 ≤ 1000 by decide), ?_⟩
  intro g7
  refine comp_inv (KeepJ _ (fun i ys => IntsAre ys (([2147483648 * r, 2147483648 * g, 2147483648 * b] : List Int).take i))) ?turn ?fin 3 0 [] _ rfl ⟨rfl, IntsAre.nil⟩
  case fin =>
    rintro ys7 news7 ⟨rfl, hP7⟩
    unfold LCg.FinE
    intro D' h' tk' F' N' _
    k_steps
    unfold Stop
    refine LCg.ListComp_U (F₀ := F') (by with_unfolding_all rfl) (by decide) (by rfl) (by decide) (by rfl) ?_
    k_dflt lcg_toSrc
    unfold Stop
    refine LCg.CompSrc.ledger (its := (List.toArray [.int (2 * r) t1, .int (2 * g) t2, .int (2 * b) t3])) (by rfl) (by k_asm) (by k_asm) (.tail _ (.tail _ (.head _))) (show 3 ≤ sizeLine by rw [sizeLine_eq]; decide) ?_
    intro g8
    refine comp_inv (KeepJ _ (fun i ys => IntsAre ys (([2147483648 * r, 2147483648 * g, 2147483648 * b] : List Int).take i))) ?turn8 ?fin8 _ 0 [] _ (Nat.zero_add _) ⟨rfl, IntsAre.nil⟩
    case fin8 =>
      rintro ys8 news8 ⟨rfl, hP8⟩
      unfold LCg.FinE
      intro D8 h8 tk8 F8 N8 _
      k_steps
      unfold Stop
      refine ne_intsK (of_mem N8 (.tail _ (.head _))) hP7 (of_mem N8 (.head _)) hP8 (by ktr_units) ?_
      rw [decide_eq_true (show List.take (0 + 3) [2147483648 * r, 2147483648 * g, 2147483648 * b] = List.take (#[Value.int (2 * r) t1, Value.int (2 * g) t2, Value.int (2 * b) t3].size) [2147483648 * r, 2147483648 * g, 2147483648 * b] from rfl)]
      k_steps
      exact fun hk => next _ _ hk (by assumption) (fun p hp => N8 p (.tail _ (.tail _ hp)))
    case turn8 =>
      rintro i8 ys8 news8 hi8 ⟨rfl, hP8⟩ v8 I8 oI8 C8 oC8 D8 m8 h8 tk8 E8 hv8 hC8 hx8 F8 N8 off8
      have hz8 : ∃ n t, v8 = .int (2 * n) t ∧ ([2147483648 * r, 2147483648 * g, 2147483648 * b] : List Int)[i8]? = some (2147483648 * n) := by
        have hi9 : i8 < 3 := hi8
        have : i8 = 0 ∨ i8 = 1 ∨ i8 = 2 := by omega
        rcases this with e | e | e
        · subst e; cases hv8; exact ⟨_, _, rfl, rfl⟩
        · subst e; cases hv8; exact ⟨_, _, rfl, rfl⟩
        · subst e; cases hv8; exact ⟨_, _, rfl, rfl⟩
      obtain ⟨n8, t8, rfl, e8⟩ := hz8
      k_steps
      refine LCg.CompEnd.intro F8 N8 _ (fun p hp => hp) off8 (.inr ⟨_, .tail _ (.tail _ (.head _)), rfl, _, rfl⟩) ⟨rfl, ?_⟩
      show IntsAre _ _
      rw [List.take_add_one, e8]
      refine ints_snocE hP8 ?_
      simp only [show (2 : Int) ^ (30 : Int).toNat = 1073741824 from rfl]
      omega
  case turn =>
    rintro i7 ys7 news7 hi7 ⟨rfl, hP7⟩ v7 I7 oI7 C7 oC7 D7 m7 h7 tk7 E7 hv7 hC7 hx7 F7 N7 off7
    have hz : ∃ n, RoundsV v7 n ∧ ([2147483648 * r, 2147483648 * g, 2147483648 * b] : List Int)[i7]? = some n := by
      have hi8 : i7 < 3 := hi7
      have : i7 = 0 ∨ i7 = 1 ∨ i7 = 2 := by omega
      rcases this with rfl | rfl | rfl
      · cases hv7; exact ⟨_, e1, rfl⟩
      · cases hv7; exact ⟨_, e2, rfl⟩
      · cases hv7; exact ⟨_, e3, rfl⟩
    obtain ⟨n7, hR7, e7⟩ := hz
    rcases hR7 with ⟨k7, t7, rfl, f1, f2, f3⟩ | ⟨x7, t7, rfl, f2, f3⟩
    · k_steps
      · exact (fin_nan f2 (by assumption)).elim
      · exact (fin_inf f2 (by assumption)).elim
      · refine LCg.CompEnd.intro F7 N7 _ (fun p hp => hp) off7 (.head _) ⟨rfl, ?_⟩
        show IntsAre _ _
        rw [List.take_add_one, e7]
        exact ints_snocE hP7 f3
    · k_steps
      · exact (fin_nan f2 (by assumption)).elim
      · exact (fin_inf f2 (by assumption)).elim
      · refine LCg.CompEnd.intro F7 N7 _ (fun p hp => hp) off7 (.head _) ⟨rfl, ?_⟩
        show IntsAre _ _
        rw [List.take_add_one, e7]
        exact ints_snocE hP7 f3
end Mine

end
-- TupCut
section
open PySem PySem.W PyProof.Rows PySem.Calls PySem.Spec PyProof.V PySem.SeqAt
set_option maxRecDepth 100000
set_option maxHeartbeats 8000000
namespace Mine
theorem fresh_TupCut : True := by
  w_top off
  k_with_none
  k_with "omega" => lia
  trivial
section
variable {prog : Program} {w : World} {A : Around} {E : Value → Shared → Prop} {s : Shared} {h₀ : Heap} {L : Addr} {m : Str → Option Value} {news : List (Addr × Obj)}
theorem sliceApplied_two {sl : Addr} {u : Tok} {Q : Int × Int × Nat → Shared → Prop} (hs : s.heap.IsSliceOf sl .none (.int 2 u) .none) (h : Q (0, 1, 2) s) :
    wpAny (model prog w) A (Builtin.Slice.sliceApplied (.ref sl) (pure (3 : Int))) Q E s := by
  obtain ⟨os, hos, hcs, hds⟩ := id hs
  unfold Builtin.Slice.sliceApplied Builtin.Slice.sliceFields
  refine wpAny_bind (wpAny_bind (wpAny_field hos hds (x := .none) rfl (wpAny_bind (wpAny_field hos hds (x := .int 2 u) rfl (wpAny_bind (wpAny_field hos hds (x := .none) rfl (wpAny_pure ?_)))))))
  refine wpAny_bind (slicePart_none ?_)
  show wpAny _ _ (if ((1 : Int) == 0) = true then _ else _) _ _ s
  rw [if_neg (by decide)]
  refine wpAny_bind (slicePart_none (wpAny_bind (slicePart_int (wpAny_bind (wpAny_pure ?_)))))
  show wpAny _ _ (match Builtin.Slice.sliceAdjust none (some (2 : Int)) 1 (3 : Int) with | (lo, hi) => pure (lo, (1 : Int), Builtin.Slice.slicePlaces lo hi 1)) _ _ s
  exact wpAny_pure h
theorem getItem_two {t sl : Addr} {x y z : Value} {u : Tok} {Q : Value → Shared → Prop} (ht : IsTup s.heap t #[x, y, z]) (hs : s.heap.IsSliceOf sl .none (.int 2 u) .none)
    (h : Q (.ref s.heap.objs.size) { s with heap := s.heap.push { cls := .type "tuple", data := .seq #[x, y] } }) : wpAny (model prog w) A (getItem (.ref t) (.ref sl)) Q E s := by
  obtain ⟨os, hos, hcs, hds⟩ := id hs
  have hTs : s.TypeIs (.ref sl) "slice" := ⟨os, hos, hcs⟩
  unfold getItem
  try with_reducible refine wpAny_holding ?_
  first | refine wpAny_bind (wpAny_pure ?_) | skip
  refine wpAny_bind (wpAny_sequenceKey ht.typeIs (by decide) ?_)
  refine wpAny_bind (wpAny_callSpecial?_slot (name := Str.ofString "__getitem__") ht.typeIs slot_tuple_getitem
    (wpAny_call_entry slot_tuple_getitem ht.typeIs entry_tuple_getitem ?_ (args_tuple_getitem _ _)))
  show wpAny _ _ (Builtin.Tuple.tupleItemsOf (.ref t) >>= _) _ _ s
  refine wpAny_bind (tupleItemsOf_ ht ?_)
  refine wpAny_bind (wpAny_typeOf hTs ?_)
  rw [if_pos (by decide)]
  refine wpAny_bind (sliceApplied_two hs ?_)
  have hno : ¬ (((0 : Int) == 0 && (1 : Int) == 1 && (2 : Nat) == 3) = true) := by decide
  show wpAny _ _ (if ((0 : Int) == 0 && (1 : Int) == 1 && (2 : Nat) == 3) = true then _ else _) _ _ s
  rw [if_neg hno]
  have hdrop : sizeOk (.seq #[x, y]) := (show 2 ≤ sizeLine by rw [sizeLine_eq]; decide)
  have hp : ((List.range 2).filterMap fun (k : Nat) => (#[x, y, z] : Array Value)[((0 : Int) + (k : Int) * 1).toNat]?).toArray = #[x, y] := rfl
  rw [hp]
  first
    | exact wpAny_bind (m := Builtin.Tuple.tupleExact _) (wpAny_newObj_type (wpAny_pure ⟨_, rfl, wpAny_pure h⟩) hdrop)
    | exact wpAny_bind (m := Builtin.Tuple.tupleExact _) (wpAny_newObj_type (wpAny_bind (wpAny_pure (wpAny_pure ⟨_, rfl, wpAny_pure h⟩))) hdrop)
    | exact wpAny_bind (wpAny_bind (m := Builtin.Tuple.tupleExact _) (wpAny_newObj_type (wpAny_pure (wpAny_pure ⟨_, rfl, wpAny_pure h⟩)) hdrop))
    | exact wpAny_bind (wpAny_bind (m := Builtin.Tuple.tupleExact _) (wpAny_newObj_type (wpAny_pure ⟨_, rfl, wpAny_pure h⟩) hdrop))
theorem slice_two {value slice : PySem.Expr} {t : Addr} {x y z : Value} {u : Tok} {Q : Value → Shared → Prop}
    (F : Fr h₀ L s.heap m) (N : News h₀ L s.heap news) (ht : IsTup s.heap t #[x, y, z])
    (h : ∀ h', Fr h₀ L h' m → News h₀ L h' ((s.heap.objs.size + 1, { cls := .type "tuple", data := .seq #[x, y] }) :: news) → Q (.ref (s.heap.objs.size + 1)) { s with heap := h' })
    (hs : subscripted slice false (.ref t) (.ref s.heap.objs.size) = operate [.ref s.heap.objs.size, .ref t] (getItem (.ref t) (.ref s.heap.objs.size)))
    (hg : ∀ r, letTemporaryGo value (.ref t) r = pure ()) :
    wpAny (model prog w) A (subscriptTail value slice (.ref t) (.ref s.heap.objs.size)) Q E { s with heap := s.heap.push { cls := .type "slice", data := .fields #[.none, .int 2 u, .none] } } := by
  have ht' : IsTup (s.heap.push { cls := .type "slice", data := .fields #[.none, .int 2 u, .none] }) t #[x, y, z] := ht.keeps fun _ _ e => Heap.get?_push_of_some _ e
  refine subscriptTail_ops (s := { s with heap := s.heap.push { cls := .type "slice", data := .fields #[.none, .int 2 u, .none] } }) ht'.typeIs slot_tuple_getitem.lookup
    (getItem_two ht' (Heap.IsSliceOf.new ..) ?_) hs hg
  have N1 := News.push (F.push { cls := .type "slice", data := .fields #[.none, .int 2 u, .none] }) (N.grown fun _ _ e => Heap.get?_push_of_some _ e) { cls := .type "tuple", data := .seq #[x, y] }
  rw [Heap.size_push] at N1
  show Q (.ref (s.heap.push _).objs.size) _
  rw [Heap.size_push]
  exact h _ ((F.push _).push _) N1
theorem same_float {p q : UInt64} {t u : Tok} {Q : Bool → Shared → Prop} (h1 : t ≠ 0) (h2 : u ≠ 0) (h3 : t ≠ u) (hb : NoneBooked s.heap) (hf : Q false s) (hq : (p == q && !Float64.isNaN p) = true → ∀ b, Q b s) : wpAny (model prog w) A (isSame (.float p t) (.float q u)) Q E s := by
  show wpAny _ A (isSame.created (p == q && !Float64.isNaN p) t u) Q E s
  have h0 : (t == 0 || u == 0) = false := by rw [beq_eq_false_iff_ne.mpr h1, beq_eq_false_iff_ne.mpr h2]; rfl
  have h4 : (t == u) = false := beq_eq_false_iff_ne.mpr h3
  unfold isSame.created
  refine wpAny_ite ?_
  split
  · rename_i h; rw [h0] at h; exact absurd h Bool.false_ne_true
  refine wpAny_ite ?_
  split
  · rename_i h; rw [h4] at h; exact absurd h Bool.false_ne_true
  refine wpAny_ite ?_
  split
  · exact wpAny_pure hf
  rename_i hne
  have hq' := hq (by simpa using hne)
  refine wpAny_bind (wpAny_sharingNotTold_none hb ?_)
  first | rw [if_neg Bool.false_ne_true] | simp only [Bool.false_eq_true, if_false]
  refine wpAny_bind (wpAny_sharingNotTold_none hb ?_)
  first | rw [if_neg Bool.false_ne_true] | simp only [Bool.false_eq_true, if_false]
  exact wpAny_bind (wpAny_rule (wpAny_bind (wpAny_askSetting (wpAny_pure (hq' _)))))
theorem eqAt_float {p q : UInt64} {t u : Tok} (h1 : t ≠ 0) (h2 : u ≠ 0) (h3 : t ≠ u) (hb : NoneBooked s.heap) : EqAt A s (.float p t) (.float q u) (Float64.cmp p q == some .eq) := by
  intro prog w E Q hq
  unfold eqBool
  try with_reducible refine wpAny_holding ?_
  show wpAny _ _ (if (Value.float p t == Value.float q u) = true then _ else _) Q E s
  have hab : ¬ (Value.float p t == Value.float q u) = true := by
    intro e
    have := eq_of_beq e
    injection this with _ e2
    exact h3 e2
  rw [if_neg hab]
  have last : wpAny (model prog w) A (richCompare .Eq (.float p t) (.float q u) >>= truthOfDropped) Q E s := by
    refine wpAny_bind (AutoFloatOps.eq_0 ?_)
    exact wpAny_truthy_bool hq
  refine wpAny_bind (same_float h1 h2 h3 hb ?_ ?_)
  · rw [if_neg Bool.false_ne_true]; exact last
  · intro e b
    cases b
    · rw [if_neg Bool.false_ne_true]; exact last
    · rw [if_pos rfl]
      refine wpAny_pure ?_
      obtain ⟨e1, e2⟩ := Bool.and_eq_true_iff.mp e
      have e3 : p = q := eq_of_beq e1
      subst e3
      rw [PySem.Flt.cmp_self, e2] at hq
      exact hq
theorem booked {w : World} (X : (hd.heap_39 w.params).In h₀) (F : Fr h₀ L s.heap m) : NoneBooked s.heap := by
  have X' : (hd.heap_39 w.params).In s.heap := fun a o e => F.keep a o (X a o e)
  have e1 : nsOkIn (hd.heap_39 w.params) cStatics = true := by first | rfl | kernel_rfl | (with_unfolding_all rfl) | decide +kernel
  have e2 : nsIn (hd.heap_39 w.params) cStatics sharingNotToldKey = some none := by first | rfl | kernel_rfl | (with_unfolding_all rfl) | decide +kernel
  exact ⟨_, .of_isNs (isNs_of_in X' e1), nsMap_none_of_in X' e1 e2⟩
end
end Mine

end
-- L27
section
open PySem PySem.W PyProof.Rows PySem.Calls
set_option maxRecDepth 100000
set_option maxHeartbeats 8000000
namespace Mine
theorem fresh_L27 : True := by
  w_top off
  k_with_none
  k_with "omega" => lia
  trivial
theorem rows_L27_1 : True := by
  k_with "call ref" => (k_here; (with_reducible show wpAny _ _ (call (Value.ref 76) [Value.ref _]) _ _ _); k_dflt (refine' claim_use (c_neck _ _ _ _ _ _ _ ?hi ?hn) ?k1 ?k2 ?k3 ?k4 ?k5 ?kK ?kp ?kd ?ku ?_; (case hi => assumption); (case hn => assumption); (case k1 => k_asm); (case k2 => k_asm); (case k3 => k_asm); (case k4 => k_asm); (case k5 => k_asm); (case kK => first | exact rfl | assumption); (case kp => is_list); (case kd => ktr_room); (case ku => ktr_units); intro r9 tl9 h9 tk9 g9 F9 N9 K9 l9 G9 R9; obtain ⟨a9, ws9, bs9, n9, e9, e9', i9, b9⟩ := R9; subst e9; subst e9'; clear l9 K9; simp only [List.cons_append, List.nil_append] at N9; (try dsimp only)))
  k_with "CompEnd" => (k_dflt (refine' LCg.CompEnd.intro ?F ?N _ ?sub ?off ?src (And.intro rfl ?J); (case F => k_asm); (case N => k_asm); (case sub => lcg_sub); (case off => assumption); (case src => lcg_src); (case J => first | exact rows_snoc _ (by assumption) (by assumption) (by first | exact row_red _ | exact row_green _ | exact row_blue _) | exact sent_snoc _ (by assumption) (by assumption) (by first | exact sent_red _ | exact sent_green _ | exact sent_blue _) | exact count_snoc (by assumption) rfl)))
  k_with "subscriptTail Name Name ref int" => (k_here; (with_reducible show wpAny _ _ (subscriptTail _ _ (Value.ref _) (Value.int _ _)) _ _ _); k_dflt (refine' item_bead ?l ?i ?B ?n ?_ ?s ?g; (case l => is_list); (case i => assumption); (case B => assumption); (case n => assumption); (case s => with_unfolding_all rfl); (case g => (intro _; with_unfolding_all rfl)); intro b8 t8 e8 c8; (rcases c8 with c8 | c8 | c8 <;> subst c8)))
  k_with "subscriptTail List Subscript ref int" => (k_here; (with_reducible show wpAny _ _ (subscriptTail _ _ (Value.ref _) (Value.int _ _)) _ _ _); k_dflt (refine' item_new ?k1 ?k2 ?k3 ?k4 ?k5 ?_ ?k6 ?k7; (case k1 => k_asm); (case k2 => k_mem); (case k3 => decide); (case k4 => decide); (case k5 => exact rfl); (case k6 => with_unfolding_all rfl); (case k7 => (intro _; with_unfolding_all rfl))))
  k_with "subscriptTail List Name ref int" => (k_here; (with_reducible show wpAny _ _ (subscriptTail _ _ (Value.ref _) (Value.int _ _)) _ _ _); k_dflt (refine' item_new ?k1 ?k2 ?k3 ?k4 ?k5 ?_ ?k6 ?k7; (case k1 => k_asm); (case k2 => k_mem); (case k3 => decide); (case k4 => decide); (case k5 => exact rfl); (case k6 => with_unfolding_all rfl); (case k7 => (intro _; with_unfolding_all rfl))))
  k_with "call builtin:str.join" => (k_here; (with_reducible show wpAny _ _ (call (Value.builtin "str.join") [Value.str _ _, Value.ref _]) _ _ _); k_dflt (refine' join_rows ?e ?l ?i ?n ?_; (case e => with_unfolding_all rfl); (case l => is_list); (case i => assumption); (case n => first | exact Nat.le_trans (rows_flat (by assumption)) (by decide) | exact Nat.le_trans (sent_flat (by assumption)) (by decide)); intro t6 k6; (try dsimp only)))
  k_with "storeName" => (k_here; k_dflt (refine' store_cell ?c ?m ?d ?U ?F ?N ?_ ?a ?b; (case a => rfl); (case b => rfl); (case c => rfl); (case F => k_asm); (case N => k_asm); (case m => k_mem); (case d => k_asm); (case U => (first | (refine UpdN.head ?_; (repeat (first | exact List.forall_mem_nil _ | (refine List.forall_mem_cons.mpr ⟨Or.inr (by (try dsimp only); omega), ?_⟩)))) | (refine' UpdN.tail ?q ?b3; (case q => first | (exact Or.inl (by intro v e; cases e)) | (exact Or.inr (by (try dsimp only); omega))); (case b3 => (first | (refine UpdN.head ?_; (repeat (first | exact List.forall_mem_nil _ | (refine List.forall_mem_cons.mpr ⟨Or.inr (by (try dsimp only); omega), ?_⟩)))) | (refine' UpdN.tail ?q ?b3; (case q => first | (exact Or.inl (by intro v e; cases e)) | (exact Or.inr (by (try dsimp only); omega))); (case b3 => (first | (refine UpdN.head ?_; (repeat (first | exact List.forall_mem_nil _ | (refine List.forall_mem_cons.mpr ⟨Or.inr (by (try dsimp only); omega), ?_⟩)))) | (refine' UpdN.tail ?q ?b3; (case q => first | (exact Or.inl (by intro v e; cases e)) | (exact Or.inr (by (try dsimp only); omega))); (case b3 => (first | (refine UpdN.head ?_; (repeat (first | exact List.forall_mem_nil _ | (refine List.forall_mem_cons.mpr ⟨Or.inr (by (try dsimp only); omega), ?_⟩)))) | (refine' UpdN.tail ?q ?b3; (case q => first | (exact Or.inl (by intro v e; cases e)) | (exact Or.inr (by (try dsimp only); omega))); (case b3 => (first | (refine UpdN.head ?_; (repeat (first | exact List.forall_mem_nil _ | (refine List.forall_mem_cons.mpr ⟨Or.inr (by (try dsimp only); omega), ?_⟩)))) | (refine' UpdN.tail ?q ?b3; (case q => first | (exact Or.inl (by intro v e; cases e)) | (exact Or.inr (by (try dsimp only); omega))); (case b3 => (first | (refine UpdN.head ?_; (repeat (first | exact List.forall_mem_nil _ | (refine List.forall_mem_cons.mpr ⟨Or.inr (by (try dsimp only); omega), ?_⟩)))) | (refine' UpdN.tail ?q ?b3; (case q => first | (exact Or.inl (by intro v e; cases e)) | (exact Or.inr (by (try dsimp only); omega))); (case b3 => (first | (refine UpdN.head ?_; (repeat (first | exact List.forall_mem_nil _ | (refine List.forall_mem_cons.mpr ⟨Or.inr (by (try dsimp only); omega), ?_⟩)))) | (refine' UpdN.tail ?q ?b3; (case q => first | (exact Or.inl (by intro v e; cases e)) | (exact Or.inr (by (try dsimp only); omega))); (case b3 => (first | (refine UpdN.head ?_; (repeat (first | exact List.forall_mem_nil _ | (refine List.forall_mem_cons.mpr ⟨Or.inr (by (try dsimp only); omega), ?_⟩)))) | (refine' UpdN.tail ?q ?b3; (case q => first | (exact Or.inl (by intro v e; cases e)) | (exact Or.inr (by (try dsimp only); omega))); (case b3 => (first | (refine UpdN.head ?_; (repeat (first | exact List.forall_mem_nil _ | (refine List.forall_mem_cons.mpr ⟨Or.inr (by (try dsimp only); omega), ?_⟩)))) | (refine' UpdN.tail ?q ?b3; (case q => first | (exact Or.inl (by intro v e; cases e)) | (exact Or.inr (by (try dsimp only); omega))); (case b3 => (first | (refine UpdN.head ?_; (repeat (first | exact List.forall_mem_nil _ | (refine List.forall_mem_cons.mpr ⟨Or.inr (by (try dsimp only); omega), ?_⟩)))) | (refine' UpdN.tail ?q ?b3; (case q => first | (exact Or.inl (by intro v e; cases e)) | (exact Or.inr (by (try dsimp only); omega))); (case b3 => (first | (refine UpdN.head ?_; (repeat (first | exact List.forall_mem_nil _ | (refine List.forall_mem_cons.mpr ⟨Or.inr (by (try dsimp only); omega), ?_⟩)))) | (refine' UpdN.tail ?q ?b3; (case q => first | (exact Or.inl (by intro v e; cases e)) | (exact Or.inr (by (try dsimp only); omega))); (case b3 => (first | (refine UpdN.head ?_; (repeat (first | exact List.forall_mem_nil _ | (refine List.forall_mem_cons.mpr ⟨Or.inr (by (try dsimp only); omega), ?_⟩)))) | (refine' UpdN.tail ?q ?b3; (case q => first | (exact Or.inl (by intro v e; cases e)) | (exact Or.inr (by (try dsimp only); omega))); (case b3 => (first | (refine UpdN.head ?_; (repeat (first | exact List.forall_mem_nil _ | (refine List.forall_mem_cons.mpr ⟨Or.inr (by (try dsimp only); omega), ?_⟩)))) | (refine' UpdN.tail ?q ?b3; (case q => first | (exact Or.inl (by intro v e; cases e)) | (exact Or.inr (by (try dsimp only); omega))); (case b3 => (first | (refine UpdN.head ?_; (repeat (first | exact List.forall_mem_nil _ | (refine List.forall_mem_cons.mpr ⟨Or.inr (by (try dsimp only); omega), ?_⟩)))) | (refine' UpdN.tail ?q ?b3; (case q => first | (exact Or.inl (by intro v e; cases e)) | (exact Or.inr (by (try dsimp only); omega))); (case b3 => (first | (refine UpdN.head ?_; (repeat (first | exact List.forall_mem_nil _ | (refine List.forall_mem_cons.mpr ⟨Or.inr (by (try dsimp only); omega), ?_⟩)))) | (refine' UpdN.tail ?q ?b3; (case q => first | (exact Or.inl (by intro v e; cases e)) | (exact Or.inr (by (try dsimp only); omega))); (case b3 => (first | (refine UpdN.head ?_; (repeat (first | exact List.forall_mem_nil _ | (refine List.forall_mem_cons.mpr ⟨Or.inr (by (try dsimp only); omega), ?_⟩)))) | (refine' UpdN.tail ?q ?b3; (case q => first | (exact Or.inl (by intro v e; cases e)) | (exact Or.inr (by (try dsimp only); omega))); (case b3 => (refine UpdN.head ?_; (repeat (first | exact List.forall_mem_nil _ | (refine List.forall_mem_cons.mpr ⟨Or.inr (by (try dsimp only); omega), ?_⟩))))))))))))))))))))))))))))))))))))))))))))))))))))); k_whole; intro h' o' F' N' d'; (try dsimp only at N'); (try k_sweep)))
  k_with "eval ListComp" => (k_here; refine stopHere ?_)
  k_with "exec Assign cons ListComp" => (k_here; (with_reducible show wpAny _ _ (exec (Stmt.Assign [Expr.Name (Str.ofString "rows") _] _ _) _) _ _ _); refine stopHere ?_)
  k_with "exec Assign cons ListComp" => (k_here; (with_reducible show wpAny _ _ (exec (Stmt.Assign [Expr.Name (Str.ofString "twice") _] _ _) _) _ _ _); refine stopHere ?_)
  k_with "CompSrc" => (k_here; refine stopHere ?_)
  k_with "subscriptTail Name Slice ref ref" => (k_here; refine stopHere ?_)
  k_with "compareOp Eq ref ref" => (k_here; refine stopHere ?_)
  trivial
theorem turn_same (w : World) (mean : ExcName → Option Value) (mg mb : Str → Option Value) (h₀ base : Heap) (Z : Here w mean mg mb h₀ base) (fa : Addr) (cd : Value) (L at_ ac : Addr) (H1 S1 H2 S2 : UInt64) (v1 v2 : Value) (u1 u2 u3 u4 : Tok) (n1 n2 : Nat) (s : Shared) (u : Str → Option Value) (um : Value) (keep : List (Addr × Obj)) (y1 : u1 ≠ 0) (y2 : u2 ≠ 0) (y3 : u3 ≠ 0) (y4 : u4 ≠ 0) (y5 : u1 ≠ u3) (y6 : u2 ≠ u4)
   (F : Fr h₀ L s.heap (fun z => if z = Str.ofString "made" then some um else if z = Str.ofString "told" then some (.ref at_) else if z = Str.ofString "colour" then some (.ref ac) else u z))
   (N : News h₀ L s.heap ((at_, tupOf #[.float H1 u1, .float S1 u2, v1] n1) :: (ac, tupOf #[.float H2 u3, .float S2 u4, v2] n2) :: keep)) (Q : Flow → Shared → Prop) (E : Value → Shared → Prop)
   (next : ∀ h' tk, s.toks ≤ tk → Fr h₀ L h' (fun z => if z = Str.ofString "same" then some (.bool ((Float64.cmp H1 H2 == some .eq) && (Float64.cmp S1 S2 == some .eq))) else if z = Str.ofString "made" then some um else if z = Str.ofString "told" then some (.ref at_) else if z = Str.ofString "colour" then some (.ref ac) else u z) →
     News h₀ L h' ((at_, tupOf #[.float H1 u1, .float S1 u2, v1] n1) :: (ac, tupOf #[.float H2 u3, .float S2 u4, v2] n2) :: keep) → TurnGo 8 w L fa cd Q E { s with heap := h', toks := tk }) :
   TurnGo 7 w L fa cd Q E s := by
  obtain ⟨B, X, T, XB, TB⟩ := Z
  refine turn_row (by unfold turnBody aBody lawRec recOf; rfl) ?_
  unfold lawEnv lawRec recOf
  dsimp only
  revert X
  k_fill
  intro X
  have hb : NoneBooked s.heap := booked X F
  k_steps
  unfold Stop
  refine slice_two F N ⟨_, (N _ (.head _)).1, rfl, _, rfl⟩ ?_ (by with_unfolding_all rfl) (by kmk_pure)
  intro h1 F1 N1
  k_steps
  unfold Stop
  refine slice_two F1 N1 ⟨_, (N1 _ (.tail _ (.tail _ (.head _)))).1, rfl, _, rfl⟩ ?_ (by with_unfolding_all rfl) (by kmk_pure)
  intro h2 F2 N2
  k_steps
  unfold Stop
  have e1 : (Shared.heap { s with heap := h2 }).IsTuple _ #[.float H1 u1, .float S1 u2] := ⟨_, (N2 _ (.tail _ (.head _))).1, rfl, _, rfl⟩
  have e2 : (Shared.heap { s with heap := h2 }).IsTuple _ #[.float H2 u3, .float S2 u4] := ⟨_, (N2 _ (.head _)).1, rfl, _, rfl⟩
  have hb2 : NoneBooked h2 := booked (s := { s with heap := h2 }) X F2
  refine PySem.SeqAt.eq_tupleAt (e := fun j => if j = 0 then Float64.cmp H1 H2 == some .eq else Float64.cmp S1 S2 == some .eq) e1 e2 (by ktr_units) ?_ ?_
  · intro j j1 j2
    have j3 : j < 2 := j1
    have : j = 0 ∨ j = 1 := by omega
    rcases this with e | e
    · subst e; exact eqAt_float y1 y3 y5 hb2
    · subst e; exact eqAt_float y2 y4 y6 hb2
  have ev : ((List.range (min (#[Value.float H1 u1, Value.float S1 u2].size) (#[Value.float H2 u3, Value.float S2 u4].size))).all (fun j => if j = 0 then Float64.cmp H1 H2 == some .eq else Float64.cmp S1 S2 == some .eq) && (#[Value.float H1 u1, Value.float S1 u2].size == #[Value.float H2 u3, Value.float S2 u4].size)) = ((Float64.cmp H1 H2 == some .eq) && (Float64.cmp S1 S2 == some .eq)) := by
    show (((Float64.cmp H1 H2 == some .eq) && ((Float64.cmp S1 S2 == some .eq) && true)) && true) = _
    simp only [Bool.and_true]
  rw [ev]
  clear ev e1 e2
  k_steps
  rename News _ _ _ _ => N9
  exact fun hk => next _ _ hk (by assumption) (fun p hp => N9 p (.tail _ (.tail _ hp)))
end Mine

end
-- L28
section
open PySem PySem.W PyProof.Rows PySem.Calls
set_option maxRecDepth 100000
set_option maxHeartbeats 8000000
namespace Mine
theorem fresh_L28 : True := by
  w_top off
  k_with_none
  k_with "omega" => lia
  trivial
theorem rows_L28_1 : True := by
  k_with "call ref" => (k_here; (with_reducible show wpAny _ _ (call (Value.ref 76) [Value.ref _]) _ _ _); k_dflt (refine' claim_use (c_neck _ _ _ _ _ _ _ ?hi ?hn) ?k1 ?k2 ?k3 ?k4 ?k5 ?kK ?kp ?kd ?ku ?_; (case hi => assumption); (case hn => assumption); (case k1 => k_asm); (case k2 => k_asm); (case k3 => k_asm); (case k4 => k_asm); (case k5 => k_asm); (case kK => first | exact rfl | assumption); (case kp => is_list); (case kd => ktr_room); (case ku => ktr_units); intro r9 tl9 h9 tk9 g9 F9 N9 K9 l9 G9 R9; obtain ⟨a9, ws9, bs9, n9, e9, e9', i9, b9⟩ := R9; subst e9; subst e9'; clear l9 K9; simp only [List.cons_append, List.nil_append] at N9; (try dsimp only)))
  k_with "CompEnd" => (k_dflt (refine' LCg.CompEnd.intro ?F ?N _ ?sub ?off ?src (And.intro rfl ?J); (case F => k_asm); (case N => k_asm); (case sub => lcg_sub); (case off => assumption); (case src => lcg_src); (case J => first | exact rows_snoc _ (by assumption) (by assumption) (by first | exact row_red _ | exact row_green _ | exact row_blue _) | exact sent_snoc _ (by assumption) (by assumption) (by first | exact sent_red _ | exact sent_green _ | exact sent_blue _) | exact count_snoc (by assumption) rfl)))
  k_with "subscriptTail Name Name ref int" => (k_here; (with_reducible show wpAny _ _ (subscriptTail _ _ (Value.ref _) (Value.int _ _)) _ _ _); k_dflt (refine' item_bead ?l ?i ?B ?n ?_ ?s ?g; (case l => is_list); (case i => assumption); (case B => assumption); (case n => assumption); (case s => with_unfolding_all rfl); (case g => (intro _; with_unfolding_all rfl)); intro b8 t8 e8 c8; (rcases c8 with c8 | c8 | c8 <;> subst c8)))
  k_with "subscriptTail List Subscript ref int" => (k_here; (with_reducible show wpAny _ _ (subscriptTail _ _ (Value.ref _) (Value.int _ _)) _ _ _); k_dflt (refine' item_new ?k1 ?k2 ?k3 ?k4 ?k5 ?_ ?k6 ?k7; (case k1 => k_asm); (case k2 => k_mem); (case k3 => decide); (case k4 => decide); (case k5 => exact rfl); (case k6 => with_unfolding_all rfl); (case k7 => (intro _; with_unfolding_all rfl))))
  k_with "subscriptTail List Name ref int" => (k_here; (with_reducible show wpAny _ _ (subscriptTail _ _ (Value.ref _) (Value.int _ _)) _ _ _); k_dflt (refine' item_new ?k1 ?k2 ?k3 ?k4 ?k5 ?_ ?k6 ?k7; (case k1 => k_asm); (case k2 => k_mem); (case k3 => decide); (case k4 => decide); (case k5 => exact rfl); (case k6 => with_unfolding_all rfl); (case k7 => (intro _; with_unfolding_all rfl))))
  k_with "call builtin:str.join" => (k_here; (with_reducible show wpAny _ _ (call (Value.builtin "str.join") [Value.str _ _, Value.ref _]) _ _ _); k_dflt (refine' join_rows ?e ?l ?i ?n ?_; (case e => with_unfolding_all rfl); (case l => is_list); (case i => assumption); (case n => first | exact Nat.le_trans (rows_flat (by assumption)) (by decide) | exact Nat.le_trans (sent_flat (by assumption)) (by decide)); intro t6 k6; (try dsimp only)))
  k_with "storeName" => (k_here; k_dflt (refine' store_cell ?c ?m ?d ?U ?F ?N ?_ ?a ?b; (case a => rfl); (case b => rfl); (case c => rfl); (case F => k_asm); (case N => k_asm); (case m => k_mem); (case d => k_asm); (case U => (first | (refine UpdN.head ?_; (repeat (first | exact List.forall_mem_nil _ | (refine List.forall_mem_cons.mpr ⟨Or.inr (by (try dsimp only); omega), ?_⟩)))) | (refine' UpdN.tail ?q ?b3; (case q => first | (exact Or.inl (by intro v e; cases e)) | (exact Or.inr (by (try dsimp only); omega))); (case b3 => (first | (refine UpdN.head ?_; (repeat (first | exact List.forall_mem_nil _ | (refine List.forall_mem_cons.mpr ⟨Or.inr (by (try dsimp only); omega), ?_⟩)))) | (refine' UpdN.tail ?q ?b3; (case q => first | (exact Or.inl (by intro v e; cases e)) | (exact Or.inr (by (try dsimp only); omega))); (case b3 => (first | (refine UpdN.head ?_; (repeat (first | exact List.forall_mem_nil _ | (refine List.forall_mem_cons.mpr ⟨Or.inr (by (try dsimp only); omega), ?_⟩)))) | (refine' UpdN.tail ?q ?b3; (case q => first | (exact Or.inl (by intro v e; cases e)) | (exact Or.inr (by (try dsimp only); omega))); (case b3 => (first | (refine UpdN.head ?_; (repeat (first | exact List.forall_mem_nil _ | (refine List.forall_mem_cons.mpr ⟨Or.inr (by (try dsimp only); omega), ?_⟩)))) | (refine' UpdN.tail ?q ?b3; (case q => first | (exact Or.inl (by intro v e; cases e)) | (exact Or.inr (by (try dsimp only); omega))); (case b3 => (first | (refine UpdN.head ?_; (repeat (first | exact List.forall_mem_nil _ | (refine List.forall_mem_cons.mpr ⟨Or.inr (by (try dsimp only); omega), ?_⟩)))) | (refine' UpdN.tail ?q ?b3; (case q => first | (exact Or.inl (by intro v e; cases e)) | (exact Or.inr (by (try dsimp only); omega))); (case b3 => (first | (refine UpdN.head ?_; (repeat (first | exact List.forall_mem_nil _ | (refine List.forall_mem_cons.mpr ⟨Or.inr (by (try dsimp only); omega), ?_⟩)))) | (refine' UpdN.tail ?q ?b3; (case q => first | (exact Or.inl (by intro v e; cases e)) | (exact Or.inr (by (try dsimp only); omega))); (case b3 => (first | (refine UpdN.head ?_; (repeat (first | exact List.forall_mem_nil _ | (refine List.forall_mem_cons.mpr ⟨Or.inr (by (try dsimp only); omega), ?_⟩)))) | (refine' UpdN.tail ?q ?b3; (case q => first | (exact Or.inl (by intro v e; cases e)) | (exact Or.inr (by (try dsimp only); omega))); (case b3 => (first | (refine UpdN.head ?_; (repeat (first | exact List.forall_mem_nil _ | (refine List.forall_mem_cons.mpr ⟨Or.inr (by (try dsimp only); omega), ?_⟩)))) | (refine' UpdN.tail ?q ?b3; (case q => first | (exact Or.inl (by intro v e; cases e)) | (exact Or.inr (by (try dsimp only); omega))); (case b3 => (first | (refine UpdN.head ?_; (repeat (first | exact List.forall_mem_nil _ | (refine List.forall_mem_cons.mpr ⟨Or.inr (by (try dsimp only); omega), ?_⟩)))) | (refine' UpdN.tail ?q ?b3; (case q => first | (exact Or.inl (by intro v e; cases e)) | (exact Or.inr (by (try dsimp only); omega))); (case b3 => (first | (refine UpdN.head ?_; (repeat (first | exact List.forall_mem_nil _ | (refine List.forall_mem_cons.mpr ⟨Or.inr (by (try dsimp only); omega), ?_⟩)))) | (refine' UpdN.tail ?q ?b3; (case q => first | (exact Or.inl (by intro v e; cases e)) | (exact Or.inr (by (try dsimp only); omega))); (case b3 => (first | (refine UpdN.head ?_; (repeat (first | exact List.forall_mem_nil _ | (refine List.forall_mem_cons.mpr ⟨Or.inr (by (try dsimp only); omega), ?_⟩)))) | (refine' UpdN.tail ?q ?b3; (case q => first | (exact Or.inl (by intro v e; cases e)) | (exact Or.inr (by (try dsimp only); omega))); (case b3 => (first | (refine UpdN.head ?_; (repeat (first | exact List.forall_mem_nil _ | (refine List.forall_mem_cons.mpr ⟨Or.inr (by (try dsimp only); omega), ?_⟩)))) | (refine' UpdN.tail ?q ?b3; (case q => first | (exact Or.inl (by intro v e; cases e)) | (exact Or.inr (by (try dsimp only); omega))); (case b3 => (first | (refine UpdN.head ?_; (repeat (first | exact List.forall_mem_nil _ | (refine List.forall_mem_cons.mpr ⟨Or.inr (by (try dsimp only); omega), ?_⟩)))) | (refine' UpdN.tail ?q ?b3; (case q => first | (exact Or.inl (by intro v e; cases e)) | (exact Or.inr (by (try dsimp only); omega))); (case b3 => (first | (refine UpdN.head ?_; (repeat (first | exact List.forall_mem_nil _ | (refine List.forall_mem_cons.mpr ⟨Or.inr (by (try dsimp only); omega), ?_⟩)))) | (refine' UpdN.tail ?q ?b3; (case q => first | (exact Or.inl (by intro v e; cases e)) | (exact Or.inr (by (try dsimp only); omega))); (case b3 => (first | (refine UpdN.head ?_; (repeat (first | exact List.forall_mem_nil _ | (refine List.forall_mem_cons.mpr ⟨Or.inr (by (try dsimp only); omega), ?_⟩)))) | (refine' UpdN.tail ?q ?b3; (case q => first | (exact Or.inl (by intro v e; cases e)) | (exact Or.inr (by (try dsimp only); omega))); (case b3 => (first | (refine UpdN.head ?_; (repeat (first | exact List.forall_mem_nil _ | (refine List.forall_mem_cons.mpr ⟨Or.inr (by (try dsimp only); omega), ?_⟩)))) | (refine' UpdN.tail ?q ?b3; (case q => first | (exact Or.inl (by intro v e; cases e)) | (exact Or.inr (by (try dsimp only); omega))); (case b3 => (refine UpdN.head ?_; (repeat (first | exact List.forall_mem_nil _ | (refine List.forall_mem_cons.mpr ⟨Or.inr (by (try dsimp only); omega), ?_⟩))))))))))))))))))))))))))))))))))))))))))))))))))))); k_whole; intro h' o' F' N' d'; (try dsimp only at N'); (try k_sweep)))
  k_with "eval ListComp" => (k_here; refine stopHere ?_)
  k_with "exec Assign cons ListComp" => (k_here; (with_reducible show wpAny _ _ (exec (Stmt.Assign [Expr.Name (Str.ofString "rows") _] _ _) _) _ _ _); refine stopHere ?_)
  k_with "exec Assign cons ListComp" => (k_here; (with_reducible show wpAny _ _ (exec (Stmt.Assign [Expr.Name (Str.ofString "twice") _] _ _) _) _ _ _); refine stopHere ?_)
  k_with "CompSrc" => (k_here; refine stopHere ?_)
  k_with "compareOp Eq ref ref" => (k_here; refine stopHere ?_)
  trivial
theorem turn_if3 (w : World) (mean : ExcName → Option Value) (mg mb : Str → Option Value) (h₀ base : Heap) (Z : Here w mean mg mb h₀ base) (fa : Addr) (cd : Value) (L tw aw : Addr) (zs wz : List Value) (xs ys : List Int) (hz : IntsAre zs xs) (hw : IntsAre wz ys) (n1 n2 : Nat) (s : Shared) (u : Str → Option Value) (keep : List (Addr × Obj)) (o2 : Obj)
   (d2 : o2.data = .cell (some (.ref aw))) (F : Fr h₀ L s.heap (fun z => if z = Str.ofString "same" then some (.bool (decide (xs = ys))) else if z = Str.ofString "twice" then some (.ref tw) else u z))
   (N : News h₀ L s.heap ((tw, listOf zs.toArray n1) :: (aw, listOf wz.toArray n2) :: (L + 1 + 1, o2) :: keep)) (Q : Flow → Shared → Prop) (E : Value → Shared → Prop)
   (next : ∀ h' tk, s.toks ≤ tk → Fr h₀ L h' (fun z => if z = Str.ofString "same" then some (.bool (decide (xs = ys))) else if z = Str.ofString "twice" then some (.ref tw) else u z) →
     News h₀ L h' ((tw, listOf zs.toArray n1) :: (aw, listOf wz.toArray n2) :: (L + 1 + 1, o2) :: keep) → TurnGo 9 w L fa cd Q E { s with heap := h', toks := tk }) :
   TurnGo 8 w L fa cd Q E s := by
  obtain ⟨B, X, T, XB, TB⟩ := Z
  refine turn_row (by unfold turnBody aBody lawRec recOf; rfl) ?_
  unfold lawEnv lawRec recOf
  dsimp only
  revert X
  k_fill
  intro X
  k_steps
  unfold Stop
  refine eq_intsK (of_mem N (.head _)) hz (of_mem N (.tail _ (.head _))) hw (by ktr_units) ?_
  revert F next
  generalize decide (xs = ys) = q
  intro F next
  cases q
  all_goals k_steps
  all_goals exact fun hk => next _ _ hk F N
end Mine

end
-- L29
section
open PySem PySem.W PyProof.Rows PySem.Calls
set_option maxRecDepth 100000
set_option maxHeartbeats 8000000
namespace Mine
theorem fresh_L29 : True := by
  w_top off
  k_with_none
  k_with "omega" => lia
  trivial
theorem rows_L29_1 : True := by
  k_with "call ref" => (k_here; (with_reducible show wpAny _ _ (call (Value.ref 76) [Value.ref _]) _ _ _); k_dflt (refine' claim_use (c_neck _ _ _ _ _ _ _ ?hi ?hn) ?k1 ?k2 ?k3 ?k4 ?k5 ?kK ?kp ?kd ?ku ?_; (case hi => assumption); (case hn => assumption); (case k1 => k_asm); (case k2 => k_asm); (case k3 => k_asm); (case k4 => k_asm); (case k5 => k_asm); (case kK => first | exact rfl | assumption); (case kp => is_list); (case kd => ktr_room); (case ku => ktr_units); intro r9 tl9 h9 tk9 g9 F9 N9 K9 l9 G9 R9; obtain ⟨a9, ws9, bs9, n9, e9, e9', i9, b9⟩ := R9; subst e9; subst e9'; clear l9 K9; simp only [List.cons_append, List.nil_append] at N9; (try dsimp only)))
  k_with "CompEnd" => (k_dflt (refine' LCg.CompEnd.intro ?F ?N _ ?sub ?off ?src (And.intro rfl ?J); (case F => k_asm); (case N => k_asm); (case sub => lcg_sub); (case off => assumption); (case src => lcg_src); (case J => first | exact rows_snoc _ (by assumption) (by assumption) (by first | exact row_red _ | exact row_green _ | exact row_blue _) | exact sent_snoc _ (by assumption) (by assumption) (by first | exact sent_red _ | exact sent_green _ | exact sent_blue _) | exact count_snoc (by assumption) rfl)))
  k_with "subscriptTail Name Name ref int" => (k_here; (with_reducible show wpAny _ _ (subscriptTail _ _ (Value.ref _) (Value.int _ _)) _ _ _); k_dflt (refine' item_bead ?l ?i ?B ?n ?_ ?s ?g; (case l => is_list); (case i => assumption); (case B => assumption); (case n => assumption); (case s => with_unfolding_all rfl); (case g => (intro _; with_unfolding_all rfl)); intro b8 t8 e8 c8; (rcases c8 with c8 | c8 | c8 <;> subst c8)))
  k_with "subscriptTail List Subscript ref int" => (k_here; (with_reducible show wpAny _ _ (subscriptTail _ _ (Value.ref _) (Value.int _ _)) _ _ _); k_dflt (refine' item_new ?k1 ?k2 ?k3 ?k4 ?k5 ?_ ?k6 ?k7; (case k1 => k_asm); (case k2 => k_mem); (case k3 => decide); (case k4 => decide); (case k5 => exact rfl); (case k6 => with_unfolding_all rfl); (case k7 => (intro _; with_unfolding_all rfl))))
  k_with "subscriptTail List Name ref int" => (k_here; (with_reducible show wpAny _ _ (subscriptTail _ _ (Value.ref _) (Value.int _ _)) _ _ _); k_dflt (refine' item_new ?k1 ?k2 ?k3 ?k4 ?k5 ?_ ?k6 ?k7; (case k1 => k_asm); (case k2 => k_mem); (case k3 => decide); (case k4 => decide); (case k5 => exact rfl); (case k6 => with_unfolding_all rfl); (case k7 => (intro _; with_unfolding_all rfl))))
  k_with "call builtin:str.join" => (k_here; (with_reducible show wpAny _ _ (call (Value.builtin "str.join") [Value.str _ _, Value.ref _]) _ _ _); k_dflt (refine' join_rows ?e ?l ?i ?n ?_; (case e => with_unfolding_all rfl); (case l => is_list); (case i => assumption); (case n => first | exact Nat.le_trans (rows_flat (by assumption)) (by decide) | exact Nat.le_trans (sent_flat (by assumption)) (by decide)); intro t6 k6; (try dsimp only)))
  k_with "storeName" => (k_here; k_dflt (refine' store_cell ?c ?m ?d ?U ?F ?N ?_ ?a ?b; (case a => rfl); (case b => rfl); (case c => rfl); (case F => k_asm); (case N => k_asm); (case m => k_mem); (case d => k_asm); (case U => (first | (refine UpdN.head ?_; (repeat (first | exact List.forall_mem_nil _ | (refine List.forall_mem_cons.mpr ⟨Or.inr (by (try dsimp only); omega), ?_⟩)))) | (refine' UpdN.tail ?q ?b3; (case q => first | (exact Or.inl (by intro v e; cases e)) | (exact Or.inr (by (try dsimp only); omega))); (case b3 => (first | (refine UpdN.head ?_; (repeat (first | exact List.forall_mem_nil _ | (refine List.forall_mem_cons.mpr ⟨Or.inr (by (try dsimp only); omega), ?_⟩)))) | (refine' UpdN.tail ?q ?b3; (case q => first | (exact Or.inl (by intro v e; cases e)) | (exact Or.inr (by (try dsimp only); omega))); (case b3 => (first | (refine UpdN.head ?_; (repeat (first | exact List.forall_mem_nil _ | (refine List.forall_mem_cons.mpr ⟨Or.inr (by (try dsimp only); omega), ?_⟩)))) | (refine' UpdN.tail ?q ?b3; (case q => first | (exact Or.inl (by intro v e; cases e)) | (exact Or.inr (by (try dsimp only); omega))); (case b3 => (first | (refine UpdN.head ?_; (repeat (first | exact List.forall_mem_nil _ | (refine List.forall_mem_cons.mpr ⟨Or.inr (by (try dsimp only); omega), ?_⟩)))) | (refine' UpdN.tail ?q ?b3; (case q => first | (exact Or.inl (by intro v e; cases e)) | (exact Or.inr (by (try dsimp only); omega))); (case b3 => (first | (refine UpdN.head ?_; (repeat (first | exact List.forall_mem_nil _ | (refine List.forall_mem_cons.mpr ⟨Or.inr (by (try dsimp only); omega), ?_⟩)))) | (refine' UpdN.tail ?q ?b3; (case q => first | (exact Or.inl (by intro v e; cases e)) | (exact Or.inr (by (try dsimp only); omega))); (case b3 => (first | (refine UpdN.head ?_; (repeat (first | exact List.forall_mem_nil _ | (refine List.forall_mem_cons.mpr ⟨Or.inr (by (try dsimp only); omega), ?_⟩)))) | (refine' UpdN.tail ?q ?b3; (case q => first | (exact Or.inl (by intro v e; cases e)) | (exact Or.inr (by (try dsimp only); omega))); (case b3 => (first | (refine UpdN.head ?_; (repeat (first | exact List.forall_mem_nil _ | (refine List.forall_mem_cons.mpr ⟨Or.inr (by (try dsimp only); omega), ?_⟩)))) | (refine' UpdN.tail ?q ?b3; (case q => first | (exact Or.inl (by intro v e; cases e)) | (exact Or.inr (by (try dsimp only); omega))); (case b3 => (first | (refine UpdN.head ?_; (repeat (first | exact List.forall_mem_nil _ | (refine List.forall_mem_cons.mpr ⟨Or.inr (by (try dsimp only); omega), ?_⟩)))) | (refine' UpdN.tail ?q ?b3; (case q => first | (exact Or.inl (by intro v e; cases e)) | (exact Or.inr (by (try dsimp only); omega))); (case b3 => (first | (refine UpdN.head ?_; (repeat (first | exact List.forall_mem_nil _ | (refine List.forall_mem_cons.mpr ⟨Or.inr (by (try dsimp only); omega), ?_⟩)))) | (refine' UpdN.tail ?q ?b3; (case q => first | (exact Or.inl (by intro v e; cases e)) | (exact Or.inr (by (try dsimp only); omega))); (case b3 => (first | (refine UpdN.head ?_; (repeat (first | exact List.forall_mem_nil _ | (refine List.forall_mem_cons.mpr ⟨Or.inr (by (try dsimp only); omega), ?_⟩)))) | (refine' UpdN.tail ?q ?b3; (case q => first | (exact Or.inl (by intro v e; cases e)) | (exact Or.inr (by (try dsimp only); omega))); (case b3 => (first | (refine UpdN.head ?_; (repeat (first | exact List.forall_mem_nil _ | (refine List.forall_mem_cons.mpr ⟨Or.inr (by (try dsimp only); omega), ?_⟩)))) | (refine' UpdN.tail ?q ?b3; (case q => first | (exact Or.inl (by intro v e; cases e)) | (exact Or.inr (by (try dsimp only); omega))); (case b3 => (first | (refine UpdN.head ?_; (repeat (first | exact List.forall_mem_nil _ | (refine List.forall_mem_cons.mpr ⟨Or.inr (by (try dsimp only); omega), ?_⟩)))) | (refine' UpdN.tail ?q ?b3; (case q => first | (exact Or.inl (by intro v e; cases e)) | (exact Or.inr (by (try dsimp only); omega))); (case b3 => (first | (refine UpdN.head ?_; (repeat (first | exact List.forall_mem_nil _ | (refine List.forall_mem_cons.mpr ⟨Or.inr (by (try dsimp only); omega), ?_⟩)))) | (refine' UpdN.tail ?q ?b3; (case q => first | (exact Or.inl (by intro v e; cases e)) | (exact Or.inr (by (try dsimp only); omega))); (case b3 => (first | (refine UpdN.head ?_; (repeat (first | exact List.forall_mem_nil _ | (refine List.forall_mem_cons.mpr ⟨Or.inr (by (try dsimp only); omega), ?_⟩)))) | (refine' UpdN.tail ?q ?b3; (case q => first | (exact Or.inl (by intro v e; cases e)) | (exact Or.inr (by (try dsimp only); omega))); (case b3 => (first | (refine UpdN.head ?_; (repeat (first | exact List.forall_mem_nil _ | (refine List.forall_mem_cons.mpr ⟨Or.inr (by (try dsimp only); omega), ?_⟩)))) | (refine' UpdN.tail ?q ?b3; (case q => first | (exact Or.inl (by intro v e; cases e)) | (exact Or.inr (by (try dsimp only); omega))); (case b3 => (first | (refine UpdN.head ?_; (repeat (first | exact List.forall_mem_nil _ | (refine List.forall_mem_cons.mpr ⟨Or.inr (by (try dsimp only); omega), ?_⟩)))) | (refine' UpdN.tail ?q ?b3; (case q => first | (exact Or.inl (by intro v e; cases e)) | (exact Or.inr (by (try dsimp only); omega))); (case b3 => (refine UpdN.head ?_; (repeat (first | exact List.forall_mem_nil _ | (refine List.forall_mem_cons.mpr ⟨Or.inr (by (try dsimp only); omega), ?_⟩))))))))))))))))))))))))))))))))))))))))))))))))))))); k_whole; intro h' o' F' N' d'; (try dsimp only at N'); (try k_sweep)))
  k_with "eval ListComp" => (k_here; refine stopHere ?_)
  k_with "exec Assign cons ListComp" => (k_here; (with_reducible show wpAny _ _ (exec (Stmt.Assign [Expr.Name (Str.ofString "rows") _] _ _) _) _ _ _); refine stopHere ?_)
  k_with "exec Assign cons ListComp" => (k_here; (with_reducible show wpAny _ _ (exec (Stmt.Assign [Expr.Name (Str.ofString "twice") _] _ _) _) _ _ _); refine stopHere ?_)
  k_with "CompSrc" => (k_here; refine stopHere ?_)
  trivial
theorem turn_fair (w : World) (mean : ExcName → Option Value) (mg mb : Str → Option Value) (h₀ base : Heap) (Z : Here w mean mg mb h₀ base) (fa : Addr) (cd : Value) (L : Addr) (f1 f2 : Bool) (s : Shared) (u : Str → Option Value) (keep : List (Addr × Obj))
   (F : Fr h₀ L s.heap (fun z => if z = Str.ofString "same" then some (.bool f2) else if z = Str.ofString "fair" then some (.bool f1) else u z))
   (N : News h₀ L s.heap keep) (Q : Flow → Shared → Prop) (E : Value → Shared → Prop)
   (next : ∀ h' tk, s.toks ≤ tk → Fr h₀ L h' (fun z => if z = Str.ofString "fair" then some (.bool (f1 || f2)) else if z = Str.ofString "same" then some (.bool f2) else if z = Str.ofString "fair" then some (.bool f1) else u z) →
     News h₀ L h' keep → TurnGo 10 w L fa cd Q E { s with heap := h', toks := tk }) :
   TurnGo 9 w L fa cd Q E s := by
  obtain ⟨B, X, T, XB, TB⟩ := Z
  refine turn_row (by unfold turnBody aBody lawRec recOf; rfl) ?_
  unfold lawEnv lawRec recOf
  dsimp only
  revert X
  k_fill
  intro X
  cases f1
  all_goals k_steps
  all_goals exact fun hk => next _ _ hk (by assumption) (by assumption)
end Mine

end
-- L30
section
open PySem PySem.W PyProof.Rows PySem.Calls
set_option maxRecDepth 100000
set_option maxHeartbeats 8000000
namespace Mine
theorem fresh_L30 : True := by
  w_top off
  k_with_none
  k_with "omega" => lia
  trivial
theorem rows_L30_1 : True := by
  k_with "call ref" => (k_here; (with_reducible show wpAny _ _ (call (Value.ref 76) [Value.ref _]) _ _ _); k_dflt (refine' claim_use (c_neck _ _ _ _ _ _ _ ?hi ?hn) ?k1 ?k2 ?k3 ?k4 ?k5 ?kK ?kp ?kd ?ku ?_; (case hi => assumption); (case hn => assumption); (case k1 => k_asm); (case k2 => k_asm); (case k3 => k_asm); (case k4 => k_asm); (case k5 => k_asm); (case kK => first | exact rfl | assumption); (case kp => is_list); (case kd => ktr_room); (case ku => ktr_units); intro r9 tl9 h9 tk9 g9 F9 N9 K9 l9 G9 R9; obtain ⟨a9, ws9, bs9, n9, e9, e9', i9, b9⟩ := R9; subst e9; subst e9'; clear l9 K9; simp only [List.cons_append, List.nil_append] at N9; (try dsimp only)))
  k_with "CompEnd" => (k_dflt (refine' LCg.CompEnd.intro ?F ?N _ ?sub ?off ?src (And.intro rfl ?J); (case F => k_asm); (case N => k_asm); (case sub => lcg_sub); (case off => assumption); (case src => lcg_src); (case J => first | exact rows_snoc _ (by assumption) (by assumption) (by first | exact row_red _ | exact row_green _ | exact row_blue _) | exact sent_snoc _ (by assumption) (by assumption) (by first | exact sent_red _ | exact sent_green _ | exact sent_blue _) | exact count_snoc (by assumption) rfl)))
  k_with "subscriptTail Name Name ref int" => (k_here; (with_reducible show wpAny _ _ (subscriptTail _ _ (Value.ref _) (Value.int _ _)) _ _ _); k_dflt (refine' item_bead ?l ?i ?B ?n ?_ ?s ?g; (case l => is_list); (case i => assumption); (case B => assumption); (case n => assumption); (case s => with_unfolding_all rfl); (case g => (intro _; with_unfolding_all rfl)); intro b8 t8 e8 c8; (rcases c8 with c8 | c8 | c8 <;> subst c8)))
  k_with "subscriptTail List Subscript ref int" => (k_here; (with_reducible show wpAny _ _ (subscriptTail _ _ (Value.ref _) (Value.int _ _)) _ _ _); k_dflt (refine' item_new ?k1 ?k2 ?k3 ?k4 ?k5 ?_ ?k6 ?k7; (case k1 => k_asm); (case k2 => k_mem); (case k3 => decide); (case k4 => decide); (case k5 => exact rfl); (case k6 => with_unfolding_all rfl); (case k7 => (intro _; with_unfolding_all rfl))))
  k_with "subscriptTail List Name ref int" => (k_here; (with_reducible show wpAny _ _ (subscriptTail _ _ (Value.ref _) (Value.int _ _)) _ _ _); k_dflt (refine' item_new ?k1 ?k2 ?k3 ?k4 ?k5 ?_ ?k6 ?k7; (case k1 => k_asm); (case k2 => k_mem); (case k3 => decide); (case k4 => decide); (case k5 => exact rfl); (case k6 => with_unfolding_all rfl); (case k7 => (intro _; with_unfolding_all rfl))))
  k_with "call builtin:str.join" => (k_here; (with_reducible show wpAny _ _ (call (Value.builtin "str.join") [Value.str _ _, Value.ref _]) _ _ _); k_dflt (refine' join_rows ?e ?l ?i ?n ?_; (case e => with_unfolding_all rfl); (case l => is_list); (case i => assumption); (case n => first | exact Nat.le_trans (rows_flat (by assumption)) (by decide) | exact Nat.le_trans (sent_flat (by assumption)) (by decide)); intro t6 k6; (try dsimp only)))
  k_with "storeName" => (k_here; k_dflt (refine' store_cell ?c ?m ?d ?U ?F ?N ?_ ?a ?b; (case a => rfl); (case b => rfl); (case c => rfl); (case F => k_asm); (case N => k_asm); (case m => k_mem); (case d => k_asm); (case U => (first | (refine UpdN.head ?_; (repeat (first | exact List.forall_mem_nil _ | (refine List.forall_mem_cons.mpr ⟨Or.inr (by (try dsimp only); omega), ?_⟩)))) | (refine' UpdN.tail ?q ?b3; (case q => first | (exact Or.inl (by intro v e; cases e)) | (exact Or.inr (by (try dsimp only); omega))); (case b3 => (first | (refine UpdN.head ?_; (repeat (first | exact List.forall_mem_nil _ | (refine List.forall_mem_cons.mpr ⟨Or.inr (by (try dsimp only); omega), ?_⟩)))) | (refine' UpdN.tail ?q ?b3; (case q => first | (exact Or.inl (by intro v e; cases e)) | (exact Or.inr (by (try dsimp only); omega))); (case b3 => (first | (refine UpdN.head ?_; (repeat (first | exact List.forall_mem_nil _ | (refine List.forall_mem_cons.mpr ⟨Or.inr (by (try dsimp only); omega), ?_⟩)))) | (refine' UpdN.tail ?q ?b3; (case q => first | (exact Or.inl (by intro v e; cases e)) | (exact Or.inr (by (try dsimp only); omega))); (case b3 => (first | (refine UpdN.head ?_; (repeat (first | exact List.forall_mem_nil _ | (refine List.forall_mem_cons.mpr ⟨Or.inr (by (try dsimp only); omega), ?_⟩)))) | (refine' UpdN.tail ?q ?b3; (case q => first | (exact Or.inl (by intro v e; cases e)) | (exact Or.inr (by (try dsimp only); omega))); (case b3 => (first | (refine UpdN.head ?_; (repeat (first | exact List.forall_mem_nil _ | (refine List.forall_mem_cons.mpr ⟨Or.inr (by (try dsimp only); omega), ?_⟩)))) | (refine' UpdN.tail ?q ?b3; (case q => first | (exact Or.inl (by intro v e; cases e)) | (exact Or.inr (by (try dsimp only); omega))); (case b3 => (first | (refine UpdN.head ?_; (repeat (first | exact List.forall_mem_nil _ | (refine List.forall_mem_cons.mpr ⟨Or.inr (by (try dsimp only); omega), ?_⟩)))) | (refine' UpdN.tail ?q ?b3; (case q => first | (exact Or.inl (by intro v e; cases e)) | (exact Or.inr (by (try dsimp only); omega))); (case b3 => (first | (refine UpdN.head ?_; (repeat (first | exact List.forall_mem_nil _ | (refine List.forall_mem_cons.mpr ⟨Or.inr (by (try dsimp only); omega), ?_⟩)))) | (refine' UpdN.tail ?q ?b3; (case q => first | (exact Or.inl (by intro v e; cases e)) | (exact Or.inr (by (try dsimp only); omega))); (case b3 => (first | (refine UpdN.head ?_; (repeat (first | exact List.forall_mem_nil _ | (refine List.forall_mem_cons.mpr ⟨Or.inr (by (try dsimp only); omega), ?_⟩)))) | (refine' UpdN.tail ?q ?b3; (case q => first | (exact Or.inl (by intro v e; cases e)) | (exact Or.inr (by (try dsimp only); omega))); (case b3 => (first | (refine UpdN.head ?_; (repeat (first | exact List.forall_mem_nil _ | (refine List.forall_mem_cons.mpr ⟨Or.inr (by (try dsimp only); omega), ?_⟩)))) | (refine' UpdN.tail ?q ?b3; (case q => first | (exact Or.inl (by intro v e; cases e)) | (exact Or.inr (by (try dsimp only); omega))); (case b3 => (first | (refine UpdN.head ?_; (repeat (first | exact List.forall_mem_nil _ | (refine List.forall_mem_cons.mpr ⟨Or.inr (by (try dsimp only); omega), ?_⟩)))) | (refine' UpdN.tail ?q ?b3; (case q => first | (exact Or.inl (by intro v e; cases e)) | (exact Or.inr (by (try dsimp only); omega))); (case b3 => (first | (refine UpdN.head ?_; (repeat (first | exact List.forall_mem_nil _ | (refine List.forall_mem_cons.mpr ⟨Or.inr (by (try dsimp only); omega), ?_⟩)))) | (refine' UpdN.tail ?q ?b3; (case q => first | (exact Or.inl (by intro v e; cases e)) | (exact Or.inr (by (try dsimp only); omega))); (case b3 => (first | (refine UpdN.head ?_; (repeat (first | exact List.forall_mem_nil _ | (refine List.forall_mem_cons.mpr ⟨Or.inr (by (try dsimp only); omega), ?_⟩)))) | (refine' UpdN.tail ?q ?b3; (case q => first | (exact Or.inl (by intro v e; cases e)) | (exact Or.inr (by (try dsimp only); omega))); (case b3 => (first | (refine UpdN.head ?_; (repeat (first | exact List.forall_mem_nil _ | (refine List.forall_mem_cons.mpr ⟨Or.inr (by (try dsimp only); omega), ?_⟩)))) | (refine' UpdN.tail ?q ?b3; (case q => first | (exact Or.inl (by intro v e; cases e)) | (exact Or.inr (by (try dsimp only); omega))); (case b3 => (first | (refine UpdN.head ?_; (repeat (first | exact List.forall_mem_nil _ | (refine List.forall_mem_cons.mpr ⟨Or.inr (by (try dsimp only); omega), ?_⟩)))) | (refine' UpdN.tail ?q ?b3; (case q => first | (exact Or.inl (by intro v e; cases e)) | (exact Or.inr (by (try dsimp only); omega))); (case b3 => (first | (refine UpdN.head ?_; (repeat (first | exact List.forall_mem_nil _ | (refine List.forall_mem_cons.mpr ⟨Or.inr (by (try dsimp only); omega), ?_⟩)))) | (refine' UpdN.tail ?q ?b3; (case q => first | (exact Or.inl (by intro v e; cases e)) | (exact Or.inr (by (try dsimp only); omega))); (case b3 => (first | (refine UpdN.head ?_; (repeat (first | exact List.forall_mem_nil _ | (refine List.forall_mem_cons.mpr ⟨Or.inr (by (try dsimp only); omega), ?_⟩)))) | (refine' UpdN.tail ?q ?b3; (case q => first | (exact Or.inl (by intro v e; cases e)) | (exact Or.inr (by (try dsimp only); omega))); (case b3 => (refine UpdN.head ?_; (repeat (first | exact List.forall_mem_nil _ | (refine List.forall_mem_cons.mpr ⟨Or.inr (by (try dsimp only); omega), ?_⟩))))))))))))))))))))))))))))))))))))))))))))))))))))); k_whole; intro h' o' F' N' d'; (try dsimp only at N'); (try k_sweep)))
  k_with "eval ListComp" => (k_here; refine stopHere ?_)
  k_with "exec Assign cons ListComp" => (k_here; (with_reducible show wpAny _ _ (exec (Stmt.Assign [Expr.Name (Str.ofString "rows") _] _ _) _) _ _ _); refine stopHere ?_)
  k_with "exec Assign cons ListComp" => (k_here; (with_reducible show wpAny _ _ (exec (Stmt.Assign [Expr.Name (Str.ofString "twice") _] _ _) _) _ _ _); refine stopHere ?_)
  k_with "CompSrc" => (k_here; refine stopHere ?_)
  k_with "subscriptTail" => (k_here; k_dflt (refine stopHere ?_))
  k_with "subscriptTail Name Name ref int" => (k_here; k_dflt (refine stopHere ?_))
  k_with "subscriptTail List Name ref int" => (k_here; k_dflt (refine stopHere ?_))
  k_with "eval ListComp" => (k_here; refine stopHere ?_)
  k_with "storeName" => (k_here; refine stopHere ?_)
  k_with "compareOp Eq int int" => (k_here; refine stopHere ?_)
  trivial
def HalfP (f : Nat → Bool) (i : Nat) (ys : List Value) : Prop := ys = (List.range i).map fun k => .bool (f k)
theorem half_snoc {f : Nat → Bool} {i : Nat} {ys : List Value} {b : Bool} (h : HalfP f i ys) (e : b = f i) : HalfP f (i + 1) (ys ++ [.bool b]) := by
  unfold HalfP at *
  rw [List.range_succ, List.map_append, h, e]
  rfl
theorem three_at {α : Type} (f : Nat → α) {i : Nat} (h : i < 3) : [f 0, f 1, f 2][i]? = some (f i) := by
  have : i = 0 ∨ i = 1 ∨ i = 2 := by omega
  rcases this with e | e | e <;> subst e <;> rfl
theorem turn_half (w : World) (mean : ExcName → Option Value) (mg mb : Str → Option Value) (h₀ base : Heap) (Z : Here w mean mg mb h₀ base) (fa : Addr) (cd : Value) (L ah aw : Addr) (f : Nat → Bool) (cf wf : Nat → Int) (tc tw : Nat → Tok) (d : Int) (td : Tok) (n1 n2 : Nat) (s : Shared) (u : Str → Option Value) (keep : List (Addr × Obj)) (o2 o4 o6 o7 o8 : Obj)
   (d2 : o2.data = .cell (some (.ref aw))) (d4 : o4.data = .cell (some (.ref ah))) (d6 : o6.data = .cell (some (.int (cf 0) (tc 0)))) (d7 : o7.data = .cell (some (.int (cf 1) (tc 1)))) (d8 : o8.data = .cell (some (.int (cf 2) (tc 2))))
   (F : Fr h₀ L s.heap (fun z => if z = Str.ofString "d" then some (.int d td) else u z))
   (N : News h₀ L s.heap ((ah, listOf (List.toArray [.bool (f 0), .bool (f 1), .bool (f 2)]) n1) :: (aw, listOf (List.toArray [.int (wf 0) (tw 0), .int (wf 1) (tw 1), .int (wf 2) (tw 2)]) n2) :: (L + 1 + 1, o2) :: (L + 1 + 1 + 1 + 1, o4) :: (L + 1 + 1 + 1 + 1 + 1 + 1, o6) :: (L + 1 + 1 + 1 + 1 + 1 + 1 + 1, o7) :: (L + 1 + 1 + 1 + 1 + 1 + 1 + 1 + 1, o8) :: keep)) (hk4 : ∀ p ∈ keep, Apt (L + 1 + 1 + 1 + 1) p)
   (Q : Flow → Shared → Prop) (E : Value → Shared → Prop)
   (next : ∀ ah' n' o4' h' tk, s.toks ≤ tk → o4'.data = .cell (some (.ref ah')) → Fr h₀ L h' (fun z => if z = Str.ofString "d" then some (.int d td) else u z) →
     News h₀ L h' ((ah', listOf (List.toArray [.bool (if d = 5 then f 0 || decide (2 * cf 0 = wf 0) else f 0), .bool (if d = 5 then f 1 || decide (2 * cf 1 = wf 1) else f 1), .bool (if d = 5 then f 2 || decide (2 * cf 2 = wf 2) else f 2)]) n') :: (aw, listOf (List.toArray [.int (wf 0) (tw 0), .int (wf 1) (tw 1), .int (wf 2) (tw 2)]) n2) :: (L + 1 + 1, o2) :: (L + 1 + 1 + 1 + 1, o4') :: (L + 1 + 1 + 1 + 1 + 1 + 1, o6) :: (L + 1 + 1 + 1 + 1 + 1 + 1 + 1, o7) :: (L + 1 + 1 + 1 + 1 + 1 + 1 + 1 + 1, o8) :: keep) → TurnGo 11 w L fa cd Q E { s with heap := h', toks := tk }) :
   TurnGo 10 w L fa cd Q E s := by
  obtain ⟨B, X, T, XB, TB⟩ := Z
  refine turn_row (by unfold turnBody aBody lawRec recOf; rfl) ?_
  unfold lawEnv lawRec recOf
  dsimp only
  revert X
  k_fill
  intro X
  k_steps
  unfold Stop
  by_cases hd5 : d = 5
  · refine cmp_yes hd5 ?_
    k_steps
    unfold Stop
    refine LCg.ListComp_U (F₀ := by k_asm) (by with_unfolding_all rfl) (by decide) (by rfl) (by decide) (by rfl) ?_
    k_dflt lcg_toSrc
    unfold Stop
    refine LCg.CompSrc.range (n := 3) (by rfl) (by k_asm) (by k_asm) (by assumption) (by first | decide | rfl) (by first | rfl | decide) (by first | size_fits | exact Nat.le_of_ble_eq_true rfl) ?_
    intro g7
    refine comp_inv (KeepJ _ (HalfP fun k => f k || decide (2 * cf k = wf k))) ?turn ?fin 3 0 [] _ rfl ⟨rfl, rfl⟩
    case fin =>
      rintro ys7 news7 ⟨rfl, hP7⟩
      have hP8 : ys7 = [.bool (f 0 || decide (2 * cf 0 = wf 0)), .bool (f 1 || decide (2 * cf 1 = wf 1)), .bool (f 2 || decide (2 * cf 2 = wf 2))] := hP7
      subst hP8
      unfold LCg.FinE
      intro D' h' tk' F' N' _
      k_steps
      unfold Stop
      refine store_cell (c := L + 1 + 1 + 1 + 1) (o := o4) rfl (.tail _ (.tail _ (.tail _ (.tail _ (.head _))))) d4 (.tail (.inl (by intro v e; cases e)) (.tail (.inl (by intro v e; cases e)) (.tail (.inl (by intro v e; cases e)) (.tail (.inr (by show @Ne Nat (L + 1 + 1) (L + 1 + 1 + 1 + 1); omega)) (.head ?_))))) F' N' ?_ rfl rfl
      · intro p hp
        rcases List.mem_cons.mp hp with e | hp
        · subst e; exact .inr (by show @Ne Nat (L + 1 + 1 + 1 + 1 + 1 + 1) (L + 1 + 1 + 1 + 1); omega)
        rcases List.mem_cons.mp hp with e | hp
        · subst e; exact .inr (by show @Ne Nat (L + 1 + 1 + 1 + 1 + 1 + 1 + 1) (L + 1 + 1 + 1 + 1); omega)
        rcases List.mem_cons.mp hp with e | hp
        · subst e; exact .inr (by show @Ne Nat (L + 1 + 1 + 1 + 1 + 1 + 1 + 1 + 1) (L + 1 + 1 + 1 + 1); omega)
        exact hk4 p hp
      intro h4 o4' F4 N4 d4'
      k_steps
      refine fun hk => next D' 3 o4' h4 _ hk d4' F4 ?_
      rw [if_pos hd5, if_pos hd5, if_pos hd5]
      intro p hp
      rcases List.mem_cons.mp hp with e | hp
      · subst e; exact N4 (D', LCg.lst _) (.head _)
      · exact N4 _ (.tail _ (.tail _ hp))
    case turn =>
      rintro i7 ys7 news7 hi7 ⟨rfl, hP7⟩ v7 I7 oI7 C7 oC7 D7 m7 h7 tk7 E7 ⟨t7, rfl⟩ hC7 hx7 F7 N7 off7
      have i8 : (0 + (i7 : Int)).toNat = i7 := by omega
      k_steps
      unfold Stop
      refine item_listL (l := [.bool (f 0), .bool (f 1), .bool (f 2)]) (x := .bool (f i7)) (of_mem N7 (.tail _ (.tail _ (.tail _ (.head _))))) (by omega) (by omega) (by rw [i8]; exact three_at (fun k => Value.bool (f k)) hi7) ?_ (by with_unfolding_all rfl) (by intro _; with_unfolding_all rfl)
      cases q7 : f i7
      · k_steps
        unfold Stop
        rename News _ _ _ _ => N8
        refine item_listR (items := [.int (cf 0) (tc 0), .int (cf 1) (tc 1), .int (cf 2) (tc 2)].toArray) (x := .int (cf i7) (tc i7)) (of_mem N8 (.head _)) (by omega) (by omega) (by rw [i8, List.getElem?_toArray]; exact three_at (fun k => Value.int (cf k) (tc k)) hi7) ?_ (by with_unfolding_all rfl)
        k_steps
        unfold Stop
        refine item_listL (l := [.int (wf 0) (tw 0), .int (wf 1) (tw 1), .int (wf 2) (tw 2)]) (x := .int (wf i7) (tw i7)) (of_mem N8 (.tail _ (.tail _ (.tail _ (.tail _ (.tail _ (.head _))))))) (by omega) (by omega) (by rw [i8]; exact three_at (fun k => Value.int (wf k) (tw k)) hi7) ?_ (by with_unfolding_all rfl) (by intro _; with_unfolding_all rfl)
        k_steps
        unfold Stop
        refine PyProof.Rows.eq_int ?_
        refine LCg.CompEnd.intro (by assumption) N8 _ (fun p hp => .tail _ hp) off7 trivial ⟨rfl, ?_⟩
        refine half_snoc hP7 ?_
        rw [q7]
        show (2 * cf i7 == wf i7) = (false || decide (2 * cf i7 = wf i7))
        rw [Bool.false_or, Bool.beq_eq_decide_eq]
      · k_steps
        refine LCg.CompEnd.intro F7 N7 _ (fun p hp => hp) off7 trivial ⟨rfl, ?_⟩
        refine half_snoc hP7 ?_
        rw [q7]
        rfl
  · refine cmp_no hd5 ?_
    k_steps
    refine fun hk => next ah n1 o4 _ _ hk d4 F ?_
    rw [if_neg hd5, if_neg hd5, if_neg hd5]
    exact N
end Mine

end
-- Neck0
section
namespace Mine
theorem fresh_Neck0 : True := by
  w_top off
  k_with_none
  trivial
def all3 (f : Nat → Bool) : Bool := f 1 && (f 64 && f 4096)
def odd3 (p : Nat) : Bool := !(p % 2 == 0 && (p / 64 % 2 == 0 && p / 4096 % 2 == 0))
def fit (pa pad p5d p10 : Nat) : Bool := 2 * pad + p10 == 2 * pa + 2 * p5d
def fitK (k pa pa5 p10 : Nat) : Bool := (2 * pa5) / k % 64 == (2 * pa + p10) / k % 64
def fitsK (k p1 p2 p3 p4 p5 p6 p7 p8 p9 p10 : Nat) : Bool := fitK k 0 p5 p10 || (fitK k p1 p6 p10 || (fitK k p2 p7 p10 || (fitK k p3 p8 p10 || fitK k p4 p9 p10)))
def fits (p1 p2 p3 p4 p5 p6 p7 p8 p9 p10 : Nat) : Bool :=
  fit 0 p1 p6 p10 || (fit 0 p2 p7 p10 || (fit 0 p3 p8 p10 || (fit 0 p4 p9 p10 || (fit 0 p5 p10 p10 ||
  (fit p1 p2 p6 p10 || (fit p1 p3 p7 p10 || (fit p1 p4 p8 p10 || (fit p1 p5 p9 p10 || (fit p1 p6 p10 p10 ||
  (fit p2 p3 p6 p10 || (fit p2 p4 p7 p10 || (fit p2 p5 p8 p10 || (fit p2 p6 p9 p10 || (fit p2 p7 p10 p10 ||
  (fit p3 p4 p6 p10 || (fit p3 p5 p7 p10 || (fit p3 p6 p8 p10 || (fit p3 p7 p9 p10 || (fit p3 p8 p10 p10 ||
  (fit p4 p5 p6 p10 || (fit p4 p6 p7 p10 || (fit p4 p7 p8 p10 || (fit p4 p8 p9 p10 || fit p4 p9 p10 p10)))))))))))))))))))))))
def leaf (p1 p2 p3 p4 p5 p6 p7 p8 p9 p10 : Nat) : Bool := odd3 p10 || (fits p1 p2 p3 p4 p5 p6 p7 p8 p9 p10 && (fitsK 1 p1 p2 p3 p4 p5 p6 p7 p8 p9 p10 && (fitsK 64 p1 p2 p3 p4 p5 p6 p7 p8 p9 p10 && fitsK 4096 p1 p2 p3 p4 p5 p6 p7 p8 p9 p10)))
def tree5 (p1 p2 p3 p4 p5 : Nat) : Bool := all3 fun x6 => all3 fun x7 => all3 fun x8 => all3 fun x9 => all3 fun x10 => leaf p1 p2 p3 p4 p5 (p5 + x6) (p5 + x6 + x7) (p5 + x6 + x7 + x8) (p5 + x6 + x7 + x8 + x9) (p5 + x6 + x7 + x8 + x9 + x10)
theorem tree_1 : (all3 fun x2 => all3 fun x3 => all3 fun x4 => all3 fun x5 => tree5 1 (1 + x2) (1 + x2 + x3) (1 + x2 + x3 + x4) (1 + x2 + x3 + x4 + x5)) = true := by decide +kernel
theorem tree_64 : (all3 fun x2 => all3 fun x3 => all3 fun x4 => all3 fun x5 => tree5 64 (64 + x2) (64 + x2 + x3) (64 + x2 + x3 + x4) (64 + x2 + x3 + x4 + x5)) = true := by decide +kernel
theorem tree_4096 : (all3 fun x2 => all3 fun x3 => all3 fun x4 => all3 fun x5 => tree5 4096 (4096 + x2) (4096 + x2 + x3) (4096 + x2 + x3 + x4) (4096 + x2 + x3 + x4 + x5)) = true := by decide +kernel
def treeAll : Bool := all3 fun x1 => all3 fun x2 => all3 fun x3 => all3 fun x4 => all3 fun x5 => tree5 x1 (x1 + x2) (x1 + x2 + x3) (x1 + x2 + x3 + x4) (x1 + x2 + x3 + x4 + x5)
theorem tree_all : treeAll = true := by
  have e : treeAll = ((all3 fun x2 => all3 fun x3 => all3 fun x4 => all3 fun x5 => tree5 1 (1 + x2) (1 + x2 + x3) (1 + x2 + x3 + x4) (1 + x2 + x3 + x4 + x5)) && ((all3 fun x2 => all3 fun x3 => all3 fun x4 => all3 fun x5 => tree5 64 (64 + x2) (64 + x2 + x3) (64 + x2 + x3 + x4) (64 + x2 + x3 + x4 + x5)) && (all3 fun x2 => all3 fun x3 => all3 fun x4 => all3 fun x5 => tree5 4096 (4096 + x2) (4096 + x2 + x3) (4096 + x2 + x3 + x4) (4096 + x2 + x3 + x4 + x5)))) := rfl
  rw [e, tree_1, tree_64, tree_4096]
  rfl
end Mine

end
-- Neck
section
namespace Mine
theorem fresh_Neck : True := by
  w_top off
  k_with_none
  trivial
def enc (b : Int) : Nat := if b = 0 then 1 else if b = 1 then 64 else 4096
def code : List Int → Nat
  | [] => 0
  | b :: r => enc b + code r
theorem all3_at {f : Nat → Bool} (h : all3 f = true) (b : Int) : f (enc b) = true := by
  unfold all3 at h
  simp only [Bool.and_eq_true] at h
  unfold enc
  split
  · exact h.1
  · split
    · exact h.2.1
    · exact h.2.2
theorem code_counts : ∀ (l : List Int), (∀ b ∈ l, 0 ≤ b ∧ b ≤ 2) → code l = l.count 0 + 64 * l.count 1 + 4096 * l.count 2
  | [], _ => rfl
  | b :: r, h => by
    have ih := code_counts r fun x hx => h x (.tail _ hx)
    have hb := h b (.head _)
    have : b = 0 ∨ b = 1 ∨ b = 2 := by omega
    rcases this with rfl | rfl | rfl <;> simp only [code, enc, List.count_cons, ih] <;> simp <;> omega
theorem leaf_all (b1 b2 b3 b4 b5 b6 b7 b8 b9 b10 : Int) : leaf (enc b1) (enc b1 + enc b2) (enc b1 + enc b2 + enc b3) (enc b1 + enc b2 + enc b3 + enc b4) (enc b1 + enc b2 + enc b3 + enc b4 + enc b5) (enc b1 + enc b2 + enc b3 + enc b4 + enc b5 + enc b6) (enc b1 + enc b2 + enc b3 + enc b4 + enc b5 + enc b6 + enc b7) (enc b1 + enc b2 + enc b3 + enc b4 + enc b5 + enc b6 + enc b7 + enc b8) (enc b1 + enc b2 + enc b3 + enc b4 + enc b5 + enc b6 + enc b7 + enc b8 + enc b9) (enc b1 + enc b2 + enc b3 + enc b4 + enc b5 + enc b6 + enc b7 + enc b8 + enc b9 + enc b10) = true :=
  all3_at (all3_at (all3_at (all3_at (all3_at (all3_at (all3_at (all3_at (all3_at (all3_at tree_all b1) b2) b3) b4) b5) b6) b7) b8) b9) b10
theorem leaf_bs {bs : List Int} (h : bs.length = 10) : leaf (code (bs.take 1)) (code (bs.take 2)) (code (bs.take 3)) (code (bs.take 4)) (code (bs.take 5)) (code (bs.take 6)) (code (bs.take 7)) (code (bs.take 8)) (code (bs.take 9)) (code (bs.take 10)) = true := by
  match bs, h with
  | [b1, b2, b3, b4, b5, b6, b7, b8, b9, b10], _ =>
    have := leaf_all b1 b2 b3 b4 b5 b6 b7 b8 b9 b10
    simp only [List.take, code, Nat.add_zero, ← Nat.add_assoc]
    exact this
def mineOf (bs : List Int) (a d : Nat) : List Int := (bs.drop a).take d ++ bs.drop (5 + d)
theorem mine_count (bs : List Int) (a d : Nat) (k : Int) : (mineOf bs a d).count k + (bs.take a).count k + (bs.take (5 + d)).count k = (bs.take (a + d)).count k + bs.count k := by
  have h1 : (bs.take (a + d)).count k = (bs.take a).count k + ((bs.drop a).take d).count k := by rw [List.take_add, List.count_append]
  have h2 : bs.count k = (bs.take (5 + d)).count k + (bs.drop (5 + d)).count k := by rw [← List.count_append, List.take_append_drop]
  unfold mineOf
  rw [List.count_append]
  omega
theorem digits {x0 x1 x2 y0 y1 y2 : Nat} (h : x0 + 64 * x1 + 4096 * x2 = y0 + 64 * y1 + 4096 * y2) (a : x0 < 64) (b : y0 < 64) (c : x1 < 64) (d : y1 < 64) : x0 = y0 ∧ x1 = y1 ∧ x2 = y2 := by omega
theorem digit_at {x0 x1 x2 : Nat} (a : x0 < 64) (c : x1 < 64) (e : x2 < 64) : (x0 + 64 * x1 + 4096 * x2) / 1 % 64 = x0 ∧ (x0 + 64 * x1 + 4096 * x2) / 64 % 64 = x1 ∧ (x0 + 64 * x1 + 4096 * x2) / 4096 % 64 = x2 := by omega
section
variable {bs : List Int}
theorem take_counts (hB : BeadsOk 5 bs) (i : Nat) : code (bs.take i) = (bs.take i).count 0 + 64 * (bs.take i).count 1 + 4096 * (bs.take i).count 2 ∧ (bs.take i).count 0 ≤ 10 ∧ (bs.take i).count 1 ≤ 10 ∧ (bs.take i).count 2 ≤ 10 := by
  have hl : (bs.take i).length ≤ 10 := by rw [List.length_take, hB.1]; omega
  exact ⟨code_counts _ fun b h => hB.2.1 b (List.mem_of_mem_take h), Nat.le_trans List.count_le_length hl, Nat.le_trans List.count_le_length hl, Nat.le_trans List.count_le_length hl⟩
theorem fit_counts (hB : BeadsOk 5 bs) (a d : Nat) (h : fit (code (bs.take a)) (code (bs.take (a + d))) (code (bs.take (5 + d))) (code (bs.take 10)) = true) : ∀ k : Int, k = 0 ∨ k = 1 ∨ k = 2 → 2 * (mineOf bs a d).count k = bs.count k := by
  have h1 := take_counts hB a
  have h2 := take_counts hB (a + d)
  have h3 := take_counts hB (5 + d)
  have h4 := take_counts hB 10
  rw [List.take_of_length_le (show bs.length ≤ 10 by rw [hB.1]; decide)] at h4 h
  have h' : 2 * code (bs.take (a + d)) + code bs = 2 * code (bs.take a) + 2 * code (bs.take (5 + d)) := eq_of_beq h
  have m0 := mine_count bs a d 0
  have m1 := mine_count bs a d 1
  have m2 := mine_count bs a d 2
  have := digits (x0 := 2 * (bs.take (a + d)).count 0 + bs.count 0) (x1 := 2 * (bs.take (a + d)).count 1 + bs.count 1) (x2 := 2 * (bs.take (a + d)).count 2 + bs.count 2) (y0 := 2 * (bs.take a).count 0 + 2 * (bs.take (5 + d)).count 0) (y1 := 2 * (bs.take a).count 1 + 2 * (bs.take (5 + d)).count 1) (y2 := 2 * (bs.take a).count 2 + 2 * (bs.take (5 + d)).count 2) (by omega) (by omega) (by omega) (by omega) (by omega)
  rintro k (rfl | rfl | rfl) <;> omega
theorem fitK_counts (hB : BeadsOk 5 bs) (a : Nat) : (fitK 1 (code (bs.take a)) (code (bs.take (a + 5))) (code (bs.take 10)) = true → 2 * (mineOf bs a 5).count 0 = bs.count 0) ∧ (fitK 64 (code (bs.take a)) (code (bs.take (a + 5))) (code (bs.take 10)) = true → 2 * (mineOf bs a 5).count 1 = bs.count 1) ∧ (fitK 4096 (code (bs.take a)) (code (bs.take (a + 5))) (code (bs.take 10)) = true → 2 * (mineOf bs a 5).count 2 = bs.count 2) := by
  have h1 := take_counts hB a
  have h2 := take_counts hB (a + 5)
  have h4 := take_counts hB 10
  have e10 : bs.take 10 = bs := List.take_of_length_le (show bs.length ≤ 10 by rw [hB.1]; decide)
  have m0 := mine_count bs a 5 0
  have m1 := mine_count bs a 5 1
  have m2 := mine_count bs a 5 2
  rw [show 5 + 5 = 10 from rfl, e10] at m0 m1 m2
  rw [e10] at h4 ⊢
  have d1 := digit_at (x0 := 2 * (bs.take (a + 5)).count 0) (x1 := 2 * (bs.take (a + 5)).count 1) (x2 := 2 * (bs.take (a + 5)).count 2) (by omega) (by omega) (by omega)
  have d2 := digit_at (x0 := 2 * (bs.take a).count 0 + bs.count 0) (x1 := 2 * (bs.take a).count 1 + bs.count 1) (x2 := 2 * (bs.take a).count 2 + bs.count 2) (by omega) (by omega) (by omega)
  have e1 : 2 * code (bs.take (a + 5)) = 2 * (bs.take (a + 5)).count 0 + 64 * (2 * (bs.take (a + 5)).count 1) + 4096 * (2 * (bs.take (a + 5)).count 2) := by omega
  have e2 : 2 * code (bs.take a) + code bs = 2 * (bs.take a).count 0 + bs.count 0 + 64 * (2 * (bs.take a).count 1 + bs.count 1) + 4096 * (2 * (bs.take a).count 2 + bs.count 2) := by omega
  unfold fitK
  rw [e1, e2, d1.1, d1.2.1, d1.2.2, d2.1, d2.2.1, d2.2.2]
  refine ⟨fun h => ?_, fun h => ?_, fun h => ?_⟩
  all_goals
    have h' := eq_of_beq h
    omega
theorem even_counts (hB : BeadsOk 5 bs) : odd3 (code (bs.take 10)) = false := by
  have h4 := take_counts hB 10
  have e10 : bs.take 10 = bs := List.take_of_length_le (show bs.length ≤ 10 by rw [hB.1]; decide)
  rw [e10] at h4 ⊢
  have p0 := hB.2.2 0
  have p1 := hB.2.2 1
  have p2 := hB.2.2 2
  have q0 : code bs % 2 = 0 := by omega
  have q1 : code bs / 64 % 2 = 0 := by omega
  have q2 : code bs / 4096 % 2 = 0 := by omega
  unfold odd3
  rw [q0, q1, q2]
  rfl
theorem necklace (hB : BeadsOk 5 bs) : (∃ a d : Nat, a < 5 ∧ 1 ≤ d ∧ d ≤ 5 ∧ ∀ k : Int, k = 0 ∨ k = 1 ∨ k = 2 → 2 * (mineOf bs a d).count k = bs.count k) ∧ ∀ k : Int, k = 0 ∨ k = 1 ∨ k = 2 → ∃ a : Nat, a < 5 ∧ 2 * (mineOf bs a 5).count k = bs.count k := by
  have h := leaf_bs (bs := bs) (by rw [hB.1])
  unfold leaf at h
  rw [even_counts hB, Bool.false_or] at h
  simp only [Bool.and_eq_true] at h
  obtain ⟨h1, h2, h3, h4⟩ := h
  refine ⟨?_, ?_⟩
  · unfold fits at h1
    simp only [Bool.or_eq_true] at h1
    have at_ : ∀ a d : Nat, a < 5 → 1 ≤ d → d ≤ 5 → fit (code (bs.take a)) (code (bs.take (a + d))) (code (bs.take (5 + d))) (code (bs.take 10)) = true → ∃ a d : Nat, a < 5 ∧ 1 ≤ d ∧ d ≤ 5 ∧ ∀ k : Int, k = 0 ∨ k = 1 ∨ k = 2 → 2 * (mineOf bs a d).count k = bs.count k := fun a d ha hd hd' h => ⟨a, d, ha, hd, hd', fit_counts hB a d h⟩
    rcases h1 with h | h | h | h | h | h | h | h | h | h | h | h | h | h | h | h | h | h | h | h | h | h | h | h | h
    · exact at_ 0 1 (by decide) (by decide) (by decide) h
    · exact at_ 0 2 (by decide) (by decide) (by decide) h
    · exact at_ 0 3 (by decide) (by decide) (by decide) h
    · exact at_ 0 4 (by decide) (by decide) (by decide) h
    · exact at_ 0 5 (by decide) (by decide) (by decide) h
    · exact at_ 1 1 (by decide) (by decide) (by decide) h
    · exact at_ 1 2 (by decide) (by decide) (by decide) h
    · exact at_ 1 3 (by decide) (by decide) (by decide) h
    · exact at_ 1 4 (by decide) (by decide) (by decide) h
    · exact at_ 1 5 (by decide) (by decide) (by decide) h
    · exact at_ 2 1 (by decide) (by decide) (by decide) h
    · exact at_ 2 2 (by decide) (by decide) (by decide) h
    · exact at_ 2 3 (by decide) (by decide) (by decide) h
    · exact at_ 2 4 (by decide) (by decide) (by decide) h
    · exact at_ 2 5 (by decide) (by decide) (by decide) h
    · exact at_ 3 1 (by decide) (by decide) (by decide) h
    · exact at_ 3 2 (by decide) (by decide) (by decide) h
    · exact at_ 3 3 (by decide) (by decide) (by decide) h
    · exact at_ 3 4 (by decide) (by decide) (by decide) h
    · exact at_ 3 5 (by decide) (by decide) (by decide) h
    · exact at_ 4 1 (by decide) (by decide) (by decide) h
    · exact at_ 4 2 (by decide) (by decide) (by decide) h
    · exact at_ 4 3 (by decide) (by decide) (by decide) h
    · exact at_ 4 4 (by decide) (by decide) (by decide) h
    · exact at_ 4 5 (by decide) (by decide) (by decide) h
  · unfold fitsK at h2 h3 h4
    simp only [Bool.or_eq_true] at h2 h3 h4
    rintro k (rfl | rfl | rfl)
    · rcases h2 with h | h | h | h | h
      · exact ⟨0, by decide, (fitK_counts hB 0).1 h⟩
      · exact ⟨1, by decide, (fitK_counts hB 1).1 h⟩
      · exact ⟨2, by decide, (fitK_counts hB 2).1 h⟩
      · exact ⟨3, by decide, (fitK_counts hB 3).1 h⟩
      · exact ⟨4, by decide, (fitK_counts hB 4).1 h⟩
    · rcases h3 with h | h | h | h | h
      · exact ⟨0, by decide, (fitK_counts hB 0).2.1 h⟩
      · exact ⟨1, by decide, (fitK_counts hB 1).2.1 h⟩
      · exact ⟨2, by decide, (fitK_counts hB 2).2.1 h⟩
      · exact ⟨3, by decide, (fitK_counts hB 3).2.1 h⟩
      · exact ⟨4, by decide, (fitK_counts hB 4).2.1 h⟩
    · rcases h4 with h | h | h | h | h
      · exact ⟨0, by decide, (fitK_counts hB 0).2.2 h⟩
      · exact ⟨1, by decide, (fitK_counts hB 1).2.2 h⟩
      · exact ⟨2, by decide, (fitK_counts hB 2).2.2 h⟩
      · exact ⟨3, by decide, (fitK_counts hB 3).2.2 h⟩
      · exact ⟨4, by decide, (fitK_counts hB 4).2.2 h⟩
end
end Mine

end
-- Hue
section
open PySem
set_option maxRecDepth 100000
namespace Mine
theorem fresh_Hue : True := by
  w_top off
  k_with_none
  k_with "omega" => lia
  trivial
def sameH (r g b R G B : Int) : Bool := (Float64.cmp (rgbH r g b) (rgbH R G B) == some .eq) && (Float64.cmp (rgbS r g b) (rgbS R G B) == some .eq)
theorem same_all : ∀ r ∈ List.range 6, ∀ g ∈ List.range (6 - r), ∀ R ∈ List.range 6, ∀ G ∈ List.range (6 - R), (sameH r g ((5 - r - g : Nat) : Int) (2 * R) (2 * G) (2 * ((5 - R - G : Nat) : Int)) == decide ((r : Int) = R ∧ (g : Int) = G)) = true := by decide +kernel
theorem same_of {r g b R G B : Int} (h1 : 0 ≤ r) (h2 : 0 ≤ g) (h3 : 0 ≤ b) (h4 : r + g + b = 5) (k1 : 0 ≤ R) (k2 : 0 ≤ G) (k3 : 0 ≤ B) (k4 : R + G + B = 10) (m1 : R % 2 = 0) (m2 : G % 2 = 0) (m3 : B % 2 = 0) :
    sameH r g b R G B = decide ([2 * r, 2 * g, 2 * b] = [R, G, B]) := by
  have := same_all r.toNat (List.mem_range.mpr (by omega)) g.toNat (List.mem_range.mpr (by omega)) (R / 2).toNat (List.mem_range.mpr (by omega)) (G / 2).toNat (List.mem_range.mpr (by omega))
  have e1 : ((r.toNat : Nat) : Int) = r := by omega
  have e2 : ((g.toNat : Nat) : Int) = g := by omega
  have e3 : ((5 - r.toNat - g.toNat : Nat) : Int) = b := by omega
  have e4 : 2 * (((R / 2).toNat : Nat) : Int) = R := by omega
  have e5 : 2 * (((G / 2).toNat : Nat) : Int) = G := by omega
  have e6 : 2 * ((5 - (R / 2).toNat - (G / 2).toNat : Nat) : Int) = B := by omega
  rw [e3, e4, e5, e6, e1, e2] at this
  rw [eq_of_beq this]
  refine decide_eq_decide.mpr ⟨fun ⟨q1, q2⟩ => ?_, fun h => ?_⟩
  · rw [show 2 * r = R by omega, show 2 * g = G by omega, show 2 * b = B by omega]
  · injection h with q1 h
    injection h with q2 h
    exact ⟨by omega, by omega⟩
end Mine

end
-- Plain
section
open PySem
namespace Mine
theorem fresh_Plain : True := by
  w_top off
  k_with_none
  k_with "omega" => lia
  trivial
theorem kinds_mine {bs : List Int} (h : ∀ b ∈ bs, 0 ≤ b ∧ b ≤ 2) (a d : Nat) : (mineR (rowsOf bs) a d).map kind = mineOf bs a d := by
  unfold mineR mineOf
  rw [List.map_append, List.map_take, List.map_drop, List.map_drop, kinds_rows h]
theorem cnt_mine {bs : List Int} (h : ∀ b ∈ bs, 0 ≤ b ∧ b ≤ 2) (a d : Nat) (k : Int) : cnt k (mineR (rowsOf bs) a d) = (mineOf bs a d).count k := by
  unfold cnt
  rw [kinds_mine h]
theorem sum_counts : ∀ {l : List Int}, (∀ b ∈ l, 0 ≤ b ∧ b ≤ 2) → l.count 0 + l.count 1 + l.count 2 = l.length
  | [], _ => rfl
  | b :: r, h => by
    have ih := sum_counts (l := r) fun x hx => h x (.tail _ hx)
    have hb := h b (.head _)
    have : b = 0 ∨ b = 1 ∨ b = 2 := by omega
    rcases this with rfl | rfl | rfl <;> simp only [List.count_cons, List.length_cons] <;> simp <;> omega
theorem mine_sum {bs : List Int} (hB : BeadsOk 5 bs) {a d : Nat} (ha : a ≤ 4) (hd : 1 ≤ d) (hd' : d ≤ 5) : (mineOf bs a d).count 0 + (mineOf bs a d).count 1 + (mineOf bs a d).count 2 = 5 := by
  rw [sum_counts fun b hb => ?_]
  · unfold mineOf
    rw [List.length_append, List.length_take, List.length_drop, List.length_drop, hB.1]; omega
  · rcases List.mem_append.mp hb with hb | hb
    · exact hB.2.1 b (List.mem_of_mem_drop (List.mem_of_mem_take hb))
    · exact hB.2.1 b (List.mem_of_mem_drop hb)
theorem whole_sum {bs : List Int} (hB : BeadsOk 5 bs) : bs.count 0 + bs.count 1 + bs.count 2 = 10 := by rw [sum_counts hB.2.1, hB.1]
end Mine

end
-- Turn
section
open PySem PySem.W PyProof.Rows PySem.Calls PySem.Spec PyProof.V PySem.SeqAt
set_option maxRecDepth 100000
set_option maxHeartbeats 8000000
namespace Mine
theorem fresh_Turn : True := by
  w_top off
  k_with_none
  k_with "omega" => lia
  trivial
theorem newsC {h₀ h : Heap} {L : Addr} {p : Addr × Obj} {l : List (Addr × Obj)} (h1 : h.get? p.1 = some p.2 ∧ p.1 ≠ L ∧ h₀.get? p.1 = none) (h2 : News h₀ L h l) : News h₀ L h (p :: l) := by
  intro q hq
  rcases List.mem_cons.mp hq with e | hq
  · rw [e]; exact h1
  · exact h2 q hq
theorem fr_pull {h₀ h : Heap} {L : Addr} {m : Str → Option Value} {x : Str} {v : Option Value} (F : Fr h₀ L h m) (e : m x = v) : Fr h₀ L h (fun z => if z = x then v else m z) := by
  have : (fun z => if z = x then v else m z) = m := by
    funext z
    by_cases q : z = x
    · rw [if_pos q, q, e]
    · rw [if_neg q]
  rw [this]
  exact F
theorem nz_of {n u x : Nat} (h : n ≤ u) (h' : x < n) : u ≠ 0 := by omega
theorem ne_of {n u x : Nat} (h : n ≤ u) (h' : x < n) : u ≠ x := by omega
def pick3 {α : Type} (x y z : α) : Nat → α
  | 0 => x
  | 1 => y
  | _ => z
def fairB (bs : List Int) (a d : Nat) : Bool := decide ([2 * (((mineOf bs a d).count 0 : Nat) : Int), 2 * (((mineOf bs a d).count 1 : Nat) : Int), 2 * (((mineOf bs a d).count 2 : Nat) : Int)] = [((bs.count 0 : Nat) : Int), ((bs.count 1 : Nat) : Int), ((bs.count 2 : Nat) : Int)])
theorem fair_same {bs : List Int} (hB : BeadsOk 5 bs) {a d : Nat} (e5 : (mineOf bs a d).count 0 + (mineOf bs a d).count 1 + (mineOf bs a d).count 2 = 5) {H S : UInt64} (eH : H = rgbH ((bs.count 0 : Nat) : Int) ((bs.count 1 : Nat) : Int) ((bs.count 2 : Nat) : Int)) (eS : S = rgbS ((bs.count 0 : Nat) : Int) ((bs.count 1 : Nat) : Int) ((bs.count 2 : Nat) : Int)) :
   ((Float64.cmp (rgbH (((mineOf bs a d).count 0 : Nat) : Int) (((mineOf bs a d).count 1 : Nat) : Int) (((mineOf bs a d).count 2 : Nat) : Int)) H == some .eq) && (Float64.cmp (rgbS (((mineOf bs a d).count 0 : Nat) : Int) (((mineOf bs a d).count 1 : Nat) : Int) (((mineOf bs a d).count 2 : Nat) : Int)) S == some .eq)) = fairB bs a d := by
  subst eH eS
  have h1 := hB.2.2 0
  have h2 := hB.2.2 1
  have h3 := hB.2.2 2
  have h4 := whole_sum hB
  exact same_of (by omega) (by omega) (by omega) (by omega) (by omega) (by omega) (by omega) (by omega) (by omega) (by omega) (by omega)
def halfF (bs : List Int) (a d : Nat) (f : Nat → Bool) (k : Nat) : Bool := f k || decide (2 * pick3 (((mineOf bs a d).count 0 : Nat) : Int) (((mineOf bs a d).count 1 : Nat) : Int) (((mineOf bs a d).count 2 : Nat) : Int) k = pick3 ((bs.count 0 : Nat) : Int) ((bs.count 1 : Nat) : Int) ((bs.count 2 : Nat) : Int) k)
theorem turn_all (w : World) (mean : ExcName → Option Value) (mg mb : Str → Option Value) (h₀ base : Heap) (Z : Here w mean mg mb h₀ base) (fa : Addr) (cd : Value) (L ah D b9 aw ac : Addr) (f : Nat → Bool) (fr : Bool) (ys ws : List Value) (bs : List Int) (n1 nb n2 nk : Nat) (z1 z2 z3 : Tok) (H2 S2 : UInt64) (u3 u4 : Tok) (v2 : Value) (o1 o2 o4 o5 o6 o7 o8 : Obj) (v5 v6 v7 v8 : Option Value) (xs : List (Addr × Obj)) (hxs : ∀ p ∈ xs, ∀ v, p.2.data ≠ .cell v)
   (hI : IntsAre ws bs) (hB : BeadsOk 5 bs) (hx : StrsAre ys ((rowsOf bs).map rowS)) (eH : H2 = rgbH ((bs.count 0 : Nat) : Int) ((bs.count 1 : Nat) : Int) ((bs.count 2 : Nat) : Int)) (eS : S2 = rgbS ((bs.count 0 : Nat) : Int) ((bs.count 1 : Nat) : Int) ((bs.count 2 : Nat) : Int))
   (a d : Int) (ta td : Tok) (pa : 0 ≤ a) (pa' : a ≤ 4) (pd : 1 ≤ d) (pd' : d ≤ 5) (s : Shared) (m : Str → Option Value) (y3 : u3 ≠ 0) (y4 : u4 ≠ 0) (y3' : u3 < s.toks) (y4' : u4 < s.toks)
   (d1 : o1.data = .cell (some (.ref b9))) (d2 : o2.data = .cell (some (.ref aw))) (d4 : o4.data = .cell (some (.ref ah))) (d5 : o5.data = .cell v5) (d6 : o6.data = .cell v6) (d7 : o7.data = .cell v7) (d8 : o8.data = .cell v8) (hg : leftWithCleanup s.gens = false)
   (m_rows : m (Str.ofString "rows") = some (.ref D)) (m_colour : m (Str.ofString "colour") = some (.ref ac)) (m_fair : m (Str.ofString "fair") = some (.bool fr)) (m_a : m (Str.ofString "a") = some (.int a ta)) (m_d : m (Str.ofString "d") = some (.int d td))
   (F : Fr h₀ L s.heap m) (N : News h₀ L s.heap ((ah, listOf (List.toArray [.bool (f 0), .bool (f 1), .bool (f 2)]) n1) :: (L + 1 + 1 + 1 + 1, o4) :: (L + 1 + 1 + 1 + 1 + 1, o5) :: (L + 1 + 1 + 1 + 1 + 1 + 1, o6) :: (L + 1 + 1 + 1 + 1 + 1 + 1 + 1, o7) :: (L + 1 + 1 + 1 + 1 + 1 + 1 + 1 + 1, o8) :: (L + 1, o1) :: (L + 1 + 1, o2) :: (D, LCg.lst ys) :: (b9, listOf ws.toArray nb) :: (aw, listOf (List.toArray [.int ((bs.count 0 : Nat) : Int) z1, .int ((bs.count 1 : Nat) : Int) z2, .int ((bs.count 2 : Nat) : Int) z3]) n2) :: (ac, tupOf #[.float H2 u3, .float S2 u4, v2] nk) :: xs)) (Q : Flow → Shared → Prop) (E : Value → Shared → Prop)
   (next : ∀ ah' n' o4' o5' o6' o7' o8' v5' v6' v7' v8' h' tk g m', leftWithCleanup g = false → o4'.data = .cell (some (.ref ah')) → o5'.data = .cell v5' → o6'.data = .cell v6' → o7'.data = .cell v7' → o8'.data = .cell v8' →
      m' (Str.ofString "rows") = some (.ref D) → m' (Str.ofString "colour") = some (.ref ac) → m' (Str.ofString "fair") = some (.bool (fr || fairB bs a.toNat d.toNat)) → m' (Str.ofString "a") = some (.int a ta) → Fr h₀ L h' m' → News h₀ L h' ((ah', listOf (List.toArray [.bool (if d = 5 then halfF bs a.toNat d.toNat f 0 else f 0), .bool (if d = 5 then halfF bs a.toNat d.toNat f 1 else f 1), .bool (if d = 5 then halfF bs a.toNat d.toNat f 2 else f 2)]) n') :: (L + 1 + 1 + 1 + 1, o4') :: (L + 1 + 1 + 1 + 1 + 1, o5') :: (L + 1 + 1 + 1 + 1 + 1 + 1, o6') :: (L + 1 + 1 + 1 + 1 + 1 + 1 + 1, o7') :: (L + 1 + 1 + 1 + 1 + 1 + 1 + 1 + 1, o8') :: (L + 1, o1) :: (L + 1 + 1, o2) :: (D, LCg.lst ys) :: (b9, listOf ws.toArray nb) :: (aw, listOf (List.toArray [.int ((bs.count 0 : Nat) : Int) z1, .int ((bs.count 1 : Nat) : Int) z2, .int ((bs.count 2 : Nat) : Int) z3]) n2) :: (ac, tupOf #[.float H2 u3, .float S2 u4, v2] nk) :: xs) → TurnGo 11 w L fa cd Q E { s with heap := h', toks := tk, gens := g }) :
   TurnGo 0 w L fa cd Q E s := by
  have e5' := mine_sum hB (a := a.toNat) (d := d.toNat) (by omega) (by omega) (by omega)
  have e5 : (((mineOf bs a.toNat d.toNat).count 0 : Nat) : Int) + (((mineOf bs a.toNat d.toNat).count 1 : Nat) : Int) + (((mineOf bs a.toNat d.toNat).count 2 : Nat) : Int) = 5 := by omega
  refine turn_mine w mean mg mb h₀ base Z fa cd L b9 ws bs nb hI (by rw [hB.1]) a d ta td pa pa' pd pd' s _ _ o1 o5 v5 d1 d5 (fr_pull (fr_pull F (x := Str.ofString "a") m_a) (x := Str.ofString "d") ((if_neg (by decide)).trans m_d)) (newsC (N _ (.tail _ (.tail _ (.tail _ (.tail _ (.tail _ (.tail _ (.tail _ (.tail _ (.tail _ (.head _))))))))))) (newsC (N _ (.tail _ (.tail _ (.tail _ (.tail _ (.tail _ (.tail _ (.head _)))))))) (newsC (N _ (.tail _ (.tail _ (.head _)))) (newsC (N _ (.head _)) (newsC (N _ (.tail _ (.head _))) (newsC (N _ (.tail _ (.tail _ (.tail _ (.head _))))) (newsC (N _ (.tail _ (.tail _ (.tail _ (.tail _ (.head _)))))) (newsC (N _ (.tail _ (.tail _ (.tail _ (.tail _ (.tail _ (.head _))))))) (newsC (N _ (.tail _ (.tail _ (.tail _ (.tail _ (.tail _ (.tail _ (.tail _ (.head _))))))))) (newsC (N _ (.tail _ (.tail _ (.tail _ (.tail _ (.tail _ (.tail _ (.tail _ (.tail _ (.head _)))))))))) (newsC (N _ (.tail _ (.tail _ (.tail _ (.tail _ (.tail _ (.tail _ (.tail _ (.tail _ (.tail _ (.tail _ (.head _)))))))))))) (newsC (N _ (.tail _ (.tail _ (.tail _ (.tail _ (.tail _ (.tail _ (.tail _ (.tail _ (.tail _ (.tail _ (.tail _ (.head _))))))))))))) (fun p hp => N p (.tail _ (.tail _ (.tail _ (.tail _ (.tail _ (.tail _ (.tail _ (.tail _ (.tail _ (.tail _ (.tail _ (.tail _ hp))))))))))))))))))))))))) (List.forall_mem_cons.mpr ⟨.inl (by intro v e; cases e), List.forall_mem_cons.mpr ⟨.inr (by show @Ne Nat (L + 1 + 1 + 1 + 1) (L + 1 + 1 + 1 + 1 + 1); omega), List.forall_mem_cons.mpr ⟨.inr (by show @Ne Nat (L + 1 + 1 + 1 + 1 + 1 + 1) (L + 1 + 1 + 1 + 1 + 1); omega), List.forall_mem_cons.mpr ⟨.inr (by show @Ne Nat (L + 1 + 1 + 1 + 1 + 1 + 1 + 1) (L + 1 + 1 + 1 + 1 + 1); omega), List.forall_mem_cons.mpr ⟨.inr (by show @Ne Nat (L + 1 + 1 + 1 + 1 + 1 + 1 + 1 + 1) (L + 1 + 1 + 1 + 1 + 1); omega), List.forall_mem_cons.mpr ⟨.inr (by show @Ne Nat (L + 1 + 1) (L + 1 + 1 + 1 + 1 + 1); omega), List.forall_mem_cons.mpr ⟨.inl (by intro v e; cases e), List.forall_mem_cons.mpr ⟨.inl (by intro v e; cases e), List.forall_mem_cons.mpr ⟨.inl (by intro v e; cases e), fun p hp => .inl (hxs p hp)⟩⟩⟩⟩⟩⟩⟩⟩⟩) Q E ?_
  intro am ms nm o5 h1 k1 K1 I1 d5 F1 N1
  clear N F
  refine turn_twice w mean mg mb h₀ base Z fa cd L am ms (mineOf bs a.toNat d.toNat) nm I1 ({ s with heap := h1, toks := k1 }) _ _ o5 d5 F1 (newsC (N1 _ (.head _)) (newsC (N1 _ (.tail _ (.tail _ (.tail _ (.head _))))) (newsC (N1 _ (.tail _ (.head _))) (newsC (N1 _ (.tail _ (.tail _ (.head _)))) (newsC (N1 _ (.tail _ (.tail _ (.tail _ (.tail _ (.head _)))))) (newsC (N1 _ (.tail _ (.tail _ (.tail _ (.tail _ (.tail _ (.head _))))))) (newsC (N1 _ (.tail _ (.tail _ (.tail _ (.tail _ (.tail _ (.tail _ (.head _)))))))) (newsC (N1 _ (.tail _ (.tail _ (.tail _ (.tail _ (.tail _ (.tail _ (.tail _ (.head _))))))))) (newsC (N1 _ (.tail _ (.tail _ (.tail _ (.tail _ (.tail _ (.tail _ (.tail _ (.tail _ (.head _)))))))))) (newsC (N1 _ (.tail _ (.tail _ (.tail _ (.tail _ (.tail _ (.tail _ (.tail _ (.tail _ (.tail _ (.head _))))))))))) (newsC (N1 _ (.tail _ (.tail _ (.tail _ (.tail _ (.tail _ (.tail _ (.tail _ (.tail _ (.tail _ (.tail _ (.head _)))))))))))) (newsC (N1 _ (.tail _ (.tail _ (.tail _ (.tail _ (.tail _ (.tail _ (.tail _ (.tail _ (.tail _ (.tail _ (.tail _ (.head _))))))))))))) (newsC (N1 _ (.tail _ (.tail _ (.tail _ (.tail _ (.tail _ (.tail _ (.tail _ (.tail _ (.tail _ (.tail _ (.tail _ (.tail _ (.head _)))))))))))))) (fun p hp => N1 p (.tail _ (.tail _ (.tail _ (.tail _ (.tail _ (.tail _ (.tail _ (.tail _ (.tail _ (.tail _ (.tail _ (.tail _ (.tail _ hp))))))))))))))))))))))))))) Q E ?_
  intro tw x1 x2 x3 h2 k2 K2 F2 N2
  clear N1 F1
  refine turn_share w mean mg mb h₀ base Z fa cd L D ys (rowsOf bs) hx (rowsOf_K bs) (by rw [rowsOf_len, hB.1]) a d ta td pa pa' pd pd' ({ s with heap := h2, toks := k2 }) _ _ _ o6 o7 o8 v6 v7 v8 d6 d7 d8 hg (fr_pull (fr_pull (fr_pull (fr_pull F2 (x := Str.ofString "rows") ((if_neg (by decide)).trans ((if_neg (by decide)).trans ((if_neg (by decide)).trans m_rows)))) (x := Str.ofString "a") ((if_neg (by decide)).trans ((if_neg (by decide)).trans ((if_neg (by decide)).trans (if_pos rfl))))) (x := Str.ofString "d") ((if_neg (by decide)).trans ((if_neg (by decide)).trans ((if_neg (by decide)).trans (if_pos rfl))))) (x := Str.ofString "twice") ((if_neg (by decide)).trans ((if_neg (by decide)).trans ((if_neg (by decide)).trans (if_pos rfl))))) (newsC (N2 _ (.tail _ (.tail _ (.tail _ (.tail _ (.tail _ (.tail _ (.tail _ (.tail _ (.tail _ (.tail _ (.tail _ (.head _))))))))))))) (newsC (N2 _ (.tail _ (.tail _ (.tail _ (.tail _ (.tail _ (.tail _ (.tail _ (.head _))))))))) (newsC (N2 _ (.tail _ (.tail _ (.tail _ (.tail _ (.tail _ (.tail _ (.tail _ (.tail _ (.head _)))))))))) (newsC (N2 _ (.tail _ (.tail _ (.tail _ (.tail _ (.tail _ (.tail _ (.tail _ (.tail _ (.tail _ (.head _))))))))))) (newsC (N2 _ (.head _)) (newsC (N2 _ (.tail _ (.tail _ (.head _)))) (newsC (N2 _ (.tail _ (.tail _ (.tail _ (.tail _ (.tail _ (.tail _ (.head _)))))))) (newsC (N2 _ (.tail _ (.tail _ (.tail _ (.tail _ (.head _)))))) (newsC (N2 _ (.tail _ (.tail _ (.tail _ (.tail _ (.tail _ (.tail _ (.tail _ (.tail _ (.tail _ (.tail _ (.head _)))))))))))) (newsC (N2 _ (.tail _ (.tail _ (.tail _ (.tail _ (.tail _ (.head _))))))) (newsC (N2 _ (.tail _ (.tail _ (.tail _ (.head _))))) (newsC (N2 _ (.tail _ (.tail _ (.tail _ (.tail _ (.tail _ (.tail _ (.tail _ (.tail _ (.tail _ (.tail _ (.tail _ (.tail _ (.head _)))))))))))))) (newsC (N2 _ (.tail _ (.tail _ (.tail _ (.tail _ (.tail _ (.tail _ (.tail _ (.tail _ (.tail _ (.tail _ (.tail _ (.tail _ (.tail _ (.head _))))))))))))))) (fun p hp => N2 p (.tail _ (.tail _ (.tail _ (.tail _ (.tail _ (.tail _ (.tail _ (.tail _ (.tail _ (.tail _ (.tail _ (.tail _ (.tail _ (.tail _ hp)))))))))))))))))))))))))))) (List.forall_mem_cons.mpr ⟨.inl (by intro v e; cases e), List.forall_mem_cons.mpr ⟨.inr (by show @Ne Nat (L + 1 + 1 + 1 + 1 + 1) (L + 1 + 1 + 1 + 1 + 1 + 1); omega), List.forall_mem_cons.mpr ⟨.inr (by show @Ne Nat (L + 1 + 1 + 1 + 1) (L + 1 + 1 + 1 + 1 + 1 + 1); omega), List.forall_mem_cons.mpr ⟨.inr (by show @Ne Nat (L + 1) (L + 1 + 1 + 1 + 1 + 1 + 1); omega), List.forall_mem_cons.mpr ⟨.inr (by show @Ne Nat (L + 1 + 1) (L + 1 + 1 + 1 + 1 + 1 + 1); omega), List.forall_mem_cons.mpr ⟨.inl (by intro v e; cases e), List.forall_mem_cons.mpr ⟨.inl (by intro v e; cases e), List.forall_mem_cons.mpr ⟨.inl (by intro v e; cases e), List.forall_mem_cons.mpr ⟨.inl (by intro v e; cases e), fun p hp => .inl (hxs p hp)⟩⟩⟩⟩⟩⟩⟩⟩⟩) (List.forall_mem_cons.mpr ⟨.inl (by intro v e; cases e), List.forall_mem_cons.mpr ⟨.inr (by show @Ne Nat (L + 1 + 1 + 1 + 1 + 1) (L + 1 + 1 + 1 + 1 + 1 + 1 + 1); omega), List.forall_mem_cons.mpr ⟨.inr (by show @Ne Nat (L + 1 + 1 + 1 + 1) (L + 1 + 1 + 1 + 1 + 1 + 1 + 1); omega), List.forall_mem_cons.mpr ⟨.inr (by show @Ne Nat (L + 1) (L + 1 + 1 + 1 + 1 + 1 + 1 + 1); omega), List.forall_mem_cons.mpr ⟨.inr (by show @Ne Nat (L + 1 + 1) (L + 1 + 1 + 1 + 1 + 1 + 1 + 1); omega), List.forall_mem_cons.mpr ⟨.inl (by intro v e; cases e), List.forall_mem_cons.mpr ⟨.inl (by intro v e; cases e), List.forall_mem_cons.mpr ⟨.inl (by intro v e; cases e), List.forall_mem_cons.mpr ⟨.inl (by intro v e; cases e), fun p hp => .inl (hxs p hp)⟩⟩⟩⟩⟩⟩⟩⟩⟩) (List.forall_mem_cons.mpr ⟨.inl (by intro v e; cases e), List.forall_mem_cons.mpr ⟨.inr (by show @Ne Nat (L + 1 + 1 + 1 + 1 + 1) (L + 1 + 1 + 1 + 1 + 1 + 1 + 1 + 1); omega), List.forall_mem_cons.mpr ⟨.inr (by show @Ne Nat (L + 1 + 1 + 1 + 1) (L + 1 + 1 + 1 + 1 + 1 + 1 + 1 + 1); omega), List.forall_mem_cons.mpr ⟨.inr (by show @Ne Nat (L + 1) (L + 1 + 1 + 1 + 1 + 1 + 1 + 1 + 1); omega), List.forall_mem_cons.mpr ⟨.inr (by show @Ne Nat (L + 1 + 1) (L + 1 + 1 + 1 + 1 + 1 + 1 + 1 + 1); omega), List.forall_mem_cons.mpr ⟨.inl (by intro v e; cases e), List.forall_mem_cons.mpr ⟨.inl (by intro v e; cases e), List.forall_mem_cons.mpr ⟨.inl (by intro v e; cases e), List.forall_mem_cons.mpr ⟨.inl (by intro v e; cases e), fun p hp => .inl (hxs p hp)⟩⟩⟩⟩⟩⟩⟩⟩⟩) Q E ?_
  intro t1 t2 t3 o6 o7 o8 h3 k3 g3 K3 G3 d6 d7 d8 F3 N3
  rw [cnt_mine hB.2.1] at d6 d7 d8
  clear N2 F2
  refine turn_if1 w mean mg mb h₀ base Z fa cd L tw _ _ _ t1 t2 t3 x1 x2 x3 3 ({ s with heap := h3, toks := k3, gens := g3 }) _ _ o6 o7 o8 d6 d7 d8 (fr_pull F3 (x := Str.ofString "twice") (if_pos rfl)) (newsC (N3 _ (.tail _ (.tail _ (.tail _ (.tail _ (.head _)))))) (newsC (N3 _ (.tail _ (.head _))) (newsC (N3 _ (.tail _ (.tail _ (.head _)))) (newsC (N3 _ (.tail _ (.tail _ (.tail _ (.head _))))) (newsC (N3 _ (.head _)) (newsC (N3 _ (.tail _ (.tail _ (.tail _ (.tail _ (.tail _ (.head _))))))) (newsC (N3 _ (.tail _ (.tail _ (.tail _ (.tail _ (.tail _ (.tail _ (.head _)))))))) (newsC (N3 _ (.tail _ (.tail _ (.tail _ (.tail _ (.tail _ (.tail _ (.tail _ (.head _))))))))) (newsC (N3 _ (.tail _ (.tail _ (.tail _ (.tail _ (.tail _ (.tail _ (.tail _ (.tail _ (.head _)))))))))) (newsC (N3 _ (.tail _ (.tail _ (.tail _ (.tail _ (.tail _ (.tail _ (.tail _ (.tail _ (.tail _ (.head _))))))))))) (newsC (N3 _ (.tail _ (.tail _ (.tail _ (.tail _ (.tail _ (.tail _ (.tail _ (.tail _ (.tail _ (.tail _ (.head _)))))))))))) (newsC (N3 _ (.tail _ (.tail _ (.tail _ (.tail _ (.tail _ (.tail _ (.tail _ (.tail _ (.tail _ (.tail _ (.tail _ (.head _))))))))))))) (newsC (N3 _ (.tail _ (.tail _ (.tail _ (.tail _ (.tail _ (.tail _ (.tail _ (.tail _ (.tail _ (.tail _ (.tail _ (.tail _ (.head _)))))))))))))) (fun p hp => N3 p (.tail _ (.tail _ (.tail _ (.tail _ (.tail _ (.tail _ (.tail _ (.tail _ (.tail _ (.tail _ (.tail _ (.tail _ (.tail _ hp))))))))))))))))))))))))))) Q E ?_
  intro h4 k4 K4 F4 N4
  clear N3 F3
  refine turn_told w mean mg mb h₀ base Z fa cd L _ _ _ (Int.natCast_nonneg _) (Int.natCast_nonneg _) (Int.natCast_nonneg _) e5 t1 t2 t3 ({ s with heap := h4, toks := k4, gens := g3 }) _ _ o6 o7 o8 d6 d7 d8 F4 (newsC (N4 _ (.tail _ (.head _))) (newsC (N4 _ (.tail _ (.tail _ (.head _)))) (newsC (N4 _ (.tail _ (.tail _ (.tail _ (.head _))))) (newsC (N4 _ (.head _)) (newsC (N4 _ (.tail _ (.tail _ (.tail _ (.tail _ (.head _)))))) (newsC (N4 _ (.tail _ (.tail _ (.tail _ (.tail _ (.tail _ (.head _))))))) (newsC (N4 _ (.tail _ (.tail _ (.tail _ (.tail _ (.tail _ (.tail _ (.head _)))))))) (newsC (N4 _ (.tail _ (.tail _ (.tail _ (.tail _ (.tail _ (.tail _ (.tail _ (.head _))))))))) (newsC (N4 _ (.tail _ (.tail _ (.tail _ (.tail _ (.tail _ (.tail _ (.tail _ (.tail _ (.head _)))))))))) (newsC (N4 _ (.tail _ (.tail _ (.tail _ (.tail _ (.tail _ (.tail _ (.tail _ (.tail _ (.tail _ (.head _))))))))))) (newsC (N4 _ (.tail _ (.tail _ (.tail _ (.tail _ (.tail _ (.tail _ (.tail _ (.tail _ (.tail _ (.tail _ (.head _)))))))))))) (newsC (N4 _ (.tail _ (.tail _ (.tail _ (.tail _ (.tail _ (.tail _ (.tail _ (.tail _ (.tail _ (.tail _ (.tail _ (.head _))))))))))))) (newsC (N4 _ (.tail _ (.tail _ (.tail _ (.tail _ (.tail _ (.tail _ (.tail _ (.tail _ (.tail _ (.tail _ (.tail _ (.tail _ (.head _)))))))))))))) (fun p hp => N4 p (.tail _ (.tail _ (.tail _ (.tail _ (.tail _ (.tail _ (.tail _ (.tail _ (.tail _ (.tail _ (.tail _ (.tail _ (.tail _ hp))))))))))))))))))))))))))) Q E ?_
  intro at_ u1 u2 uu n5 h5 k5 K5 U1 U2 F5 N5
  clear N4 F4
  refine turn_made w mean mg mb h₀ base Z fa cd L at_ _ _ _ (Int.natCast_nonneg _) (Int.natCast_nonneg _) (Int.natCast_nonneg _) e5 u1 u2 uu n5 ({ s with heap := h5, toks := k5, gens := g3 }) _ _ G3 F5 N5 Q E ?_
  intro am2 q1 q2 q3 n6 h6 k6 g6 K6 G6 R1 R2 R3 F6 N6
  clear N5 F5
  refine turn_if2 w mean mg mb h₀ base Z fa cd L am2 tw q1 q2 q3 _ _ _ R1 R2 R3 x1 x2 x3 n6 3 ({ s with heap := h6, toks := k6, gens := g6 }) _ _ _ (fr_pull (fr_pull (fr_pull F6 (x := Str.ofString "twice") ((if_neg (by decide)).trans ((if_neg (by decide)).trans (if_pos rfl)))) (x := Str.ofString "told") ((if_neg (by decide)).trans ((if_neg (by decide)).trans (if_pos rfl)))) (x := Str.ofString "made") ((if_neg (by decide)).trans ((if_neg (by decide)).trans (if_pos rfl)))) (newsC (N6 _ (.head _)) (newsC (N6 _ (.tail _ (.tail _ (.tail _ (.tail _ (.tail _ (.head _))))))) (newsC (N6 _ (.tail _ (.head _))) (newsC (N6 _ (.tail _ (.tail _ (.head _)))) (newsC (N6 _ (.tail _ (.tail _ (.tail _ (.head _))))) (newsC (N6 _ (.tail _ (.tail _ (.tail _ (.tail _ (.head _)))))) (newsC (N6 _ (.tail _ (.tail _ (.tail _ (.tail _ (.tail _ (.tail _ (.head _)))))))) (newsC (N6 _ (.tail _ (.tail _ (.tail _ (.tail _ (.tail _ (.tail _ (.tail _ (.head _))))))))) (newsC (N6 _ (.tail _ (.tail _ (.tail _ (.tail _ (.tail _ (.tail _ (.tail _ (.tail _ (.head _)))))))))) (newsC (N6 _ (.tail _ (.tail _ (.tail _ (.tail _ (.tail _ (.tail _ (.tail _ (.tail _ (.tail _ (.head _))))))))))) (newsC (N6 _ (.tail _ (.tail _ (.tail _ (.tail _ (.tail _ (.tail _ (.tail _ (.tail _ (.tail _ (.tail _ (.head _)))))))))))) (newsC (N6 _ (.tail _ (.tail _ (.tail _ (.tail _ (.tail _ (.tail _ (.tail _ (.tail _ (.tail _ (.tail _ (.tail _ (.head _))))))))))))) (newsC (N6 _ (.tail _ (.tail _ (.tail _ (.tail _ (.tail _ (.tail _ (.tail _ (.tail _ (.tail _ (.tail _ (.tail _ (.tail _ (.head _)))))))))))))) (newsC (N6 _ (.tail _ (.tail _ (.tail _ (.tail _ (.tail _ (.tail _ (.tail _ (.tail _ (.tail _ (.tail _ (.tail _ (.tail _ (.tail _ (.head _))))))))))))))) (newsC (N6 _ (.tail _ (.tail _ (.tail _ (.tail _ (.tail _ (.tail _ (.tail _ (.tail _ (.tail _ (.tail _ (.tail _ (.tail _ (.tail _ (.tail _ (.head _)))))))))))))))) (fun p hp => N6 p (.tail _ (.tail _ (.tail _ (.tail _ (.tail _ (.tail _ (.tail _ (.tail _ (.tail _ (.tail _ (.tail _ (.tail _ (.tail _ (.tail _ (.tail _ hp))))))))))))))))))))))))))))))) Q E ?_
  intro h7 k7 K7 F7 N7
  clear N6 F6
  have T1 : s.toks ≤ u1 := Nat.le_trans (Nat.le_trans K1 (Nat.le_trans K2 (Nat.le_trans K3 K4))) U1.1
  have T2 : s.toks ≤ u2 := Nat.le_trans (Nat.le_trans K1 (Nat.le_trans K2 (Nat.le_trans K3 K4))) U2.1
  refine turn_same w mean mg mb h₀ base Z fa cd L at_ ac _ _ H2 S2 _ v2 u1 u2 u3 u4 n5 nk ({ s with heap := h7, toks := k7, gens := g6 }) _ _ _ (nz_of T1 y3') (nz_of T2 y4') y3 y4 (ne_of T1 y3') (ne_of T2 y4') (fr_pull (fr_pull (fr_pull F7 (x := Str.ofString "colour") ((if_neg (by decide)).trans ((if_neg (by decide)).trans ((if_neg (by decide)).trans ((if_neg (by decide)).trans ((if_neg (by decide)).trans ((if_neg (by decide)).trans ((if_neg (by decide)).trans ((if_neg (by decide)).trans ((if_neg (by decide)).trans ((if_neg (by decide)).trans ((if_neg (by decide)).trans ((if_neg (by decide)).trans ((if_neg (by decide)).trans m_colour)))))))))))))) (x := Str.ofString "told") ((if_neg (by decide)).trans ((if_neg (by decide)).trans (if_pos rfl)))) (x := Str.ofString "made") ((if_neg (by decide)).trans ((if_neg (by decide)).trans (if_pos rfl)))) (newsC (N7 _ (.tail _ (.tail _ (.head _)))) (newsC (N7 _ (.tail _ (.tail _ (.tail _ (.tail _ (.tail _ (.tail _ (.tail _ (.tail _ (.tail _ (.tail _ (.tail _ (.tail _ (.tail _ (.tail _ (.head _)))))))))))))))) (newsC (N7 _ (.head _)) (newsC (N7 _ (.tail _ (.head _))) (newsC (N7 _ (.tail _ (.tail _ (.tail _ (.head _))))) (newsC (N7 _ (.tail _ (.tail _ (.tail _ (.tail _ (.head _)))))) (newsC (N7 _ (.tail _ (.tail _ (.tail _ (.tail _ (.tail _ (.head _))))))) (newsC (N7 _ (.tail _ (.tail _ (.tail _ (.tail _ (.tail _ (.tail _ (.head _)))))))) (newsC (N7 _ (.tail _ (.tail _ (.tail _ (.tail _ (.tail _ (.tail _ (.tail _ (.head _))))))))) (newsC (N7 _ (.tail _ (.tail _ (.tail _ (.tail _ (.tail _ (.tail _ (.tail _ (.tail _ (.head _)))))))))) (newsC (N7 _ (.tail _ (.tail _ (.tail _ (.tail _ (.tail _ (.tail _ (.tail _ (.tail _ (.tail _ (.head _))))))))))) (newsC (N7 _ (.tail _ (.tail _ (.tail _ (.tail _ (.tail _ (.tail _ (.tail _ (.tail _ (.tail _ (.tail _ (.head _)))))))))))) (newsC (N7 _ (.tail _ (.tail _ (.tail _ (.tail _ (.tail _ (.tail _ (.tail _ (.tail _ (.tail _ (.tail _ (.tail _ (.head _))))))))))))) (newsC (N7 _ (.tail _ (.tail _ (.tail _ (.tail _ (.tail _ (.tail _ (.tail _ (.tail _ (.tail _ (.tail _ (.tail _ (.tail _ (.head _)))))))))))))) (newsC (N7 _ (.tail _ (.tail _ (.tail _ (.tail _ (.tail _ (.tail _ (.tail _ (.tail _ (.tail _ (.tail _ (.tail _ (.tail _ (.tail _ (.head _))))))))))))))) (fun p hp => N7 p (.tail _ (.tail _ (.tail _ (.tail _ (.tail _ (.tail _ (.tail _ (.tail _ (.tail _ (.tail _ (.tail _ (.tail _ (.tail _ (.tail _ (.tail _ hp))))))))))))))))))))))))))))))) Q E ?_
  intro h8 k8 K8 F8 N8
  clear N7 F7
  rw [show ((Float64.cmp (rgbH (((mineOf bs a.toNat d.toNat).count 0 : Nat) : Int) (((mineOf bs a.toNat d.toNat).count 1 : Nat) : Int) (((mineOf bs a.toNat d.toNat).count 2 : Nat) : Int)) H2 == some .eq) && (Float64.cmp (rgbS (((mineOf bs a.toNat d.toNat).count 0 : Nat) : Int) (((mineOf bs a.toNat d.toNat).count 1 : Nat) : Int) (((mineOf bs a.toNat d.toNat).count 2 : Nat) : Int)) S2 == some .eq)) = fairB bs a.toNat d.toNat from fair_same hB e5' eH eS] at F8
  refine turn_if3 w mean mg mb h₀ base Z fa cd L tw aw _ _ [2 * (((mineOf bs a.toNat d.toNat).count 0 : Nat) : Int), 2 * (((mineOf bs a.toNat d.toNat).count 1 : Nat) : Int), 2 * (((mineOf bs a.toNat d.toNat).count 2 : Nat) : Int)] [((bs.count 0 : Nat) : Int), ((bs.count 1 : Nat) : Int), ((bs.count 2 : Nat) : Int)] (.cons _ _ (.cons _ _ (.cons _ _ .nil))) (.cons _ _ (.cons _ _ (.cons _ _ .nil))) 3 n2 ({ s with heap := h8, toks := k8, gens := g6 }) _ _ o2 d2 (fr_pull (fr_pull F8 (x := Str.ofString "twice") ((if_neg (by decide)).trans ((if_neg (by decide)).trans ((if_neg (by decide)).trans ((if_neg (by decide)).trans ((if_neg (by decide)).trans ((if_neg (by decide)).trans (if_pos rfl)))))))) (x := Str.ofString "same") ((if_neg (by decide)).trans (if_pos rfl))) (newsC (N8 _ (.tail _ (.tail _ (.tail _ (.head _))))) (newsC (N8 _ (.tail _ (.tail _ (.tail _ (.tail _ (.tail _ (.tail _ (.tail _ (.tail _ (.tail _ (.tail _ (.tail _ (.tail _ (.tail _ (.tail _ (.head _)))))))))))))))) (newsC (N8 _ (.tail _ (.tail _ (.tail _ (.tail _ (.tail _ (.tail _ (.tail _ (.tail _ (.tail _ (.tail _ (.tail _ (.head _))))))))))))) (newsC (N8 _ (.head _)) (newsC (N8 _ (.tail _ (.head _))) (newsC (N8 _ (.tail _ (.tail _ (.head _)))) (newsC (N8 _ (.tail _ (.tail _ (.tail _ (.tail _ (.head _)))))) (newsC (N8 _ (.tail _ (.tail _ (.tail _ (.tail _ (.tail _ (.head _))))))) (newsC (N8 _ (.tail _ (.tail _ (.tail _ (.tail _ (.tail _ (.tail _ (.head _)))))))) (newsC (N8 _ (.tail _ (.tail _ (.tail _ (.tail _ (.tail _ (.tail _ (.tail _ (.head _))))))))) (newsC (N8 _ (.tail _ (.tail _ (.tail _ (.tail _ (.tail _ (.tail _ (.tail _ (.tail _ (.head _)))))))))) (newsC (N8 _ (.tail _ (.tail _ (.tail _ (.tail _ (.tail _ (.tail _ (.tail _ (.tail _ (.tail _ (.head _))))))))))) (newsC (N8 _ (.tail _ (.tail _ (.tail _ (.tail _ (.tail _ (.tail _ (.tail _ (.tail _ (.tail _ (.tail _ (.head _)))))))))))) (newsC (N8 _ (.tail _ (.tail _ (.tail _ (.tail _ (.tail _ (.tail _ (.tail _ (.tail _ (.tail _ (.tail _ (.tail _ (.tail _ (.head _)))))))))))))) (newsC (N8 _ (.tail _ (.tail _ (.tail _ (.tail _ (.tail _ (.tail _ (.tail _ (.tail _ (.tail _ (.tail _ (.tail _ (.tail _ (.tail _ (.head _))))))))))))))) (fun p hp => N8 p (.tail _ (.tail _ (.tail _ (.tail _ (.tail _ (.tail _ (.tail _ (.tail _ (.tail _ (.tail _ (.tail _ (.tail _ (.tail _ (.tail _ (.tail _ hp))))))))))))))))))))))))))))))) Q E ?_
  intro h9 k9 K9 F9 N9
  clear N8 F8
  refine turn_fair w mean mg mb h₀ base Z fa cd L fr (fairB bs a.toNat d.toNat) ({ s with heap := h9, toks := k9, gens := g6 }) _ _ (fr_pull (fr_pull F9 (x := Str.ofString "fair") ((if_neg (by decide)).trans ((if_neg (by decide)).trans ((if_neg (by decide)).trans ((if_neg (by decide)).trans ((if_neg (by decide)).trans ((if_neg (by decide)).trans ((if_neg (by decide)).trans ((if_neg (by decide)).trans ((if_neg (by decide)).trans ((if_neg (by decide)).trans ((if_neg (by decide)).trans ((if_neg (by decide)).trans ((if_neg (by decide)).trans ((if_neg (by decide)).trans ((if_neg (by decide)).trans ((if_neg (by decide)).trans ((if_neg (by decide)).trans ((if_neg (by decide)).trans ((if_neg (by decide)).trans m_fair)))))))))))))))))))) (x := Str.ofString "same") ((if_neg (by decide)).trans (if_pos rfl))) N9 Q E ?_
  intro h10 k10 K10 F10 N10
  clear N9 F9
  refine turn_half w mean mg mb h₀ base Z fa cd L ah aw f (pick3 (((mineOf bs a.toNat d.toNat).count 0 : Nat) : Int) (((mineOf bs a.toNat d.toNat).count 1 : Nat) : Int) (((mineOf bs a.toNat d.toNat).count 2 : Nat) : Int)) (pick3 ((bs.count 0 : Nat) : Int) ((bs.count 1 : Nat) : Int) ((bs.count 2 : Nat) : Int)) (pick3 t1 t2 t3) (pick3 z1 z2 z3) d td n1 n2 ({ s with heap := h10, toks := k10, gens := g6 }) _ _ o2 o4 o6 o7 o8 d2 d4 d6 d7 d8 (fr_pull F10 (x := Str.ofString "d") ((if_neg (by decide)).trans ((if_neg (by decide)).trans ((if_neg (by decide)).trans ((if_neg (by decide)).trans ((if_neg (by decide)).trans ((if_neg (by decide)).trans ((if_neg (by decide)).trans ((if_neg (by decide)).trans ((if_neg (by decide)).trans ((if_neg (by decide)).trans ((if_neg (by decide)).trans ((if_neg (by decide)).trans ((if_neg (by decide)).trans ((if_neg (by decide)).trans ((if_neg (by decide)).trans ((if_neg (by decide)).trans (if_pos rfl)))))))))))))))))) (newsC (N10 _ (.tail _ (.tail _ (.tail _ (.tail _ (.tail _ (.tail _ (.tail _ (.tail _ (.tail _ (.tail _ (.tail _ (.tail _ (.tail _ (.head _))))))))))))))) (newsC (N10 _ (.tail _ (.head _))) (newsC (N10 _ (.tail _ (.tail _ (.head _)))) (newsC (N10 _ (.tail _ (.tail _ (.tail _ (.tail _ (.tail _ (.tail _ (.tail _ (.tail _ (.tail _ (.tail _ (.tail _ (.head _))))))))))))) (newsC (N10 _ (.tail _ (.tail _ (.tail _ (.tail _ (.tail _ (.tail _ (.head _)))))))) (newsC (N10 _ (.tail _ (.tail _ (.tail _ (.tail _ (.tail _ (.tail _ (.tail _ (.head _))))))))) (newsC (N10 _ (.tail _ (.tail _ (.tail _ (.tail _ (.tail _ (.tail _ (.tail _ (.tail _ (.head _)))))))))) (newsC (N10 _ (.head _)) (newsC (N10 _ (.tail _ (.tail _ (.tail _ (.head _))))) (newsC (N10 _ (.tail _ (.tail _ (.tail _ (.tail _ (.head _)))))) (newsC (N10 _ (.tail _ (.tail _ (.tail _ (.tail _ (.tail _ (.head _))))))) (newsC (N10 _ (.tail _ (.tail _ (.tail _ (.tail _ (.tail _ (.tail _ (.tail _ (.tail _ (.tail _ (.head _))))))))))) (newsC (N10 _ (.tail _ (.tail _ (.tail _ (.tail _ (.tail _ (.tail _ (.tail _ (.tail _ (.tail _ (.tail _ (.head _)))))))))))) (newsC (N10 _ (.tail _ (.tail _ (.tail _ (.tail _ (.tail _ (.tail _ (.tail _ (.tail _ (.tail _ (.tail _ (.tail _ (.tail _ (.head _)))))))))))))) (newsC (N10 _ (.tail _ (.tail _ (.tail _ (.tail _ (.tail _ (.tail _ (.tail _ (.tail _ (.tail _ (.tail _ (.tail _ (.tail _ (.tail _ (.tail _ (.head _)))))))))))))))) (fun p hp => N10 p (.tail _ (.tail _ (.tail _ (.tail _ (.tail _ (.tail _ (.tail _ (.tail _ (.tail _ (.tail _ (.tail _ (.tail _ (.tail _ (.tail _ (.tail _ hp))))))))))))))))))))))))))))))) (List.forall_mem_cons.mpr ⟨.inl (by intro v e; cases e), List.forall_mem_cons.mpr ⟨.inl (by intro v e; cases e), List.forall_mem_cons.mpr ⟨.inl (by intro v e; cases e), List.forall_mem_cons.mpr ⟨.inl (by intro v e; cases e), List.forall_mem_cons.mpr ⟨.inl (by intro v e; cases e), List.forall_mem_cons.mpr ⟨.inr (by show @Ne Nat (L + 1 + 1 + 1 + 1 + 1) (L + 1 + 1 + 1 + 1); omega), List.forall_mem_cons.mpr ⟨.inr (by show @Ne Nat (L + 1) (L + 1 + 1 + 1 + 1); omega), List.forall_mem_cons.mpr ⟨.inl (by intro v e; cases e), fun p hp => .inl (hxs p hp)⟩⟩⟩⟩⟩⟩⟩⟩) Q E ?_
  intro ah2 n12 o42 h11 k11 K11 d4 F11 N11
  clear N10 F10
  exact next ah2 n12 o42 o5 o6 o7 o8 _ _ _ _ h11 k11 g6 _ G6 d4 d5 d6 d7 d8 ((if_neg (by decide)).trans ((if_neg (by decide)).trans ((if_neg (by decide)).trans ((if_neg (by decide)).trans ((if_neg (by decide)).trans ((if_neg (by decide)).trans ((if_neg (by decide)).trans ((if_neg (by decide)).trans ((if_neg (by decide)).trans ((if_neg (by decide)).trans ((if_neg (by decide)).trans ((if_neg (by decide)).trans ((if_neg (by decide)).trans ((if_neg (by decide)).trans ((if_neg (by decide)).trans ((if_neg (by decide)).trans ((if_neg (by decide)).trans ((if_neg (by decide)).trans ((if_neg (by decide)).trans (if_pos rfl)))))))))))))))))))) ((if_neg (by decide)).trans ((if_neg (by decide)).trans ((if_neg (by decide)).trans ((if_neg (by decide)).trans ((if_neg (by decide)).trans ((if_neg (by decide)).trans ((if_neg (by decide)).trans ((if_neg (by decide)).trans ((if_neg (by decide)).trans (if_pos rfl)))))))))) ((if_neg (by decide)).trans (if_pos rfl)) ((if_neg (by decide)).trans ((if_neg (by decide)).trans ((if_neg (by decide)).trans ((if_neg (by decide)).trans ((if_neg (by decide)).trans ((if_neg (by decide)).trans ((if_neg (by decide)).trans ((if_neg (by decide)).trans ((if_neg (by decide)).trans ((if_neg (by decide)).trans ((if_neg (by decide)).trans ((if_neg (by decide)).trans ((if_neg (by decide)).trans ((if_neg (by decide)).trans ((if_neg (by decide)).trans ((if_neg (by decide)).trans ((if_neg (by decide)).trans ((if_neg (by decide)).trans (if_pos rfl))))))))))))))))))) F11 (newsC (N11 _ (.head _)) (newsC (N11 _ (.tail _ (.tail _ (.tail _ (.head _))))) (newsC (N11 _ (.tail _ (.tail _ (.tail _ (.tail _ (.tail _ (.tail _ (.tail _ (.tail _ (.tail _ (.tail _ (.tail _ (.tail _ (.head _)))))))))))))) (newsC (N11 _ (.tail _ (.tail _ (.tail _ (.tail _ (.head _)))))) (newsC (N11 _ (.tail _ (.tail _ (.tail _ (.tail _ (.tail _ (.head _))))))) (newsC (N11 _ (.tail _ (.tail _ (.tail _ (.tail _ (.tail _ (.tail _ (.head _)))))))) (newsC (N11 _ (.tail _ (.tail _ (.tail _ (.tail _ (.tail _ (.tail _ (.tail _ (.tail _ (.tail _ (.tail _ (.tail _ (.tail _ (.tail _ (.head _))))))))))))))) (newsC (N11 _ (.tail _ (.tail _ (.head _)))) (newsC (N11 _ (.tail _ (.tail _ (.tail _ (.tail _ (.tail _ (.tail _ (.tail _ (.tail _ (.tail _ (.tail _ (.tail _ (.head _))))))))))))) (newsC (N11 _ (.tail _ (.tail _ (.tail _ (.tail _ (.tail _ (.tail _ (.tail _ (.tail _ (.tail _ (.tail _ (.tail _ (.tail _ (.tail _ (.tail _ (.head _)))))))))))))))) (newsC (N11 _ (.tail _ (.head _))) (newsC (N11 _ (.tail _ (.tail _ (.tail _ (.tail _ (.tail _ (.tail _ (.tail _ (.tail _ (.tail _ (.head _))))))))))) (fun p hp => N11 p (.tail _ (.tail _ (.tail _ (.tail _ (.tail _ (.tail _ (.tail _ (.tail _ (.tail _ (.tail _ (.tail _ (.tail _ (.tail _ (.tail _ (.tail _ hp))))))))))))))))))))))))))))
end Mine

end
-- Loop2
section
open PySem PySem.W PyProof.Rows PySem.Calls PySem.Spec
set_option maxRecDepth 100000
set_option maxHeartbeats 8000000
namespace Mine
theorem fresh_Loop2 : True := by
  w_top off
  k_with_none
  trivial
section
variable {prog : Program} {w : World} {A : Around} {env : Env} {h₀ : Heap}
/-- a for over a range that stands: by an invariant over the turn, the frame's map, the ledger and the generators -/
theorem range_loopT {R : Result → Shared → Prop} {s : Shared} {x : Str} {px : Pos} {body : List Stmt} {I : Addr} {a : Int} {n : Nat} {m : Str → Option Value} {news : List (Addr × Obj)} (hh : A.handled = none)
    (hx : env.kindOf x = some .local) (hp : (env.scope.kind == .class || (env.scope.kind == .module && env.locals != env.globals)) = false)
    (hI : h₀.get? I = none) (hIL : I ≠ env.locals) (off : ∀ p ∈ news, p.1 ≠ I) (hit : s.heap.get? I = some (itR a n)) (F : Fr h₀ env.locals s.heap m) (N : News h₀ env.locals s.heap news)
    (J : Nat → (Str → Option Value) → List (Addr × Obj) → Array GenState → Prop) (h0 : J 0 m news s.gens)
    (turn : ∀ (i : Nat) m news h tk g t, i < n → s.toks ≤ tk → J i m news g → (∀ p ∈ news, p.1 ≠ I) → Fr h₀ env.locals h (fun y => if y = x then some (.int (a + (i : Int)) t) else m y) → News h₀ env.locals h ((I, itR (a + ((i + 1 : Nat) : Int)) ((n : Int) - ((i + 1 : Nat) : Int))) :: news) →
      wpAny (model prog w) A (execs body env) (fun f s₂ => match f with
        | .ret v => R (.ok (.ret v)) s₂
        | .brk => R (.ok .next) s₂
        | _ => ∃ h' tk' g' m' news', s₂ = { s with heap := h', toks := tk', gens := g' } ∧ Fr h₀ env.locals h' m' ∧ News h₀ env.locals h' ((I, itR (a + ((i + 1 : Nat) : Int)) ((n : Int) - ((i + 1 : Nat) : Int))) :: news') ∧ (∀ p ∈ news', p.1 ≠ I) ∧ J (i + 1) m' news' g')
        (notedBy (model prog w) A env fun e s' => R (.error e) s') { s with heap := h, toks := tk, gens := g })
    (done : ∀ h tk g m news, s.toks ≤ tk → J n m news g → Fr h₀ env.locals h m → News h₀ env.locals h news → R (.ok .next) { s with heap := h, toks := tk, gens := g }) :
    codeAny (model prog w) A (.forLoop (.Name x px) (.ref I) body [] env) R s := by
  refine codeAny_forLoop
    (fun k s' => ∃ h' tk g m' news' i, s' = { s with heap := h', toks := tk, gens := g } ∧ h'.get? I = some (itR (a + ((i : Nat) : Int)) ((n : Int) - ((i : Nat) : Int))) ∧ Fr h₀ env.locals h' m' ∧ News h₀ env.locals h' news' ∧ (∀ p ∈ news', p.1 ≠ I) ∧ J i m' news' g ∧ s.toks ≤ tk ∧ i ≤ n ∧ k = n + 1 - i) ?_ (n + 1)
    ⟨s.heap, s.toks, s.gens, m, news, 0, rfl, by simpa using hit, F, N, off, h0, Nat.le_refl _, Nat.zero_le _, rfl⟩
  intro k s' hst0
  refine Classical.byContradiction fun hn0 => ?_
  obtain ⟨h', tk, g, m', news', i, rfl, hst', F', N', off', hJ, hT, hi, rfl⟩ := hst0
  refine hn0 ?_
  clear hn0
  by_cases hlt : i < n
  · refine wpAny_pyNext_range_item (itR_is hst') (by omega) fun h₁ hit₁ hs₁ => ?_
    obtain ⟨F₁, N₁⟩ := off_range F' N' hIL hI off' (fun b o hb e => hs₁.extBut b o hb e)
    refine wpAny_assign_Name (wpAny_storeName_local hx F₁.ns (fun h₂ hn₂ hs₂ => ?_) hp)
    have F₂ := F₁.set hn₂ hs₂
    have e1 : a + (i : Int) + 1 = a + ((i + 1 : Nat) : Int) := by push_cast; omega
    have e2 : (n : Int) - (i : Int) - 1 = (n : Int) - ((i + 1 : Nat) : Int) := by push_cast; omega
    have hst₂ : h₂.get? I = some (itR (a + ((i + 1 : Nat) : Int)) ((n : Int) - ((i + 1 : Nat) : Int))) := by
      rw [hs₂.2 I hIL, ← e1, ← e2]; exact hit₁
    have N₂ : News h₀ env.locals h₂ ((I, itR (a + ((i + 1 : Nat) : Int)) ((n : Int) - ((i + 1 : Nat) : Int))) :: news') := fun p hp => by
      rcases List.mem_cons.mp hp with rfl | hp
      · exact ⟨hst₂, hIL, hI⟩
      · exact (N₁.set hs₂) p hp
    refine wpAny_with_toks (n := s.toks) (by first | exact hT | (dsimp only; omega)) (wpAny_mono (turn i m' news' h₂ _ g _ hlt (by first | exact hT | (dsimp only; omega)) hJ off' F₂ N₂) (fun f s₃ h₃ hk => ?_) fun _ _ e _ => e)
    have fin : (∃ h' tk' g' m' news', s₃ = { s with heap := h', toks := tk', gens := g' } ∧ Fr h₀ env.locals h' m' ∧ News h₀ env.locals h' ((I, itR (a + ((i + 1 : Nat) : Int)) ((n : Int) - ((i + 1 : Nat) : Int))) :: news') ∧ (∀ p ∈ news', p.1 ≠ I) ∧ J (i + 1) m' news' g') →
        ∃ m, m < n + 1 - i ∧ ∃ h' tk g m' news' i, s₃ = { s with heap := h', toks := tk, gens := g } ∧ h'.get? I = some (itR (a + ((i : Nat) : Int)) ((n : Int) - ((i : Nat) : Int))) ∧ Fr h₀ env.locals h' m' ∧ News h₀ env.locals h' news' ∧ (∀ p ∈ news', p.1 ≠ I) ∧ J i m' news' g ∧ s.toks ≤ tk ∧ i ≤ n ∧ m = n + 1 - i := by
      rintro ⟨hp₃, tk₃, g₃, m₃, news₃, rfl, F₃, N₃, off₃, hJ₃⟩
      exact ⟨n + 1 - (i + 1), by omega, hp₃, tk₃, g₃, m₃, news₃, i + 1, rfl, (N₃ _ (List.mem_cons_self ..)).1, F₃, fun p hp => N₃ p (List.mem_cons_of_mem _ hp), off₃, hJ₃, hk, hlt, rfl⟩
    cases f with
    | ret v => exact h₃
    | brk => exact h₃
    | next => exact fin h₃
    | cont => exact fin h₃
  · have hin : i = n := by omega
    subst hin
    refine wpAny_pyNext_range_end hh (itR_is hst') (by omega) fun h₁ he => wpAny_execs_nil ?_
    obtain ⟨F₁, N₁⟩ := off_range F' N' hIL hI off' (fun b o hb e => he b o hb e)
    exact done h₁ _ g m' news' (by first | exact hT | (dsimp only; omega)) hJ F₁ N₁
theorem RangePost.nextT {h₀ : Heap} {L : Addr} {s₁ : Shared} {I : Addr} {it : Obj} {Jn : (Str → Option Value) → List (Addr × Obj) → Array GenState → Prop} {Q : Flow → Shared → Prop} {h' : Heap} {tk' : Nat} {g' : Array GenState} {m' : Str → Option Value} {all : List (Addr × Obj)}
   (news' : List (Addr × Obj)) (F : Fr h₀ L h' m') (N : News h₀ L h' all) (hI : (I, it) ∈ all) (hs : ∀ p ∈ news', p ∈ all) (hc : ∀ p ∈ news', p.2.cls ≠ it.cls ∨ p.1 ≠ I) (hJ : Jn m' news' g') : RangePost h₀ L s₁ I it Jn Q .next { s₁ with heap := h', toks := tk', gens := g' } := by
  refine ⟨h', tk', g', m', news', rfl, F, fun p hp => ?_, fun p hp e => ?_, hJ⟩
  · rcases List.mem_cons.mp hp with rfl | hp
    · exact N _ hI
    · exact N p (hs p hp)
  · rcases hc p hp with hc | hc
    · have h1 := (N p (hs p hp)).1
      have h2 := (N _ hI).1
      rw [e, h2] at h1
      exact hc (congrArg Obj.cls (Option.some.inj h1)).symm
    · exact hc e
inductive RangeStartT (prog : Program) (w : World) (A : Around) (E : Value → Shared → Prop) (h₀ : Heap) (env : Env) (x : Str) (body : List Stmt) (Q : Flow → Shared → Prop) (xv : Value) (s₁ : Shared) : Prop
  | mk (r : Addr) (a b : Int) (n : Nat) (t u v : Tok) (m : Str → Option Value) (news : List (Addr × Obj)) (J : Nat → (Str → Option Value) → List (Addr × Obj) → Array GenState → Prop) (c1 : xv = .ref r)
     (c2 : A.handled = none)
     (c3 : IsRange s₁.heap r a b 1 t u v)
     (c4 : Builtin.Range.small a b 1 = true)
     (c5 : Builtin.Range.rangeSize a b 1 = (n : Int))
     (c6 : Fr h₀ env.locals s₁.heap m)
     (c7 : News h₀ env.locals s₁.heap news)
     (c8 : J 0 m news s₁.gens)
     (c9 : (∀ (I : Addr) (i : Nat) m news h tk g t, i < n → s₁.toks ≤ tk → J i m news g → (∀ p ∈ news, p.1 ≠ I) → Fr h₀ env.locals h (fun y => if y = x then some (.int (a + (i : Int)) t) else m y) → News h₀ env.locals h ((I, itR (a + ((i + 1 : Nat) : Int)) ((n : Int) - ((i + 1 : Nat) : Int))) :: news) → wpAny (model prog w) A (execs body env) (RangePost h₀ env.locals s₁ I (itR (a + ((i + 1 : Nat) : Int)) ((n : Int) - ((i + 1 : Nat) : Int))) (J (i + 1)) Q) E { s₁ with heap := h, toks := tk, gens := g }))
     (c10 : ∀ h tk g m news, s₁.toks ≤ tk → J n m news g → Fr h₀ env.locals h m → News h₀ env.locals h news → Q .next { s₁ with heap := h, toks := tk, gens := g }) : RangeStartT prog w A E h₀ env x body Q xv s₁
/-- the same, as the statement: the range has just been made -/
theorem for_rangeT {E : Value → Shared → Prop} {Q : Flow → Shared → Prop} {x : Str} {px pos : Pos} {iter : Expr} {body : List Stmt} {s : Shared} {m₀ : Str → Option Value} (_F : Fr h₀ env.locals s.heap m₀)
    (hx : env.kindOf x = some .local) (hp : (env.scope.kind == .class || (env.scope.kind == .module && env.locals != env.globals)) = false)
    (hs : ∀ x, foldedSetIterable iter env x = pure x)
    (h : wpAny (model prog w) A (eval iter env) (RangeStartT prog w A E h₀ env x body Q) E s)
    (hE : PassesOwn (model prog w) A env E) :
    wpAny (model prog w) A (exec (.For (.Name x px) iter body [] pos) env) Q E s := by
  refine wpAny_For (wpAny_mono h (fun xv s₁ h₁ => ?_) fun _ _ e => e) hs
  obtain ⟨r, a, b, n, t, u, v, m, news, J, rfl, hh, hr, hsmall, hn, F, N, h0, turn, done⟩ := h₁
  refine wpAny_pyIter_range hr hsmall ?_
  refine range_loopT (R := fun r s' => match r with | .ok f => Q f s' | .error e => cameBackBy (model prog w) A env E e s') (a := a) (n := n) hh hx hp (next_is_new F) (Ne.symm (Nat.ne_of_lt F.ns.lt)) (fun p hp => Nat.ne_of_lt (Heap.lt_size (N p hp).1)) ?_ (F.push _) (fun p hp => ⟨Heap.get?_push_of_some _ (N p hp).1, (N p hp).2⟩) J h0 ?_ ?_
  · rw [hn]; exact Heap.get?_push_size _ rfl
  · intro i m' news' h' tk g t' hi hT hJ off F' N'
    refine wpAny_passesOwn hE (wpAny_mono (turn s₁.heap.objs.size i m' news' h' tk g t' hi hT hJ off F' N') (fun f s₂ h₂ => ?_) fun _ _ e => e)
    cases f <;> exact h₂
  · intro h' tk g m' news' hT hJ F' N'
    exact done h' tk g m' news' hT hJ F' N'
end
end Mine

end
-- LoopJ
section
open PySem PySem.W PyProof.Rows PySem.Calls PySem.Spec PyProof.V PySem.SeqAt
set_option maxRecDepth 100000
set_option maxHeartbeats 8000000
namespace Mine
theorem fresh_LoopJ : True := by
  w_top off
  k_with_none
  k_with "omega" => lia
  trivial
def frIn (bs : List Int) (A : Nat) (fr : Bool) : Nat → Bool
  | 0 => fr
  | i + 1 => frIn bs A fr i || fairB bs A (1 + (i : Int)).toNat
def frOut (bs : List Int) : Nat → Bool
  | 0 => false
  | a + 1 => frIn bs (0 + (a : Int)).toNat (frOut bs a) 5
def fIn (bs : List Int) (A : Nat) (f : Nat → Bool) : Nat → Nat → Bool
  | 0, k => f k
  | i + 1, k => if (1 + (i : Int)) = 5 then halfF bs A (1 + (i : Int)).toNat (fIn bs A f i) k else fIn bs A f i k
def fOut (bs : List Int) : Nat → Nat → Bool
  | 0, _ => false
  | a + 1, k => fIn bs (0 + (a : Int)).toNat (fOut bs a) 5 k
theorem turn_end {w : World} {L fa : Addr} {cd : Value} {Q : Flow → Shared → Prop} {E : Value → Shared → Prop} {s : Shared} (h : Q .next s) : TurnGo 11 w L fa cd Q E s := by
  have e : turnBody.drop 11 = [] := by unfold turnBody aBody lawRec recOf; rfl
  unfold TurnGo
  rw [e]
  exact wpAny_execs_nil h
/-- what stands at the head of each turn -/
inductive LoopJ (L D b9 aw ac : Addr) (ys ws : List Value) (bs : List Int) (nb n2 nk : Nat) (z1 z2 z3 : Tok) (H2 S2 : UInt64) (u3 u4 : Tok) (v2 : Value) (o1 o2 : Obj) (xs : List (Addr × Obj)) (fr : Nat → Bool) (f : Nat → Nat → Bool) (more : (Str → Option Value) → Prop) (i : Nat) (m : Str → Option Value) (news : List (Addr × Obj)) (g : Array GenState) : Prop
  | mk (ah : Addr) (n1 : Nat) (o4 o5 o6 o7 o8 : Obj) (v5 v6 v7 v8 : Option Value) (c1 : news = (ah, listOf (List.toArray [.bool (f i 0), .bool (f i 1), .bool (f i 2)]) n1) :: (L + 1 + 1 + 1 + 1, o4) :: (L + 1 + 1 + 1 + 1 + 1, o5) :: (L + 1 + 1 + 1 + 1 + 1 + 1, o6) :: (L + 1 + 1 + 1 + 1 + 1 + 1 + 1, o7) :: (L + 1 + 1 + 1 + 1 + 1 + 1 + 1 + 1, o8) :: (L + 1, o1) :: (L + 1 + 1, o2) :: (D, LCg.lst ys) :: (b9, listOf ws.toArray nb) :: (aw, listOf (List.toArray [.int ((bs.count 0 : Nat) : Int) z1, .int ((bs.count 1 : Nat) : Int) z2, .int ((bs.count 2 : Nat) : Int) z3]) n2) :: (ac, tupOf #[.float H2 u3, .float S2 u4, v2] nk) :: xs)
     (c2 : leftWithCleanup g = false)
     (c3 : o4.data = .cell (some (.ref ah)))
     (c4 : o5.data = .cell v5)
     (c5 : o6.data = .cell v6)
     (c6 : o7.data = .cell v7)
     (c7 : o8.data = .cell v8)
     (c8 : m (Str.ofString "rows") = some (.ref D))
     (c9 : m (Str.ofString "colour") = some (.ref ac))
     (c10 : m (Str.ofString "fair") = some (.bool (fr i)))
     (c11 : more m) : LoopJ L D b9 aw ac ys ws bs nb n2 nk z1 z2 z3 H2 S2 u3 u4 v2 o1 o2 xs fr f more i m news g
/-- the turn of the loop over d, from what stands at its head -/
theorem turn_J (w : World) (mean : ExcName → Option Value) (mg mb : Str → Option Value) (h₀ base : Heap) (Z : Here w mean mg mb h₀ base) (fa : Addr) (cd : Value) (L D b9 aw ac : Addr) (ys ws : List Value) (bs : List Int) (nb n2 nk : Nat) (z1 z2 z3 : Tok) (H2 S2 : UInt64) (u3 u4 : Tok) (v2 : Value) (o1 o2 : Obj)
   (hI : IntsAre ws bs) (hB : BeadsOk 5 bs) (hx : StrsAre ys ((rowsOf bs).map rowS)) (eH : H2 = rgbH ((bs.count 0 : Nat) : Int) ((bs.count 1 : Nat) : Int) ((bs.count 2 : Nat) : Int)) (eS : S2 = rgbS ((bs.count 0 : Nat) : Int) ((bs.count 1 : Nat) : Int) ((bs.count 2 : Nat) : Int))
   (y3 : u3 ≠ 0) (y4 : u4 ≠ 0) (d1 : o1.data = .cell (some (.ref b9))) (d2 : o2.data = .cell (some (.ref aw))) (xs : List (Addr × Obj)) (hxs : ∀ p ∈ xs, ∀ v, p.2.data ≠ .cell v) (fr : Bool) (f : Nat → Bool) (ia i : Nat) (hia : ia < 5) (hi : i < 5) (ta td : Tok) (s : Shared) (m : Str → Option Value) (news : List (Addr × Obj)) (I : Addr) (it : Obj) (hit : it.cls = .type "range_iterator") (hoff : ∀ p ∈ news, p.1 ≠ I) (hic : ∀ v, it.data ≠ .cell v)
   (y3' : u3 < s.toks) (y4' : u4 < s.toks) (hJ : LoopJ L D b9 aw ac ys ws bs nb n2 nk z1 z2 z3 H2 S2 u3 u4 v2 o1 o2 xs (frIn bs (0 + (ia : Int)).toNat fr) (fIn bs (0 + (ia : Int)).toNat f) (fun m => m (Str.ofString "a") = some (.int (0 + (ia : Int)) ta)) i m news s.gens)
   (F : Fr h₀ L s.heap (fun y => if y = Str.ofString "d" then some (.int (1 + (i : Int)) td) else m y)) (N : News h₀ L s.heap ((I, it) :: news)) (s₁ : Shared) (hs₁ : ∃ h tk g, s = { s₁ with heap := h, toks := tk, gens := g }) (Q : Flow → Shared → Prop) (E : Value → Shared → Prop) :
   TurnGo 0 w L fa cd (RangePost h₀ L s₁ I it (LoopJ L D b9 aw ac ys ws bs nb n2 nk z1 z2 z3 H2 S2 u3 u4 v2 o1 o2 xs (frIn bs (0 + (ia : Int)).toNat fr) (fIn bs (0 + (ia : Int)).toNat f) (fun m => m (Str.ofString "a") = some (.int (0 + (ia : Int)) ta)) (i + 1)) Q) E s := by
  obtain ⟨ah, n1, o4, o5, o6, o7, o8, v5, v6, v7, v8, rfl, hg, d4, d5, d6, d7, d8, m_rows, m_colour, m_fair, m_a⟩ := hJ
  refine turn_all w mean mg mb h₀ base Z fa cd L ah D b9 aw ac _ _ ys ws bs n1 nb n2 nk z1 z2 z3 H2 S2 u3 u4 v2 o1 o2 o4 o5 o6 o7 o8 v5 v6 v7 v8 ((I, it) :: xs) (List.forall_mem_cons.mpr ⟨hic, hxs⟩) hI hB hx eH eS (0 + (ia : Int)) (1 + (i : Int)) ta td (by omega) (by omega) (by omega) (by omega) s _ y3 y4 y3' y4' d1 d2 d4 d5 d6 d7 d8 hg ((if_neg (by decide)).trans m_rows) ((if_neg (by decide)).trans m_colour) ((if_neg (by decide)).trans m_fair) ((if_neg (by decide)).trans m_a) (if_pos rfl) F (newsC (N _ (.tail _ (.head _))) (newsC (N _ (.tail _ (.tail _ (.head _)))) (newsC (N _ (.tail _ (.tail _ (.tail _ (.head _))))) (newsC (N _ (.tail _ (.tail _ (.tail _ (.tail _ (.head _)))))) (newsC (N _ (.tail _ (.tail _ (.tail _ (.tail _ (.tail _ (.head _))))))) (newsC (N _ (.tail _ (.tail _ (.tail _ (.tail _ (.tail _ (.tail _ (.head _)))))))) (newsC (N _ (.tail _ (.tail _ (.tail _ (.tail _ (.tail _ (.tail _ (.tail _ (.head _))))))))) (newsC (N _ (.tail _ (.tail _ (.tail _ (.tail _ (.tail _ (.tail _ (.tail _ (.tail _ (.head _)))))))))) (newsC (N _ (.tail _ (.tail _ (.tail _ (.tail _ (.tail _ (.tail _ (.tail _ (.tail _ (.tail _ (.head _))))))))))) (newsC (N _ (.tail _ (.tail _ (.tail _ (.tail _ (.tail _ (.tail _ (.tail _ (.tail _ (.tail _ (.tail _ (.head _)))))))))))) (newsC (N _ (.tail _ (.tail _ (.tail _ (.tail _ (.tail _ (.tail _ (.tail _ (.tail _ (.tail _ (.tail _ (.tail _ (.head _))))))))))))) (newsC (N _ (.tail _ (.tail _ (.tail _ (.tail _ (.tail _ (.tail _ (.tail _ (.tail _ (.tail _ (.tail _ (.tail _ (.tail _ (.head _)))))))))))))) (newsC (N _ (.head _)) (fun p hp => N p (.tail _ (.tail _ (.tail _ (.tail _ (.tail _ (.tail _ (.tail _ (.tail _ (.tail _ (.tail _ (.tail _ (.tail _ (.tail _ hp))))))))))))))))))))))))))) _ E ?_
  intro ah' n' o4' o5' o6' o7' o8' v5' v6' v7' v8' h' tk g m' G d4' d5' d6' d7' d8' r1 r2 r3 r4 F' N'
  refine turn_end ?_
  obtain ⟨h9, tk9, g9, rfl⟩ := hs₁
  refine RangePost.nextT ((ah', listOf (List.toArray [.bool (if (1 + (i : Int)) = 5 then halfF bs (0 + (ia : Int)).toNat (1 + (i : Int)).toNat (fIn bs (0 + (ia : Int)).toNat f i) 0 else fIn bs (0 + (ia : Int)).toNat f i 0), .bool (if (1 + (i : Int)) = 5 then halfF bs (0 + (ia : Int)).toNat (1 + (i : Int)).toNat (fIn bs (0 + (ia : Int)).toNat f i) 1 else fIn bs (0 + (ia : Int)).toNat f i 1), .bool (if (1 + (i : Int)) = 5 then halfF bs (0 + (ia : Int)).toNat (1 + (i : Int)).toNat (fIn bs (0 + (ia : Int)).toNat f i) 2 else fIn bs (0 + (ia : Int)).toNat f i 2)]) n') :: (L + 1 + 1 + 1 + 1, o4') :: (L + 1 + 1 + 1 + 1 + 1, o5') :: (L + 1 + 1 + 1 + 1 + 1 + 1, o6') :: (L + 1 + 1 + 1 + 1 + 1 + 1 + 1, o7') :: (L + 1 + 1 + 1 + 1 + 1 + 1 + 1 + 1, o8') :: (L + 1, o1) :: (L + 1 + 1, o2) :: (D, LCg.lst ys) :: (b9, listOf ws.toArray nb) :: (aw, listOf (List.toArray [.int ((bs.count 0 : Nat) : Int) z1, .int ((bs.count 1 : Nat) : Int) z2, .int ((bs.count 2 : Nat) : Int) z3]) n2) :: (ac, tupOf #[.float H2 u3, .float S2 u4, v2] nk) :: xs) F' N' (.tail _ (.tail _ (.tail _ (.tail _ (.tail _ (.tail _ (.tail _ (.tail _ (.tail _ (.tail _ (.tail _ (.tail _ (.head _))))))))))))) (fun p hp => by
    rcases List.mem_cons.mp hp with e | hp
    · rw [e]; exact .head _
    rcases List.mem_cons.mp hp with e | hp
    · rw [e]; exact .tail _ (.head _)
    rcases List.mem_cons.mp hp with e | hp
    · rw [e]; exact .tail _ (.tail _ (.head _))
    rcases List.mem_cons.mp hp with e | hp
    · rw [e]; exact .tail _ (.tail _ (.tail _ (.head _)))
    rcases List.mem_cons.mp hp with e | hp
    · rw [e]; exact .tail _ (.tail _ (.tail _ (.tail _ (.head _))))
    rcases List.mem_cons.mp hp with e | hp
    · rw [e]; exact .tail _ (.tail _ (.tail _ (.tail _ (.tail _ (.head _)))))
    rcases List.mem_cons.mp hp with e | hp
    · rw [e]; exact .tail _ (.tail _ (.tail _ (.tail _ (.tail _ (.tail _ (.head _))))))
    rcases List.mem_cons.mp hp with e | hp
    · rw [e]; exact .tail _ (.tail _ (.tail _ (.tail _ (.tail _ (.tail _ (.tail _ (.head _)))))))
    rcases List.mem_cons.mp hp with e | hp
    · rw [e]; exact .tail _ (.tail _ (.tail _ (.tail _ (.tail _ (.tail _ (.tail _ (.tail _ (.head _))))))))
    rcases List.mem_cons.mp hp with e | hp
    · rw [e]; exact .tail _ (.tail _ (.tail _ (.tail _ (.tail _ (.tail _ (.tail _ (.tail _ (.tail _ (.head _)))))))))
    rcases List.mem_cons.mp hp with e | hp
    · rw [e]; exact .tail _ (.tail _ (.tail _ (.tail _ (.tail _ (.tail _ (.tail _ (.tail _ (.tail _ (.tail _ (.head _))))))))))
    rcases List.mem_cons.mp hp with e | hp
    · rw [e]; exact .tail _ (.tail _ (.tail _ (.tail _ (.tail _ (.tail _ (.tail _ (.tail _ (.tail _ (.tail _ (.tail _ (.head _)))))))))))
    exact (.tail _ (.tail _ (.tail _ (.tail _ (.tail _ (.tail _ (.tail _ (.tail _ (.tail _ (.tail _ (.tail _ (.tail _ (.tail _ hp)))))))))))))) (fun p hp => by
    rcases List.mem_cons.mp hp with e | hp
    · exact .inl (by rw [e, hit]; intro e; exact absurd (Value.type.inj e) (by decide))
    rcases List.mem_cons.mp hp with e | hp
    · exact .inr (by rw [e]; exact hoff (L + 1 + 1 + 1 + 1, o4) (.tail _ (.head _)))
    rcases List.mem_cons.mp hp with e | hp
    · exact .inr (by rw [e]; exact hoff (L + 1 + 1 + 1 + 1 + 1, o5) (.tail _ (.tail _ (.head _))))
    rcases List.mem_cons.mp hp with e | hp
    · exact .inr (by rw [e]; exact hoff (L + 1 + 1 + 1 + 1 + 1 + 1, o6) (.tail _ (.tail _ (.tail _ (.head _)))))
    rcases List.mem_cons.mp hp with e | hp
    · exact .inr (by rw [e]; exact hoff (L + 1 + 1 + 1 + 1 + 1 + 1 + 1, o7) (.tail _ (.tail _ (.tail _ (.tail _ (.head _))))))
    rcases List.mem_cons.mp hp with e | hp
    · exact .inr (by rw [e]; exact hoff (L + 1 + 1 + 1 + 1 + 1 + 1 + 1 + 1, o8) (.tail _ (.tail _ (.tail _ (.tail _ (.tail _ (.head _)))))))
    rcases List.mem_cons.mp hp with e | hp
    · exact .inr (by rw [e]; exact hoff (L + 1, o1) (.tail _ (.tail _ (.tail _ (.tail _ (.tail _ (.tail _ (.head _))))))))
    rcases List.mem_cons.mp hp with e | hp
    · exact .inr (by rw [e]; exact hoff (L + 1 + 1, o2) (.tail _ (.tail _ (.tail _ (.tail _ (.tail _ (.tail _ (.tail _ (.head _)))))))))
    rcases List.mem_cons.mp hp with e | hp
    · exact .inr (by rw [e]; exact hoff _ (.tail _ (.tail _ (.tail _ (.tail _ (.tail _ (.tail _ (.tail _ (.tail _ (.head _))))))))))
    rcases List.mem_cons.mp hp with e | hp
    · exact .inr (by rw [e]; exact hoff _ (.tail _ (.tail _ (.tail _ (.tail _ (.tail _ (.tail _ (.tail _ (.tail _ (.tail _ (.head _)))))))))))
    rcases List.mem_cons.mp hp with e | hp
    · exact .inr (by rw [e]; exact hoff _ (.tail _ (.tail _ (.tail _ (.tail _ (.tail _ (.tail _ (.tail _ (.tail _ (.tail _ (.tail _ (.head _))))))))))))
    rcases List.mem_cons.mp hp with e | hp
    · exact .inr (by rw [e]; exact hoff _ (.tail _ (.tail _ (.tail _ (.tail _ (.tail _ (.tail _ (.tail _ (.tail _ (.tail _ (.tail _ (.tail _ (.head _)))))))))))))
    exact .inr (hoff _ (.tail _ (.tail _ (.tail _ (.tail _ (.tail _ (.tail _ (.tail _ (.tail _ (.tail _ (.tail _ (.tail _ (.tail _ hp)))))))))))))) ⟨ah', n', o4', o5', o6', o7', o8', v5', v6', v7', v8', rfl, G, d4', d5', d6', d7', d8', r1, r2, r3, r4⟩
end Mine

end
-- L31
section
open PySem PySem.W PyProof.Rows PySem.Calls
set_option maxRecDepth 100000
set_option maxHeartbeats 8000000
namespace Mine
theorem fresh_L31 : True := by
  w_top off
  k_with_none
  k_with "omega" => lia
  trivial
theorem rows_L31_1 : True := by
  k_with "call ref" => (k_here; (with_reducible show wpAny _ _ (call (Value.ref 76) [Value.ref _]) _ _ _); k_dflt (refine' claim_use (c_neck _ _ _ _ _ _ _ ?hi ?hn) ?k1 ?k2 ?k3 ?k4 ?k5 ?kK ?kp ?kd ?ku ?_; (case hi => assumption); (case hn => assumption); (case k1 => k_asm); (case k2 => k_asm); (case k3 => k_asm); (case k4 => k_asm); (case k5 => k_asm); (case kK => first | exact rfl | assumption); (case kp => is_list); (case kd => ktr_room); (case ku => ktr_units); intro r9 tl9 h9 tk9 g9 F9 N9 K9 l9 G9 R9; obtain ⟨a9, ws9, bs9, n9, e9, e9', i9, b9⟩ := R9; subst e9; subst e9'; clear l9 K9; simp only [List.cons_append, List.nil_append] at N9; (try dsimp only)))
  k_with "CompEnd" => (k_dflt (refine' LCg.CompEnd.intro ?F ?N _ ?sub ?off ?src (And.intro rfl ?J); (case F => k_asm); (case N => k_asm); (case sub => lcg_sub); (case off => assumption); (case src => lcg_src); (case J => first | exact rows_snoc _ (by assumption) (by assumption) (by first | exact row_red _ | exact row_green _ | exact row_blue _) | exact sent_snoc _ (by assumption) (by assumption) (by first | exact sent_red _ | exact sent_green _ | exact sent_blue _) | exact count_snoc (by assumption) rfl)))
  k_with "subscriptTail Name Name ref int" => (k_here; (with_reducible show wpAny _ _ (subscriptTail _ _ (Value.ref _) (Value.int _ _)) _ _ _); k_dflt (refine' item_bead ?l ?i ?B ?n ?_ ?s ?g; (case l => is_list); (case i => assumption); (case B => assumption); (case n => assumption); (case s => with_unfolding_all rfl); (case g => (intro _; with_unfolding_all rfl)); intro b8 t8 e8 c8; (rcases c8 with c8 | c8 | c8 <;> subst c8)))
  k_with "subscriptTail List Subscript ref int" => (k_here; (with_reducible show wpAny _ _ (subscriptTail _ _ (Value.ref _) (Value.int _ _)) _ _ _); k_dflt (refine' item_new ?k1 ?k2 ?k3 ?k4 ?k5 ?_ ?k6 ?k7; (case k1 => k_asm); (case k2 => k_mem); (case k3 => decide); (case k4 => decide); (case k5 => exact rfl); (case k6 => with_unfolding_all rfl); (case k7 => (intro _; with_unfolding_all rfl))))
  k_with "subscriptTail List Name ref int" => (k_here; (with_reducible show wpAny _ _ (subscriptTail _ _ (Value.ref _) (Value.int _ _)) _ _ _); k_dflt (refine' item_new ?k1 ?k2 ?k3 ?k4 ?k5 ?_ ?k6 ?k7; (case k1 => k_asm); (case k2 => k_mem); (case k3 => decide); (case k4 => decide); (case k5 => exact rfl); (case k6 => with_unfolding_all rfl); (case k7 => (intro _; with_unfolding_all rfl))))
  k_with "call builtin:str.join" => (k_here; (with_reducible show wpAny _ _ (call (Value.builtin "str.join") [Value.str _ _, Value.ref _]) _ _ _); k_dflt (refine' join_rows ?e ?l ?i ?n ?_; (case e => with_unfolding_all rfl); (case l => is_list); (case i => assumption); (case n => first | exact Nat.le_trans (rows_flat (by assumption)) (by decide) | exact Nat.le_trans (sent_flat (by assumption)) (by decide)); intro t6 k6; (try dsimp only)))
  k_with "storeName" => (k_here; k_dflt (refine' store_cell ?c ?m ?d ?U ?F ?N ?_ ?a ?b; (case a => rfl); (case b => rfl); (case c => rfl); (case F => k_asm); (case N => k_asm); (case m => k_mem); (case d => k_asm); (case U => (first | (refine UpdN.head ?_; (repeat (first | exact List.forall_mem_nil _ | (refine List.forall_mem_cons.mpr ⟨Or.inr (by (try dsimp only); omega), ?_⟩)))) | (refine' UpdN.tail ?q ?b3; (case q => first | (exact Or.inl (by intro v e; cases e)) | (exact Or.inr (by (try dsimp only); omega))); (case b3 => (first | (refine UpdN.head ?_; (repeat (first | exact List.forall_mem_nil _ | (refine List.forall_mem_cons.mpr ⟨Or.inr (by (try dsimp only); omega), ?_⟩)))) | (refine' UpdN.tail ?q ?b3; (case q => first | (exact Or.inl (by intro v e; cases e)) | (exact Or.inr (by (try dsimp only); omega))); (case b3 => (first | (refine UpdN.head ?_; (repeat (first | exact List.forall_mem_nil _ | (refine List.forall_mem_cons.mpr ⟨Or.inr (by (try dsimp only); omega), ?_⟩)))) | (refine' UpdN.tail ?q ?b3; (case q => first | (exact Or.inl (by intro v e; cases e)) | (exact Or.inr (by (try dsimp only); omega))); (case b3 => (first | (refine UpdN.head ?_; (repeat (first | exact List.forall_mem_nil _ | (refine List.forall_mem_cons.mpr ⟨Or.inr (by (try dsimp only); omega), ?_⟩)))) | (refine' UpdN.tail ?q ?b3; (case q => first | (exact Or.inl (by intro v e; cases e)) | (exact Or.inr (by (try dsimp only); omega))); (case b3 => (first | (refine UpdN.head ?_; (repeat (first | exact List.forall_mem_nil _ | (refine List.forall_mem_cons.mpr ⟨Or.inr (by (try dsimp only); omega), ?_⟩)))) | (refine' UpdN.tail ?q ?b3; (case q => first | (exact Or.inl (by intro v e; cases e)) | (exact Or.inr (by (try dsimp only); omega))); (case b3 => (first | (refine UpdN.head ?_; (repeat (first | exact List.forall_mem_nil _ | (refine List.forall_mem_cons.mpr ⟨Or.inr (by (try dsimp only); omega), ?_⟩)))) | (refine' UpdN.tail ?q ?b3; (case q => first | (exact Or.inl (by intro v e; cases e)) | (exact Or.inr (by (try dsimp only); omega))); (case b3 => (first | (refine UpdN.head ?_; (repeat (first | exact List.forall_mem_nil _ | (refine List.forall_mem_cons.mpr ⟨Or.inr (by (try dsimp only); omega), ?_⟩)))) | (refine' UpdN.tail ?q ?b3; (case q => first | (exact Or.inl (by intro v e; cases e)) | (exact Or.inr (by (try dsimp only); omega))); (case b3 => (first | (refine UpdN.head ?_; (repeat (first | exact List.forall_mem_nil _ | (refine List.forall_mem_cons.mpr ⟨Or.inr (by (try dsimp only); omega), ?_⟩)))) | (refine' UpdN.tail ?q ?b3; (case q => first | (exact Or.inl (by intro v e; cases e)) | (exact Or.inr (by (try dsimp only); omega))); (case b3 => (first | (refine UpdN.head ?_; (repeat (first | exact List.forall_mem_nil _ | (refine List.forall_mem_cons.mpr ⟨Or.inr (by (try dsimp only); omega), ?_⟩)))) | (refine' UpdN.tail ?q ?b3; (case q => first | (exact Or.inl (by intro v e; cases e)) | (exact Or.inr (by (try dsimp only); omega))); (case b3 => (first | (refine UpdN.head ?_; (repeat (first | exact List.forall_mem_nil _ | (refine List.forall_mem_cons.mpr ⟨Or.inr (by (try dsimp only); omega), ?_⟩)))) | (refine' UpdN.tail ?q ?b3; (case q => first | (exact Or.inl (by intro v e; cases e)) | (exact Or.inr (by (try dsimp only); omega))); (case b3 => (first | (refine UpdN.head ?_; (repeat (first | exact List.forall_mem_nil _ | (refine List.forall_mem_cons.mpr ⟨Or.inr (by (try dsimp only); omega), ?_⟩)))) | (refine' UpdN.tail ?q ?b3; (case q => first | (exact Or.inl (by intro v e; cases e)) | (exact Or.inr (by (try dsimp only); omega))); (case b3 => (first | (refine UpdN.head ?_; (repeat (first | exact List.forall_mem_nil _ | (refine List.forall_mem_cons.mpr ⟨Or.inr (by (try dsimp only); omega), ?_⟩)))) | (refine' UpdN.tail ?q ?b3; (case q => first | (exact Or.inl (by intro v e; cases e)) | (exact Or.inr (by (try dsimp only); omega))); (case b3 => (first | (refine UpdN.head ?_; (repeat (first | exact List.forall_mem_nil _ | (refine List.forall_mem_cons.mpr ⟨Or.inr (by (try dsimp only); omega), ?_⟩)))) | (refine' UpdN.tail ?q ?b3; (case q => first | (exact Or.inl (by intro v e; cases e)) | (exact Or.inr (by (try dsimp only); omega))); (case b3 => (first | (refine UpdN.head ?_; (repeat (first | exact List.forall_mem_nil _ | (refine List.forall_mem_cons.mpr ⟨Or.inr (by (try dsimp only); omega), ?_⟩)))) | (refine' UpdN.tail ?q ?b3; (case q => first | (exact Or.inl (by intro v e; cases e)) | (exact Or.inr (by (try dsimp only); omega))); (case b3 => (first | (refine UpdN.head ?_; (repeat (first | exact List.forall_mem_nil _ | (refine List.forall_mem_cons.mpr ⟨Or.inr (by (try dsimp only); omega), ?_⟩)))) | (refine' UpdN.tail ?q ?b3; (case q => first | (exact Or.inl (by intro v e; cases e)) | (exact Or.inr (by (try dsimp only); omega))); (case b3 => (first | (refine UpdN.head ?_; (repeat (first | exact List.forall_mem_nil _ | (refine List.forall_mem_cons.mpr ⟨Or.inr (by (try dsimp only); omega), ?_⟩)))) | (refine' UpdN.tail ?q ?b3; (case q => first | (exact Or.inl (by intro v e; cases e)) | (exact Or.inr (by (try dsimp only); omega))); (case b3 => (refine UpdN.head ?_; (repeat (first | exact List.forall_mem_nil _ | (refine List.forall_mem_cons.mpr ⟨Or.inr (by (try dsimp only); omega), ?_⟩))))))))))))))))))))))))))))))))))))))))))))))))))))); k_whole; intro h' o' F' N' d'; (try dsimp only at N'); (try k_sweep)))
  k_with "eval ListComp" => (k_here; refine stopHere ?_)
  k_with "exec Assign cons ListComp" => (k_here; (with_reducible show wpAny _ _ (exec (Stmt.Assign [Expr.Name (Str.ofString "rows") _] _ _) _) _ _ _); refine stopHere ?_)
  k_with "exec Assign cons ListComp" => (k_here; (with_reducible show wpAny _ _ (exec (Stmt.Assign [Expr.Name (Str.ofString "twice") _] _ _) _) _ _ _); refine stopHere ?_)
  k_with "CompSrc" => (k_here; refine stopHere ?_)
  trivial
theorem RangePost.nextD {h₀ : Heap} {L : Addr} {s₁ : Shared} {I : Addr} {it : Obj} {Jn : (Str → Option Value) → List (Addr × Obj) → Array GenState → Prop} {Q : Flow → Shared → Prop} {h' : Heap} {tk' : Nat} {g' : Array GenState} {m' : Str → Option Value} {all : List (Addr × Obj)}
   (news' : List (Addr × Obj)) (F : Fr h₀ L h' m') (N : News h₀ L h' all) (hI : (I, it) ∈ all) (hs : ∀ p ∈ news', p ∈ all) (hc : ∀ p ∈ news', p.2 ≠ it) (hJ : Jn m' news' g') : RangePost h₀ L s₁ I it Jn Q .next { s₁ with heap := h', toks := tk', gens := g' } := by
  refine ⟨h', tk', g', m', news', rfl, F, fun p hp => ?_, fun p hp e => ?_, hJ⟩
  · rcases List.mem_cons.mp hp with rfl | hp
    · exact N _ hI
    · exact N p (hs p hp)
  · have h1 := (N p (hs p hp)).1
    have h2 := (N _ hI).1
    rw [e, h2] at h1
    exact hc p hp (Option.some.inj h1).symm
theorem law_loops (w : World) (mean : ExcName → Option Value) (mg mb : Str → Option Value) (h₀ base : Heap) (Z : Here w mean mg mb h₀ base) (fa : Addr) (cd : Value) (L D b9 aw ac : Addr) (ys ws : List Value) (bs : List Int) (nb n2 nk : Nat) (z1 z2 z3 : Tok) (H2 S2 : UInt64) (u3 u4 : Tok) (v2 : Value) (o1 o2 : Obj)
   (hI : IntsAre ws bs) (hB : BeadsOk 5 bs) (hx : StrsAre ys ((rowsOf bs).map rowS)) (eH : H2 = rgbH ((bs.count 0 : Nat) : Int) ((bs.count 1 : Nat) : Int) ((bs.count 2 : Nat) : Int)) (eS : S2 = rgbS ((bs.count 0 : Nat) : Int) ((bs.count 1 : Nat) : Int) ((bs.count 2 : Nat) : Int))
   (y3 : u3 ≠ 0) (y4 : u4 ≠ 0) (d1 : o1.data = .cell (some (.ref b9))) (d2 : o2.data = .cell (some (.ref aw)))
   (ah : Addr) (n1 : Nat) (o4 o5 o6 o7 o8 : Obj) (v5 v6 v7 v8 : Option Value) (s : Shared) (m : Str → Option Value) (y3' : u3 < s.toks) (y4' : u4 < s.toks) (hg : leftWithCleanup s.gens = false)
   (d4 : o4.data = .cell (some (.ref ah))) (d5 : o5.data = .cell v5) (d6 : o6.data = .cell v6) (d7 : o7.data = .cell v7) (d8 : o8.data = .cell v8)
   (m_rows : m (Str.ofString "rows") = some (.ref D)) (m_colour : m (Str.ofString "colour") = some (.ref ac)) (m_fair : m (Str.ofString "fair") = some (.bool false))
   (F : Fr h₀ L s.heap m) (N : News h₀ L s.heap ((ah, listOf (List.toArray [.bool false, .bool false, .bool false]) n1) :: (L + 1 + 1 + 1 + 1, o4) :: (L + 1 + 1 + 1 + 1 + 1, o5) :: (L + 1 + 1 + 1 + 1 + 1 + 1, o6) :: (L + 1 + 1 + 1 + 1 + 1 + 1 + 1, o7) :: (L + 1 + 1 + 1 + 1 + 1 + 1 + 1 + 1, o8) :: (L + 1, o1) :: (L + 1 + 1, o2) :: (D, LCg.lst ys) :: (b9, listOf ws.toArray nb) :: (aw, listOf (List.toArray [.int ((bs.count 0 : Nat) : Int) z1, .int ((bs.count 1 : Nat) : Int) z2, .int ((bs.count 2 : Nat) : Int) z3]) n2) :: (ac, tupOf #[.float H2 u3, .float S2 u4, v2] nk) :: [])) (Q : Flow → Shared → Prop) (E : Value → Shared → Prop)
   (hE : PassesOwn (model PySem.Challenge.rw_sr0007_01.row.prog w) (callerA.deeper (lawEnv L fa cd)) (lawEnv L fa cd) E)
   (next : ∀ ah' n' o4' h' tk g m', leftWithCleanup g = false → o4'.data = .cell (some (.ref ah')) → m' (Str.ofString "fair") = some (.bool (frOut bs 5)) → Fr h₀ L h' m' →
     News h₀ L h' ((ah', listOf (List.toArray [.bool (fOut bs 5 0), .bool (fOut bs 5 1), .bool (fOut bs 5 2)]) n') :: (L + 1 + 1 + 1 + 1, o4') :: []) → LawGo 12 w L fa cd Q E { s with heap := h', toks := tk, gens := g }) :
   LawGo 11 w L fa cd Q E s := by
  have X := Z.X
  have T := Z.T
  refine law_row (by unfold lawRec recOf; rfl) ?_
  unfold lawEnv lawRec recOf
  dsimp only
  revert X
  k_fill
  intro X
  with_reducible refine' for_rangeT F ?hx ?hp ?hs ?h ?hE
  case hx => with_unfolding_all exact rfl
  case hp => with_unfolding_all exact rfl
  case hs => with_unfolding_all (intro _; rfl)
  case hE => exact hE
  case h =>
  refine wpAny_with_toks (Nat.le_refl _) ?_
  k_steps
  rename_i hk0
  (rename IsRange _ _ _ _ _ _ _ _ => rgX)
  (rename Fr _ _ _ _ => F0)
  (rename News _ _ _ _ => N0)
  refine ⟨_, _, _, 5, _, _, _, _, _, LoopJ L D b9 aw ac ys ws bs nb n2 nk z1 z2 z3 H2 S2 u3 u4 v2 o1 o2 [] (frOut bs) (fOut bs) (fun _ => True), rfl, rfl, rgX, by decide, by rfl, F0, N0, ?_, ?_, ?_⟩
  · exact ⟨ah, n1, o4, o5, o6, o7, o8, v5, v6, v7, v8, rfl, hg, d4, d5, d6, d7, d8, m_rows, m_colour, m_fair, True.intro⟩
  · intro I i m1 news1 h1 tk1 g1 t1 hi1 hT1 hJ1 off1 F1 N1
    clear rgX F0 N0 d4 d5 d6 d7 d8 hg m_rows m_colour m_fair
    obtain ⟨ah, n1, o4, o5, o6, o7, o8, v5, v6, v7, v8, rfl, hg, d4, d5, d6, d7, d8, m_rows, m_colour, m_fair, -⟩ := hJ1
    refine wpAny_execs_cons ?_
    with_reducible refine' for_rangeT F1 ?hx ?hp ?hs ?h ?hE
    case hx => with_unfolding_all exact rfl
    case hp => with_unfolding_all exact rfl
    case hs => with_unfolding_all (intro _; rfl)
    case hE => exact hE
    case h =>
    refine wpAny_with_toks (Nat.le_refl _) ?_
    k_steps
    rename_i hk2
    (rename IsRange _ _ _ _ _ _ _ _ => rgX)
    (rename Fr _ _ _ _ => F1)
    (rename News _ _ _ _ => N1)
    have hs1 : s.toks ≤ tk1 := Nat.le_trans hk0 hT1
    have hs2 := Nat.le_trans hs1 hk2
    refine ⟨_, _, _, 5, _, _, _, _, ((ah, listOf (List.toArray [.bool (fOut bs i 0), .bool (fOut bs i 1), .bool (fOut bs i 2)]) n1) :: (L + 1 + 1 + 1 + 1, o4) :: (L + 1 + 1 + 1 + 1 + 1, o5) :: (L + 1 + 1 + 1 + 1 + 1 + 1, o6) :: (L + 1 + 1 + 1 + 1 + 1 + 1 + 1, o7) :: (L + 1 + 1 + 1 + 1 + 1 + 1 + 1 + 1, o8) :: (L + 1, o1) :: (L + 1 + 1, o2) :: (D, LCg.lst ys) :: (b9, listOf ws.toArray nb) :: (aw, listOf (List.toArray [.int ((bs.count 0 : Nat) : Int) z1, .int ((bs.count 1 : Nat) : Int) z2, .int ((bs.count 2 : Nat) : Int) z3]) n2) :: (ac, tupOf #[.float H2 u3, .float S2 u4, v2] nk) :: (I, itR (0 + ((i + 1 : Nat) : Int)) (((5 : Nat) : Int) - ((i + 1 : Nat) : Int))) :: []), LoopJ L D b9 aw ac ys ws bs nb n2 nk z1 z2 z3 H2 S2 u3 u4 v2 o1 o2 [(I, itR (0 + ((i + 1 : Nat) : Int)) (((5 : Nat) : Int) - ((i + 1 : Nat) : Int)))] (frIn bs (0 + (i : Int)).toNat (frOut bs i)) (fIn bs (0 + (i : Int)).toNat (fOut bs i)) (fun m => m (Str.ofString "a") = some (.int (0 + (i : Int)) t1)), rfl, rfl, rgX, by decide, by rfl, F1, newsC (N1 _ (.tail _ (.head _))) (newsC (N1 _ (.tail _ (.tail _ (.head _)))) (newsC (N1 _ (.tail _ (.tail _ (.tail _ (.head _))))) (newsC (N1 _ (.tail _ (.tail _ (.tail _ (.tail _ (.head _)))))) (newsC (N1 _ (.tail _ (.tail _ (.tail _ (.tail _ (.tail _ (.head _))))))) (newsC (N1 _ (.tail _ (.tail _ (.tail _ (.tail _ (.tail _ (.tail _ (.head _)))))))) (newsC (N1 _ (.tail _ (.tail _ (.tail _ (.tail _ (.tail _ (.tail _ (.tail _ (.head _))))))))) (newsC (N1 _ (.tail _ (.tail _ (.tail _ (.tail _ (.tail _ (.tail _ (.tail _ (.tail _ (.head _)))))))))) (newsC (N1 _ (.tail _ (.tail _ (.tail _ (.tail _ (.tail _ (.tail _ (.tail _ (.tail _ (.tail _ (.head _))))))))))) (newsC (N1 _ (.tail _ (.tail _ (.tail _ (.tail _ (.tail _ (.tail _ (.tail _ (.tail _ (.tail _ (.tail _ (.head _)))))))))))) (newsC (N1 _ (.tail _ (.tail _ (.tail _ (.tail _ (.tail _ (.tail _ (.tail _ (.tail _ (.tail _ (.tail _ (.tail _ (.head _))))))))))))) (newsC (N1 _ (.tail _ (.tail _ (.tail _ (.tail _ (.tail _ (.tail _ (.tail _ (.tail _ (.tail _ (.tail _ (.tail _ (.tail _ (.head _)))))))))))))) (newsC (N1 _ (.head _)) (fun p hp => nomatch hp))))))))))))), ?_, ?_, ?_⟩
    · exact ⟨ah, n1, o4, o5, o6, o7, o8, v5, v6, v7, v8, rfl, hg, d4, d5, d6, d7, d8, (if_neg (by decide)).trans m_rows, (if_neg (by decide)).trans m_colour, (if_neg (by decide)).trans m_fair, if_pos rfl⟩
    · intro I2 i2 m2 news2 h2 tk2 g2 t2 hi2 hT2 hJ2 off2 F2 N2
      have hs3 := Nat.le_trans hs2 hT2
      show TurnGo 0 w L fa cd _ E _
      refine turn_J w mean mg mb h₀ base Z fa cd L D b9 aw ac ys ws bs nb n2 nk z1 z2 z3 H2 S2 u3 u4 v2 o1 o2 hI hB hx eH eS y3 y4 d1 d2 [(I, itR (0 + ((i + 1 : Nat) : Int)) (((5 : Nat) : Int) - ((i + 1 : Nat) : Int)))] (fun p hp v e => by rw [List.mem_singleton.mp hp] at e; cases e) (frOut bs i) (fOut bs i) i i2 hi1 hi2 t1 t2 _ m2 news2 I2 _ rfl off2 (by intro v e; cases e) ?_ ?_ ?_ ?_ ?_ _ ⟨_, _, _, rfl⟩ _ E
      · exact Nat.lt_of_lt_of_le y3' hs3
      · exact Nat.lt_of_lt_of_le y4' hs3
      · exact hJ2
      · exact F2
      · exact N2
    · intro h2 tk2 g2 m2 news2 hT2 hJ2 F2 N2
      obtain ⟨ah, n1, o4, o5, o6, o7, o8, v5, v6, v7, v8, e2, hg, d4, d5, d6, d7, d8, m_rows, m_colour, m_fair, -⟩ := hJ2
      subst e2
      refine wpAny_execs_nil ?_
      refine RangePost.nextD ((ah, listOf (List.toArray [.bool (fIn bs (0 + (i : Int)).toNat (fOut bs i) 5 0), .bool (fIn bs (0 + (i : Int)).toNat (fOut bs i) 5 1), .bool (fIn bs (0 + (i : Int)).toNat (fOut bs i) 5 2)]) n1) :: (L + 1 + 1 + 1 + 1, o4) :: (L + 1 + 1 + 1 + 1 + 1, o5) :: (L + 1 + 1 + 1 + 1 + 1 + 1, o6) :: (L + 1 + 1 + 1 + 1 + 1 + 1 + 1, o7) :: (L + 1 + 1 + 1 + 1 + 1 + 1 + 1 + 1, o8) :: (L + 1, o1) :: (L + 1 + 1, o2) :: (D, LCg.lst ys) :: (b9, listOf ws.toArray nb) :: (aw, listOf (List.toArray [.int ((bs.count 0 : Nat) : Int) z1, .int ((bs.count 1 : Nat) : Int) z2, .int ((bs.count 2 : Nat) : Int) z3]) n2) :: (ac, tupOf #[.float H2 u3, .float S2 u4, v2] nk) :: []) F2 N2 (.tail _ (.tail _ (.tail _ (.tail _ (.tail _ (.tail _ (.tail _ (.tail _ (.tail _ (.tail _ (.tail _ (.tail _ (.head _))))))))))))) (fun p hp => by
      rcases List.mem_cons.mp hp with e | hp
      · rw [e]; exact .head _
      rcases List.mem_cons.mp hp with e | hp
      · rw [e]; exact .tail _ (.head _)
      rcases List.mem_cons.mp hp with e | hp
      · rw [e]; exact .tail _ (.tail _ (.head _))
      rcases List.mem_cons.mp hp with e | hp
      · rw [e]; exact .tail _ (.tail _ (.tail _ (.head _)))
      rcases List.mem_cons.mp hp with e | hp
      · rw [e]; exact .tail _ (.tail _ (.tail _ (.tail _ (.head _))))
      rcases List.mem_cons.mp hp with e | hp
      · rw [e]; exact .tail _ (.tail _ (.tail _ (.tail _ (.tail _ (.head _)))))
      rcases List.mem_cons.mp hp with e | hp
      · rw [e]; exact .tail _ (.tail _ (.tail _ (.tail _ (.tail _ (.tail _ (.head _))))))
      rcases List.mem_cons.mp hp with e | hp
      · rw [e]; exact .tail _ (.tail _ (.tail _ (.tail _ (.tail _ (.tail _ (.tail _ (.head _)))))))
      rcases List.mem_cons.mp hp with e | hp
      · rw [e]; exact .tail _ (.tail _ (.tail _ (.tail _ (.tail _ (.tail _ (.tail _ (.tail _ (.head _))))))))
      rcases List.mem_cons.mp hp with e | hp
      · rw [e]; exact .tail _ (.tail _ (.tail _ (.tail _ (.tail _ (.tail _ (.tail _ (.tail _ (.tail _ (.head _)))))))))
      rcases List.mem_cons.mp hp with e | hp
      · rw [e]; exact .tail _ (.tail _ (.tail _ (.tail _ (.tail _ (.tail _ (.tail _ (.tail _ (.tail _ (.tail _ (.head _))))))))))
      rcases List.mem_cons.mp hp with e | hp
      · rw [e]; exact .tail _ (.tail _ (.tail _ (.tail _ (.tail _ (.tail _ (.tail _ (.tail _ (.tail _ (.tail _ (.tail _ (.head _)))))))))))
      cases hp) (fun p hp => by
      rcases List.mem_cons.mp hp with e | hp
      · rw [e]; intro e2; have e3 := congrArg Obj.data e2; cases e3
      rcases List.mem_cons.mp hp with e | hp
      · rw [e]; intro e2; have e3 := congrArg Obj.data e2; dsimp only at e3; rw [d4] at e3; cases e3
      rcases List.mem_cons.mp hp with e | hp
      · rw [e]; intro e2; have e3 := congrArg Obj.data e2; dsimp only at e3; rw [d5] at e3; cases e3
      rcases List.mem_cons.mp hp with e | hp
      · rw [e]; intro e2; have e3 := congrArg Obj.data e2; dsimp only at e3; rw [d6] at e3; cases e3
      rcases List.mem_cons.mp hp with e | hp
      · rw [e]; intro e2; have e3 := congrArg Obj.data e2; dsimp only at e3; rw [d7] at e3; cases e3
      rcases List.mem_cons.mp hp with e | hp
      · rw [e]; intro e2; have e3 := congrArg Obj.data e2; dsimp only at e3; rw [d8] at e3; cases e3
      rcases List.mem_cons.mp hp with e | hp
      · rw [e]; intro e2; have e3 := congrArg Obj.data e2; dsimp only at e3; rw [d1] at e3; cases e3
      rcases List.mem_cons.mp hp with e | hp
      · rw [e]; intro e2; have e3 := congrArg Obj.data e2; dsimp only at e3; rw [d2] at e3; cases e3
      rcases List.mem_cons.mp hp with e | hp
      · rw [e]; intro e2; have e3 := congrArg Obj.data e2; cases e3
      rcases List.mem_cons.mp hp with e | hp
      · rw [e]; intro e2; have e3 := congrArg Obj.data e2; cases e3
      rcases List.mem_cons.mp hp with e | hp
      · rw [e]; intro e2; have e3 := congrArg Obj.data e2; cases e3
      rcases List.mem_cons.mp hp with e | hp
      · rw [e]; intro e2; have e3 := congrArg Obj.data e2; cases e3
      cases hp) ⟨ah, n1, o4, o5, o6, o7, o8, v5, v6, v7, v8, rfl, hg, d4, d5, d6, d7, d8, m_rows, m_colour, m_fair, True.intro⟩
  · intro h1 tk1 g1 m1 news1 hT1 hJ1 F1 N1
    obtain ⟨ah, n1, o4, o5, o6, o7, o8, v5, v6, v7, v8, rfl, hg, d4, d5, d6, d7, d8, m_rows, m_colour, m_fair, -⟩ := hJ1
    exact fun hk => next ah n1 o4 h1 tk1 g1 m1 hg d4 m_fair F1 (newsC (N1 _ (.head _)) (newsC (N1 _ (.tail _ (.head _))) (fun p hp => nomatch hp)))
end Mine

end
-- Fair
section
open PySem PySem.W PyProof.Rows PySem.Calls PySem.Spec
namespace Mine
theorem fresh_Fair : True := by
  w_top off
  k_with_none
  k_with "omega" => lia
  trivial
theorem frIn_true (bs : List Int) (A : Nat) : ∀ n, frIn bs A true n = true
  | 0 => rfl
  | n + 1 => by rw [frIn, frIn_true bs A n]; rfl
theorem frIn_hit {bs : List Int} {A i : Nat} (h : fairB bs A (1 + (i : Int)).toNat = true) (fr : Bool) : ∀ n, i < n → frIn bs A fr n = true
  | n + 1, hn => by
    rw [frIn]
    by_cases q : i = n
    · rw [← q, h, Bool.or_true]
    · rw [frIn_hit h fr n (by omega), Bool.true_or]
theorem frOut_hit {bs : List Int} {a i : Nat} (hi : i < 5) (h : fairB bs (0 + (a : Int)).toNat (1 + (i : Int)).toNat = true) : ∀ n, a < n → frOut bs n = true
  | n + 1, hn => by
    rw [frOut]
    by_cases q : a = n
    · rw [← q]; exact frIn_hit h _ 5 hi
    · rw [frOut_hit hi h n (by omega)]; exact frIn_true _ _ 5
theorem fIn_five (bs : List Int) (A : Nat) (f : Nat → Bool) (k : Nat) : fIn bs A f 5 k = halfF bs A 5 f k := by
  show (if (1 + ((4 : Nat) : Int)) = 5 then halfF bs A (1 + ((4 : Nat) : Int)).toNat (fIn bs A f 4) k else fIn bs A f 4 k) = _
  rw [if_pos (by decide)]
  have e : ∀ k, fIn bs A f 4 k = f k := by
    intro k
    show (if (1 + ((3 : Nat) : Int)) = 5 then _ else (if (1 + ((2 : Nat) : Int)) = 5 then _ else (if (1 + ((1 : Nat) : Int)) = 5 then _ else (if (1 + ((0 : Nat) : Int)) = 5 then _ else f k)))) = f k
    rw [if_neg (by decide), if_neg (by decide), if_neg (by decide), if_neg (by decide)]
  have e' : fIn bs A f 4 = f := funext e
  rw [e']
  rfl
theorem fOut_hit {bs : List Int} {a k : Nat} (h : ∀ f, halfF bs (0 + (a : Int)).toNat 5 f k = true) : ∀ n, a < n → fOut bs n k = true
  | n + 1, hn => by
    rw [fOut, fIn_five]
    by_cases q : a = n
    · rw [← q]; exact h _
    · unfold halfF
      rw [fOut_hit h n (by omega), Bool.true_or]
theorem fair_all {bs : List Int} (hB : BeadsOk 5 bs) : frOut bs 5 = true ∧ fOut bs 5 0 = true ∧ fOut bs 5 1 = true ∧ fOut bs 5 2 = true := by
  obtain ⟨⟨a, d, ha, hd, hd', h⟩, hk⟩ := necklace hB
  refine ⟨?_, ?_, ?_, ?_⟩
  · have h0 := h 0 (.inl rfl)
    have h1 := h 1 (.inr (.inl rfl))
    have h2 := h 2 (.inr (.inr rfl))
    refine frOut_hit (a := a) (i := d - 1) (by omega) ?_ 5 ha
    rw [show (0 + (a : Int)).toNat = a by omega, show (1 + ((d - 1 : Nat) : Int)).toNat = d by omega]
    unfold fairB
    rw [← h0, ← h1, ← h2]
    push_cast
    exact decide_eq_true rfl
  · obtain ⟨a, ha, h⟩ := hk 0 (.inl rfl)
    refine fOut_hit (a := a) (fun f => ?_) 5 ha
    rw [show (0 + (a : Int)).toNat = a by omega]
    unfold halfF
    rw [show decide (2 * pick3 (((mineOf bs a 5).count 0 : Nat) : Int) (((mineOf bs a 5).count 1 : Nat) : Int) (((mineOf bs a 5).count 2 : Nat) : Int) 0 = pick3 ((bs.count 0 : Nat) : Int) ((bs.count 1 : Nat) : Int) ((bs.count 2 : Nat) : Int) 0) = true from decide_eq_true (show 2 * (((mineOf bs a 5).count 0 : Nat) : Int) = ((bs.count 0 : Nat) : Int) by omega), Bool.or_true]
  · obtain ⟨a, ha, h⟩ := hk 1 (.inr (.inl rfl))
    refine fOut_hit (a := a) (fun f => ?_) 5 ha
    rw [show (0 + (a : Int)).toNat = a by omega]
    unfold halfF
    rw [show decide (2 * pick3 (((mineOf bs a 5).count 0 : Nat) : Int) (((mineOf bs a 5).count 1 : Nat) : Int) (((mineOf bs a 5).count 2 : Nat) : Int) 1 = pick3 ((bs.count 0 : Nat) : Int) ((bs.count 1 : Nat) : Int) ((bs.count 2 : Nat) : Int) 1) = true from decide_eq_true (show 2 * (((mineOf bs a 5).count 1 : Nat) : Int) = ((bs.count 1 : Nat) : Int) by omega), Bool.or_true]
  · obtain ⟨a, ha, h⟩ := hk 2 (.inr (.inr rfl))
    refine fOut_hit (a := a) (fun f => ?_) 5 ha
    rw [show (0 + (a : Int)).toNat = a by omega]
    unfold halfF
    rw [show decide (2 * pick3 (((mineOf bs a 5).count 0 : Nat) : Int) (((mineOf bs a 5).count 1 : Nat) : Int) (((mineOf bs a 5).count 2 : Nat) : Int) 2 = pick3 ((bs.count 0 : Nat) : Int) ((bs.count 1 : Nat) : Int) ((bs.count 2 : Nat) : Int) 2) = true from decide_eq_true (show 2 * (((mineOf bs a 5).count 2 : Nat) : Int) = ((bs.count 2 : Nat) : Int) by omega), Bool.or_true]
theorem sum_pairs {rs : List Row} (h : rs.length = 10) (k : Int) : ((pairsOf rs).map fun p => ((cnt k p : Nat) : Int)).sum = ((cnt k rs : Nat) : Int) := by
  match rs, h with
  | [r1, r2, r3, r4, r5, r6, r7, r8, r9, r10], _ =>
    simp only [pairsOf, List.take, List.drop, List.map, List.sum_cons, List.sum_nil, cnt_cons, show cnt k [] = 0 from rfl]
    omega
theorem pairs_len (rs : List Row) : (pairsOf rs).length = 6 := rfl
theorem pairs_ok {rs : List Row} (h : ∀ r ∈ rs, rowK r) : ∀ p ∈ pairsOf rs, (∀ r ∈ p, rowK r) ∧ p.length ≤ 10 := by
  intro p hp
  have two : ∀ l : List Row, (l.take 2).length ≤ 10 := fun l => by rw [List.length_take]; omega
  have sub : ∀ n, ∀ r ∈ (rs.drop n).take 2, rowK r := fun n r hr => h r (List.mem_of_mem_drop (List.mem_of_mem_take hr))
  simp only [pairsOf, List.mem_cons, List.not_mem_nil, or_false] at hp
  rcases hp with e | e | e | e | e | e <;> subst e
  · exact ⟨fun r hr => h r (List.mem_of_mem_take hr), two _⟩
  · exact ⟨sub _, two _⟩
  · exact ⟨sub _, two _⟩
  · exact ⟨sub _, two _⟩
  · exact ⟨sub _, two _⟩
  · exact ⟨(fun r hr => nomatch hr), (by decide)⟩
theorem parts_apt {ps : List (List Row)} {ys : List Value} {added : List (Addr × Obj)} (h : Parts ps ys added) : ∀ p ∈ added, ∀ v, p.2.data ≠ .cell v := by
  induction h with
  | nil => intro p hp; cases hp
  | snoc _ ih =>
    intro p hp
    rcases List.mem_cons.mp hp with e | hp
    · rw [e]; intro v e2; cases e2
    · exact ih p hp
theorem cnt_rows {bs : List Int} (h : ∀ b ∈ bs, 0 ≤ b ∧ b ≤ 2) (k : Int) : cnt k (rowsOf bs) = bs.count k := by
  unfold cnt
  rw [kinds_rows h]
theorem sums_at {bs : List Int} (hB : BeadsOk 5 bs) : ∀ i : Nat, i < 3 → ([((bs.count 0 : Nat) : Int), ((bs.count 1 : Nat) : Int), ((bs.count 2 : Nat) : Int)] : List Int)[i]? = some ((pairsOf (rowsOf bs)).map fun p => ((cnt (i : Int) p : Nat) : Int)).sum := by
  intro i hi
  rw [sum_pairs (by rw [rowsOf_len, hB.1]), cnt_rows hB.2.1]
  have : i = 0 ∨ i = 1 ∨ i = 2 := by omega
  rcases this with e | e | e <;> subst e <;> rfl
end Mine

end
-- Law
section
open PySem PySem.W PyProof.Rows PySem.Calls PySem.Spec PyProof.V PySem.SeqAt
set_option maxRecDepth 100000
set_option maxHeartbeats 8000000
namespace Mine
theorem fresh_Law : True := by
  w_top off
  k_with_none
  k_with "omega" => lia
  trivial
theorem newsNil {h₀ h : Heap} {L : Addr} : News h₀ L h [] := fun p hp => nomatch hp
theorem law_all (w : World) (mean : ExcName → Option Value) (mg mb : Str → Option Value) (h₀ base : Heap) (Z : Here w mean mg mb h₀ base) (fa : Addr) (cd : Value) (L l : Addr) (vs : List Value) (ns : List Int) (hi : IntsAre vs ns) (hlen : ns.length ≤ 63) (s : Shared) (u : Str → Option Value) (o1 o2 o3 o4 o5 o6 o7 o8 : Obj)
   (d1 : o1.data = .cell none) (d2 : o2.data = .cell none) (d3 : o3.data = .cell none) (d4 : o4.data = .cell none) (d5 : o5.data = .cell none) (d6 : o6.data = .cell none) (d7 : o7.data = .cell none) (d8 : o8.data = .cell none) (hl : h₀.IsList l vs.toArray) (hg : leftWithCleanup s.gens = false)
   (F : Fr h₀ L s.heap (fun y => if y = Str.ofString "script" then some (.ref l) else u y)) (N : News h₀ L s.heap ((L + 1, o1) :: (L + 1 + 1, o2) :: (L + 1 + 1 + 1, o3) :: (L + 1 + 1 + 1 + 1, o4) :: (L + 1 + 1 + 1 + 1 + 1, o5) :: (L + 1 + 1 + 1 + 1 + 1 + 1, o6) :: (L + 1 + 1 + 1 + 1 + 1 + 1 + 1, o7) :: (L + 1 + 1 + 1 + 1 + 1 + 1 + 1 + 1, o8) :: [])) (Q : Flow → Shared → Prop) (E : Value → Shared → Prop)
   (hE : PassesOwn (model PySem.Challenge.rw_sr0007_01.row.prog w) (callerA.deeper (lawEnv L fa cd)) (lawEnv L fa cd) E)
   (hQ : ∀ h' tk g m', leftWithCleanup g = false → Fr h₀ L h' m' → Q (.ret (.bool true)) { s with heap := h', toks := tk, gens := g }) :
   LawGo 0 w L fa cd Q E s := by
  refine law_beads w mean mg mb h₀ base Z fa cd L l vs ns hi hlen s _ _ o1 none d1 hl hg F N (List.forall_mem_cons.mpr ⟨.inr (by show @Ne Nat (L + 1 + 1) (L + 1); omega), List.forall_mem_cons.mpr ⟨.inr (by show @Ne Nat (L + 1 + 1 + 1) (L + 1); omega), List.forall_mem_cons.mpr ⟨.inr (by show @Ne Nat (L + 1 + 1 + 1 + 1) (L + 1); omega), List.forall_mem_cons.mpr ⟨.inr (by show @Ne Nat (L + 1 + 1 + 1 + 1 + 1) (L + 1); omega), List.forall_mem_cons.mpr ⟨.inr (by show @Ne Nat (L + 1 + 1 + 1 + 1 + 1 + 1) (L + 1); omega), List.forall_mem_cons.mpr ⟨.inr (by show @Ne Nat (L + 1 + 1 + 1 + 1 + 1 + 1 + 1) (L + 1); omega), List.forall_mem_cons.mpr ⟨.inr (by show @Ne Nat (L + 1 + 1 + 1 + 1 + 1 + 1 + 1 + 1) (L + 1); omega), fun p hp => nomatch hp⟩⟩⟩⟩⟩⟩⟩) Q E ?_
  intro b9 ws bs nb o1 h1 k1 g1 K1 G1 hI hB d1 F1 N1
  clear F N
  refine law_rows w mean mg mb h₀ base Z fa cd L b9 ws bs nb hI hB ({ s with heap := h1, toks := k1, gens := g1 }) _ o1 o2 o3 o4 o5 o6 o7 o8 d1 F1 (newsC (N1 _ (.head _)) (newsC (N1 _ (.tail _ (.tail _ (.tail _ (.tail _ (.tail _ (.tail _ (.tail _ (.tail _ (.head _)))))))))) (newsC (N1 _ (.tail _ (.tail _ (.tail _ (.tail _ (.tail _ (.tail _ (.tail _ (.head _))))))))) (newsC (N1 _ (.tail _ (.tail _ (.tail _ (.tail _ (.tail _ (.tail _ (.head _)))))))) (newsC (N1 _ (.tail _ (.tail _ (.tail _ (.tail _ (.tail _ (.head _))))))) (newsC (N1 _ (.tail _ (.tail _ (.tail _ (.tail _ (.head _)))))) (newsC (N1 _ (.tail _ (.tail _ (.tail _ (.head _))))) (newsC (N1 _ (.tail _ (.tail _ (.head _)))) (newsC (N1 _ (.tail _ (.head _))) (newsNil)))))))))) Q E ?_
  intro D ys h2 k2 K2 hx F2 N2
  clear F1 N1
  refine law_sent w mean mg mb h₀ base Z fa cd L b9 D ws ys bs nb hI hB ({ s with heap := h2, toks := k2, gens := g1 }) _ o1 o2 o3 o4 o5 o6 o7 o8 d1 F2 N2 Q E ?_
  intro t h3 k3 K3 F3 N3
  clear F2 N2
  refine law_whole w mean mg mb h₀ base Z fa cd L b9 D ws ys bs nb hI hB ({ s with heap := h3, toks := k3, gens := g1 }) _ o1 o2 o3 o4 o5 o6 o7 o8 d1 d2 F3 N3 Q E ?_
  intro aw o2 z1 z2 z3 h4 k4 K4 d2 F4 N4
  clear F3 N3
  unfold cellsOf at N4
  have hrl : (rowsOf bs).length = 10 := by rw [rowsOf_len, hB.1]
  refine law_cuts w mean mg mb h₀ base Z fa cd L D ys (rowsOf bs) hx (rowsOf_K bs) hrl ({ s with heap := h4, toks := k4, gens := g1 }) _ t _ (fr_pull (fr_pull F4 (x := Str.ofString "rows") ((if_neg (by decide)).trans (if_pos rfl))) (x := Str.ofString "sent") ((if_neg (by decide)).trans (if_pos rfl))) N4 (.tail _ (.head _)) G1 Q E ?_
  intro lt lx ts xs n1 n2 h5 k5 g5 K5 G5 hts hxs F5 N5
  clear F4 N4
  refine law_parts w mean mg mb h₀ base Z fa cd L lx lt xs n2 (pairsOf (rowsOf bs)) hxs (pairs_ok (rowsOf_K bs)) (pairs_len _) ({ s with heap := h5, toks := k5, gens := g5 }) _ _ o1 o2 o3 o4 o5 o6 o7 o8 d3 F5 N5 G5 Q E ?_
  intro Dp yp added h6 k6 g6 G6 hP F6 N6
  clear F5 N5
  have N6' : News h₀ L h6 ((L + 1 + 1 + 1, o3) :: (Dp, LCg.lst yp) :: (lx, listOf xs.toArray n2) :: (lt, listOf ts.toArray n1) :: (aw, LCg.lst [.int ((bs.count 0 : Nat) : Int) z1, .int ((bs.count 1 : Nat) : Int) z2, .int ((bs.count 2 : Nat) : Int) z3]) :: (D, LCg.lst ys) :: (b9, listOf ws.toArray nb) :: (L + 1, o1) :: (L + 1 + 1, o2) :: (L + 1 + 1 + 1 + 1, o4) :: (L + 1 + 1 + 1 + 1 + 1, o5) :: (L + 1 + 1 + 1 + 1 + 1 + 1, o6) :: (L + 1 + 1 + 1 + 1 + 1 + 1 + 1, o7) :: (L + 1 + 1 + 1 + 1 + 1 + 1 + 1 + 1, o8) :: added) := newsC (N6 _ (.tail _ (List.mem_append_right _ (.tail _ (.tail _ (.tail _ (.tail _ (.tail _ (.tail _ (.tail _ (.tail _ (.tail _ (.tail _ (.head _)))))))))))))) (newsC (N6 _ (.head _)) (newsC (N6 _ (.tail _ (List.mem_append_right _ (.head _)))) (newsC (N6 _ (.tail _ (List.mem_append_right _ (.tail _ (.head _))))) (newsC (N6 _ (.tail _ (List.mem_append_right _ (.tail _ (.tail _ (.head _)))))) (newsC (N6 _ (.tail _ (List.mem_append_right _ (.tail _ (.tail _ (.tail _ (.head _))))))) (newsC (N6 _ (.tail _ (List.mem_append_right _ (.tail _ (.tail _ (.tail _ (.tail _ (.head _)))))))) (newsC (N6 _ (.tail _ (List.mem_append_right _ (.tail _ (.tail _ (.tail _ (.tail _ (.tail _ (.tail _ (.tail _ (.tail _ (.tail _ (.tail _ (.tail _ (.tail _ (.head _)))))))))))))))) (newsC (N6 _ (.tail _ (List.mem_append_right _ (.tail _ (.tail _ (.tail _ (.tail _ (.tail _ (.tail _ (.tail _ (.tail _ (.tail _ (.tail _ (.tail _ (.head _))))))))))))))) (newsC (N6 _ (.tail _ (List.mem_append_right _ (.tail _ (.tail _ (.tail _ (.tail _ (.tail _ (.tail _ (.tail _ (.tail _ (.tail _ (.head _))))))))))))) (newsC (N6 _ (.tail _ (List.mem_append_right _ (.tail _ (.tail _ (.tail _ (.tail _ (.tail _ (.tail _ (.tail _ (.tail _ (.head _)))))))))))) (newsC (N6 _ (.tail _ (List.mem_append_right _ (.tail _ (.tail _ (.tail _ (.tail _ (.tail _ (.tail _ (.tail _ (.head _))))))))))) (newsC (N6 _ (.tail _ (List.mem_append_right _ (.tail _ (.tail _ (.tail _ (.tail _ (.tail _ (.tail _ (.head _)))))))))) (newsC (N6 _ (.tail _ (List.mem_append_right _ (.tail _ (.tail _ (.tail _ (.tail _ (.tail _ (.head _))))))))) (fun p hp => N6 p (.tail _ (List.mem_append_left _ hp))))))))))))))))
  clear N6
  refine store_cell (c := L + 1 + 1 + 1) (o := o3) (s := { s with heap := h6, toks := k6, gens := g6 }) (by unfold lawEnv lawRec recOf; rfl) (.head _) d3 (.head (List.forall_mem_cons.mpr ⟨.inl (by intro v e; cases e), List.forall_mem_cons.mpr ⟨.inl (by intro v e; cases e), List.forall_mem_cons.mpr ⟨.inl (by intro v e; cases e), List.forall_mem_cons.mpr ⟨.inl (by intro v e; cases e), List.forall_mem_cons.mpr ⟨.inl (by intro v e; cases e), List.forall_mem_cons.mpr ⟨.inl (by intro v e; cases e), List.forall_mem_cons.mpr ⟨.inr (by show @Ne Nat (L + 1) (L + 1 + 1 + 1); omega), List.forall_mem_cons.mpr ⟨.inr (by show @Ne Nat (L + 1 + 1) (L + 1 + 1 + 1); omega), List.forall_mem_cons.mpr ⟨.inr (by show @Ne Nat (L + 1 + 1 + 1 + 1) (L + 1 + 1 + 1); omega), List.forall_mem_cons.mpr ⟨.inr (by show @Ne Nat (L + 1 + 1 + 1 + 1 + 1) (L + 1 + 1 + 1); omega), List.forall_mem_cons.mpr ⟨.inr (by show @Ne Nat (L + 1 + 1 + 1 + 1 + 1 + 1) (L + 1 + 1 + 1); omega), List.forall_mem_cons.mpr ⟨.inr (by show @Ne Nat (L + 1 + 1 + 1 + 1 + 1 + 1 + 1) (L + 1 + 1 + 1); omega), List.forall_mem_cons.mpr ⟨.inr (by show @Ne Nat (L + 1 + 1 + 1 + 1 + 1 + 1 + 1 + 1) (L + 1 + 1 + 1); omega), fun p hp => .inl (parts_apt hP p hp)⟩⟩⟩⟩⟩⟩⟩⟩⟩⟩⟩⟩⟩)) F6 N6' ?_ (by unfold lawEnv lawRec recOf; rfl) (by unfold lawEnv lawRec recOf; rfl)
  intro h7 o3 F7 N7 d3 K6
  clear F6 N6'
  show LawGo 6 w L fa cd Q E ({ s with heap := h7, toks := k6, gens := g6 })
  refine law_if1 w mean mg mb h₀ base Z fa cd L Dp lt aw yp ts [.int ((bs.count 0 : Nat) : Int) z1, .int ((bs.count 1 : Nat) : Int) z2, .int ((bs.count 2 : Nat) : Int) z3] added n1 3 (pairsOf (rowsOf bs)) (pairs_len _) hP [((bs.count 0 : Nat) : Int), ((bs.count 1 : Nat) : Int), ((bs.count 2 : Nat) : Int)] rfl (sums_at hB) hts (.cons _ _ (.cons _ _ (.cons _ _ .nil))) ({ s with heap := h7, toks := k6, gens := g6 }) _ ((lx, listOf xs.toArray n2) :: (lt, listOf ts.toArray n1) :: (aw, LCg.lst [.int ((bs.count 0 : Nat) : Int) z1, .int ((bs.count 1 : Nat) : Int) z2, .int ((bs.count 2 : Nat) : Int) z3]) :: (D, LCg.lst ys) :: (b9, listOf ws.toArray nb) :: (L + 1, o1) :: (L + 1 + 1 + 1 + 1, o4) :: (L + 1 + 1 + 1 + 1 + 1, o5) :: (L + 1 + 1 + 1 + 1 + 1 + 1, o6) :: (L + 1 + 1 + 1 + 1 + 1 + 1 + 1, o7) :: (L + 1 + 1 + 1 + 1 + 1 + 1 + 1 + 1, o8) :: added) o2 o3 d2 d3 (fr_pull F7 (x := Str.ofString "sizes") ((if_neg (by decide)).trans (if_pos rfl))) (newsC (N7 _ (.tail _ (.head _))) (newsC (N7 _ (.head _)) (newsC (N7 _ (.tail _ (.tail _ (.tail _ (.tail _ (.tail _ (.tail _ (.tail _ (.tail _ (.head _)))))))))) (newsC (N7 _ (.tail _ (.tail _ (.head _)))) (newsC (N7 _ (.tail _ (.tail _ (.tail _ (.head _))))) (newsC (N7 _ (.tail _ (.tail _ (.tail _ (.tail _ (.head _)))))) (newsC (N7 _ (.tail _ (.tail _ (.tail _ (.tail _ (.tail _ (.head _))))))) (newsC (N7 _ (.tail _ (.tail _ (.tail _ (.tail _ (.tail _ (.tail _ (.head _)))))))) (newsC (N7 _ (.tail _ (.tail _ (.tail _ (.tail _ (.tail _ (.tail _ (.tail _ (.head _))))))))) (newsC (N7 _ (.tail _ (.tail _ (.tail _ (.tail _ (.tail _ (.tail _ (.tail _ (.tail _ (.tail _ (.head _))))))))))) (newsC (N7 _ (.tail _ (.tail _ (.tail _ (.tail _ (.tail _ (.tail _ (.tail _ (.tail _ (.tail _ (.tail _ (.head _)))))))))))) (newsC (N7 _ (.tail _ (.tail _ (.tail _ (.tail _ (.tail _ (.tail _ (.tail _ (.tail _ (.tail _ (.tail _ (.tail _ (.head _))))))))))))) (newsC (N7 _ (.tail _ (.tail _ (.tail _ (.tail _ (.tail _ (.tail _ (.tail _ (.tail _ (.tail _ (.tail _ (.tail _ (.tail _ (.head _)))))))))))))) (newsC (N7 _ (.tail _ (.tail _ (.tail _ (.tail _ (.tail _ (.tail _ (.tail _ (.tail _ (.tail _ (.tail _ (.tail _ (.tail _ (.tail _ (.head _))))))))))))))) (fun p hp => N7 p (.tail _ (.tail _ (.tail _ (.tail _ (.tail _ (.tail _ (.tail _ (.tail _ (.tail _ (.tail _ (.tail _ (.tail _ (.tail _ (.tail _ hp))))))))))))))))))))))))))))) (fun p hp => (.tail _ (.tail _ (.tail _ (.tail _ (.tail _ (.tail _ (.tail _ (.tail _ (.tail _ (.tail _ (.tail _ hp)))))))))))) (.tail _ (.head _)) (.tail _ (.tail _ (.head _))) Q E ?_
  intro h8 k8 K8 F8 N8
  clear F7 N7
  refine law_if2 w mean mg mb h₀ base Z fa cd L D ys (rowsOf bs) hx (rowsOf_K bs) hrl ({ s with heap := h8, toks := k8, gens := g6 }) _ t _ (fr_pull (fr_pull F8 (x := Str.ofString "rows") ((if_neg (by decide)).trans ((if_neg (by decide)).trans ((if_neg (by decide)).trans ((if_neg (by decide)).trans (if_pos rfl)))))) (x := Str.ofString "sent") ((if_neg (by decide)).trans ((if_neg (by decide)).trans ((if_neg (by decide)).trans ((if_neg (by decide)).trans (if_pos rfl)))))) (newsC (N8 _ (.tail _ (.tail _ (.tail _ (.tail _ (.tail _ (.tail _ (.head _)))))))) (newsC (N8 _ (.tail _ (.tail _ (.head _)))) (newsC (N8 _ (.tail _ (.tail _ (.tail _ (.tail _ (.tail _ (.head _))))))) (newsC (N8 _ (.tail _ (.tail _ (.tail _ (.tail _ (.tail _ (.tail _ (.tail _ (.head _))))))))) (newsC (N8 _ (.tail _ (.tail _ (.tail _ (.tail _ (.tail _ (.tail _ (.tail _ (.tail _ (.head _)))))))))) (newsC (N8 _ (.tail _ (.tail _ (.tail _ (.tail _ (.tail _ (.tail _ (.tail _ (.tail _ (.tail _ (.head _))))))))))) (newsC (N8 _ (.tail _ (.tail _ (.tail _ (.tail _ (.tail _ (.tail _ (.tail _ (.tail _ (.tail _ (.tail _ (.head _)))))))))))) (newsC (N8 _ (.tail _ (.tail _ (.tail _ (.tail _ (.tail _ (.tail _ (.tail _ (.tail _ (.tail _ (.tail _ (.tail _ (.head _))))))))))))) (newsC (N8 _ (.tail _ (.tail _ (.tail _ (.tail _ (.tail _ (.tail _ (.tail _ (.tail _ (.tail _ (.tail _ (.tail _ (.tail _ (.head _)))))))))))))) (newsC (N8 _ (.tail _ (.tail _ (.tail _ (.tail _ (.tail _ (.tail _ (.tail _ (.tail _ (.tail _ (.tail _ (.tail _ (.tail _ (.tail _ (.head _))))))))))))))) (newsNil))))))))))) Q E ?_
  intro h9 k9 K9 F9 N9
  clear F8 N8
  have hsum := whole_sum hB
  refine law_whites w mean mg mb h₀ base Z fa cd L aw _ _ _ (Int.natCast_nonneg _) (Int.natCast_nonneg _) (Int.natCast_nonneg _) (by omega) z1 z2 z3 3 ({ s with heap := h9, toks := k9, gens := g6 }) _ _ o2 d2 F9 (newsC (N9 _ (.tail _ (.tail _ (.head _)))) (newsC (N9 _ (.tail _ (.head _))) (newsC (N9 _ (.head _)) (newsC (N9 _ (.tail _ (.tail _ (.tail _ (.head _))))) (newsC (N9 _ (.tail _ (.tail _ (.tail _ (.tail _ (.head _)))))) (newsC (N9 _ (.tail _ (.tail _ (.tail _ (.tail _ (.tail _ (.head _))))))) (newsC (N9 _ (.tail _ (.tail _ (.tail _ (.tail _ (.tail _ (.tail _ (.head _)))))))) (newsC (N9 _ (.tail _ (.tail _ (.tail _ (.tail _ (.tail _ (.tail _ (.tail _ (.head _))))))))) (newsC (N9 _ (.tail _ (.tail _ (.tail _ (.tail _ (.tail _ (.tail _ (.tail _ (.tail _ (.head _)))))))))) (newsC (N9 _ (.tail _ (.tail _ (.tail _ (.tail _ (.tail _ (.tail _ (.tail _ (.tail _ (.tail _ (.head _))))))))))) (newsNil))))))))))) Q E ?_
  intro ac H2 S2 V2 u3 u4 u5 nk h10 k10 K10 U1 U2 eH eS F10 N10
  clear F9 N9
  refine law_fair w mean mg mb h₀ base Z fa cd L ({ s with heap := h10, toks := k10, gens := g6 }) _ _ F10 N10 Q E ?_
  intro h11 k11 K11 F11 N11
  clear F10 N10
  refine law_halved w mean mg mb h₀ base Z fa cd L ({ s with heap := h11, toks := k11, gens := g6 }) _ _ o4 none d4 F11 (newsC (N11 _ (.tail _ (.tail _ (.tail _ (.tail _ (.tail _ (.tail _ (.head _)))))))) (newsC (N11 _ (.head _)) (newsC (N11 _ (.tail _ (.head _))) (newsC (N11 _ (.tail _ (.tail _ (.head _)))) (newsC (N11 _ (.tail _ (.tail _ (.tail _ (.head _))))) (newsC (N11 _ (.tail _ (.tail _ (.tail _ (.tail _ (.head _)))))) (newsC (N11 _ (.tail _ (.tail _ (.tail _ (.tail _ (.tail _ (.head _))))))) (newsC (N11 _ (.tail _ (.tail _ (.tail _ (.tail _ (.tail _ (.tail _ (.tail _ (.head _))))))))) (newsC (N11 _ (.tail _ (.tail _ (.tail _ (.tail _ (.tail _ (.tail _ (.tail _ (.tail _ (.head _)))))))))) (newsC (N11 _ (.tail _ (.tail _ (.tail _ (.tail _ (.tail _ (.tail _ (.tail _ (.tail _ (.tail _ (.head _))))))))))) (newsC (N11 _ (.tail _ (.tail _ (.tail _ (.tail _ (.tail _ (.tail _ (.tail _ (.tail _ (.tail _ (.tail _ (.head _)))))))))))) (newsNil)))))))))))) (List.forall_mem_cons.mpr ⟨.inl (by intro v e; cases e), List.forall_mem_cons.mpr ⟨.inl (by intro v e; cases e), List.forall_mem_cons.mpr ⟨.inr (by show @Ne Nat (L + 1 + 1) (L + 1 + 1 + 1 + 1); omega), List.forall_mem_cons.mpr ⟨.inl (by intro v e; cases e), List.forall_mem_cons.mpr ⟨.inl (by intro v e; cases e), List.forall_mem_cons.mpr ⟨.inr (by show @Ne Nat (L + 1) (L + 1 + 1 + 1 + 1); omega), List.forall_mem_cons.mpr ⟨.inr (by show @Ne Nat (L + 1 + 1 + 1 + 1 + 1) (L + 1 + 1 + 1 + 1); omega), List.forall_mem_cons.mpr ⟨.inr (by show @Ne Nat (L + 1 + 1 + 1 + 1 + 1 + 1) (L + 1 + 1 + 1 + 1); omega), List.forall_mem_cons.mpr ⟨.inr (by show @Ne Nat (L + 1 + 1 + 1 + 1 + 1 + 1 + 1) (L + 1 + 1 + 1 + 1); omega), List.forall_mem_cons.mpr ⟨.inr (by show @Ne Nat (L + 1 + 1 + 1 + 1 + 1 + 1 + 1 + 1) (L + 1 + 1 + 1 + 1); omega), fun p hp => nomatch hp⟩⟩⟩⟩⟩⟩⟩⟩⟩⟩) Q E ?_
  intro ah n4 o4 h12 k12 K12 d4 F12 N12
  clear F11 N11
  have y3 : u3 ≠ 0 := Nat.ne_of_gt (Nat.lt_of_le_of_lt (Nat.zero_le _) U1.1)
  have y4 : u4 ≠ 0 := Nat.ne_of_gt (Nat.lt_of_le_of_lt (Nat.zero_le _) U2.1)
  have kk : k10 ≤ k12 := Nat.le_trans K11 K12
  refine law_loops w mean mg mb h₀ base Z fa cd L D b9 aw ac ys ws bs nb 3 nk z1 z2 z3 H2 S2 u3 u4 _ o1 o2 hI hB hx eH eS y3 y4 d1 d2 ah n4 o4 o5 o6 o7 o8 none none none none ({ s with heap := h12, toks := k12, gens := g6 }) _ (Nat.lt_of_lt_of_le U1.2 kk) (Nat.lt_of_lt_of_le U2.2 kk) G6 d4 d5 d6 d7 d8 ((if_neg (by decide)).trans ((if_neg (by decide)).trans ((if_neg (by decide)).trans (if_pos rfl)))) ((if_neg (by decide)).trans (if_pos rfl)) (if_pos rfl) F12 (newsC (N12 _ (.head _)) (newsC (N12 _ (.tail _ (.head _))) (newsC (N12 _ (.tail _ (.tail _ (.tail _ (.tail _ (.tail _ (.tail _ (.tail _ (.tail _ (.head _)))))))))) (newsC (N12 _ (.tail _ (.tail _ (.tail _ (.tail _ (.tail _ (.tail _ (.tail _ (.tail _ (.tail _ (.head _))))))))))) (newsC (N12 _ (.tail _ (.tail _ (.tail _ (.tail _ (.tail _ (.tail _ (.tail _ (.tail _ (.tail _ (.tail _ (.head _)))))))))))) (newsC (N12 _ (.tail _ (.tail _ (.tail _ (.tail _ (.tail _ (.tail _ (.tail _ (.tail _ (.tail _ (.tail _ (.tail _ (.head _))))))))))))) (newsC (N12 _ (.tail _ (.tail _ (.tail _ (.tail _ (.tail _ (.tail _ (.tail _ (.head _))))))))) (newsC (N12 _ (.tail _ (.tail _ (.tail _ (.tail _ (.head _)))))) (newsC (N12 _ (.tail _ (.tail _ (.tail _ (.tail _ (.tail _ (.head _))))))) (newsC (N12 _ (.tail _ (.tail _ (.tail _ (.tail _ (.tail _ (.tail _ (.head _)))))))) (newsC (N12 _ (.tail _ (.tail _ (.tail _ (.head _))))) (newsC (N12 _ (.tail _ (.tail _ (.head _)))) (newsNil))))))))))))) Q E hE ?_
  intro ah2 n5 o42 h13 k13 g13 m13 G13 d42 hfair F13 N13
  clear F12 N12
  obtain ⟨f1, f2, f3, f4⟩ := fair_all hB
  rw [f2, f3, f4] at N13
  rw [f1] at hfair
  refine law_end w mean mg mb h₀ base Z fa cd L ah2 n5 ({ s with heap := h13, toks := k13, gens := g13 }) _ o42 d42 (fr_pull F13 hfair) N13 Q E ?_
  intro h14 k14 F14
  exact hQ h14 k14 g13 _ G13 F14
end Mine

end
section
open PySem PySem.W PyProof.Rows PySem.Calls
namespace Mine
theorem fresh_E3 : True := by
  w_top off
  k_with_none
  k_with "omega" => lia
  trivial
theorem allBare {G : Array GenState} (h : leftWithCleanup G = false) : AllBare G := by
  unfold leftWithCleanup at h
  rw [Array.any_eq_false'] at h
  intro x hx
  have := h x hx
  cases x <;> simp_all [GenState.bare]
end Mine
end
open PySem PySem.W PyProof.Rows PySem.Calls
set_option maxRecDepth 100000 in
set_option maxHeartbeats 8000000 in
theorem PySem.Challenge.cw_sr0007_01_holds : PySem.Challenge.rw_sr0007_01.Holds := by
  refine Mine.hd ?_
  k_fill
  intro w s₀ s₁ mg mb G Y fa o pm cd doc dV kV ho hd hcd hD hmg hg args vals as hpre hlay hrd hwl hlo
  have KX := kIn_of Y
  refine Ground.open G ?_
  intro T B D TE TW
  try (refine guard_noD D (by decide +kernel) ?_; clear D)
  have TA := at_of_top T
  clear hmg
  wrow_args hpre hlay hrd hwl hlo
  refine enter_call ?_
  w_top on
  have K0 := below_caller (Top.heap T)
  w_call any ho hd hcd hD T F
  clear hd TA
  k_drop
  k_fold
  rename_i ns hs hlay0 hL1 hr1 hl2 w12 w11 l vs w8 hL ra w1 r0 hI hr hcond1 hcond h1 tk1 p8 p7 p6 p5 p4 p3 p2 p1 e8 e7 e6 e5 e4 e3 e2 e1 N0 X0
  have d8 : p8.data = .cell none := e8
  have d7 : p7.data = .cell none := e7
  have d6 : p6.data = .cell none := e6
  have d5 : p5.data = .cell none := e5
  have d4 : p4.data = .cell none := e4
  have d3 : p3.data = .cell none := e3
  have d2 : p2.data = .cell none := e2
  have d1 : p1.data = .cell none := e1
  clear e1 e2 e3 e4 e5 e6 e7 e8 X0
  have F' := Mine.fr_pull F (x := Str.ofString "script") (v := some (.ref l)) (by rfl)
  have N' : News s₁.heap s₁.heap.objs.size h1 ((s₁.heap.objs.size + 1, p1) :: (s₁.heap.objs.size + 1 + 1, p2) :: (s₁.heap.objs.size + 1 + 1 + 1, p3) :: (s₁.heap.objs.size + 1 + 1 + 1 + 1, p4) :: (s₁.heap.objs.size + 1 + 1 + 1 + 1 + 1, p5) :: (s₁.heap.objs.size + 1 + 1 + 1 + 1 + 1 + 1, p6) :: (s₁.heap.objs.size + 1 + 1 + 1 + 1 + 1 + 1 + 1, p7) :: (s₁.heap.objs.size + 1 + 1 + 1 + 1 + 1 + 1 + 1 + 1, p8) :: []) :=
    fun p hp => N0 p (by simp only [List.mem_cons, List.not_mem_nil, or_false] at hp ⊢; rcases hp with h | h | h | h | h | h | h | h <;> simp [h])
  have Z : Mine.Here w (ExcName.means s₀.heap) mg mb s₁.heap s₁.heap := ⟨K0, KX, T, KX, T⟩
  refine (show Mine.LawGo 0 w s₁.heap.objs.size fa _ qk ek _ from ?_)
  refine Mine.law_all w _ mg mb s₁.heap s₁.heap Z fa _ s₁.heap.objs.size l vs ns hI (by omega) _ _ p1 p2 p3 p4 p5 p6 p7 p8 d1 d2 d3 d4 d5 d6 d7 d8 hL ?_ F' N' qk ek ?_ ?_
  · show leftWithCleanup s₁.gens = false
    rw [hg]; simp [leftWithCleanup]
  · passes_own
  · intro h' tk g m' G' Fm
    show GoodWG _ _ _ _ s₁ (.ok (.ret (.bool true))) _
    refine ⟨.inl ⟨.bool true, .bool true, [], rfl, fun _ => rfl, .bool _, (by first | (with_unfolding_all rfl) | decide | (unfold OpenRow.toRowW; rfl) | (simp [RowW.claim, OpenLaw.row]; done) | (show (_ && _) = true; kernel_rfl)), fun _ => ⟨.nil, fun a ha => nomatch ha⟩⟩, .of_keep Fm.keep, rfl, Mine.allBare G'⟩
