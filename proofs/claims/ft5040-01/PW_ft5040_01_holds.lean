import PyProof.Rows.All
import Wide.All
import OpenK.AllK
import Wide.FinOn
import PyProof.ExcInit
import PyProof.InstStore
import PyProof.InstStoreFacts
import PySem.Challenge.RW_ft5040_01
open PySem PySem.W PyProof.Rows PySem.Calls
set_option Elab.async false
set_option maxRecDepth 100000
namespace Mine
section
set_option maxHeartbeats 8000000 in
open_top hd for PySem.Challenge.rw_ft5040_01
end
theorem againHd {M : Model} {A : Around} {Q : Unit → Shared → Prop} {E : Value → Shared → Prop} {s : Shared} (h : wpAny M A (pure ()) Q E s) : wpAny M A (pure ()) Q E s := by
  w_top off
  first | (walk1; fail) | exact h
section
abbrev prg : Program := PySem.Challenge.rw_ft5040_01.row.prog
theorem warm : (fun (_ : OpenLaw) (_ : Params → Frag) => True) PySem.Challenge.rw_ft5040_01 hd.heap_39 := by k_fill; trivial
abbrev dataObj (hsh : Int) (tk : Tok) (l : Addr) : Obj := dictOf [{ hash := hsh, key := .str (Str.ofString "data") tk, val := .ref l }] 1

/-- a call's contract for whatever caller -/
def Ctr (w : World) (f : Addr) (args : List Value) (news : List (Addr × Obj)) (dd uu : Nat) (post : Value → List (Addr × Obj) → Prop) : Prop :=
  ∀ (dp un : Nat) (gd : Option (List Code)) (cn : Str) (cs : Scope) (a : Addr) (ccd : Value) (cl : List (Str × Addr)) (outer : List Env) (A₀ : Around) (base h₀ : Heap) (L : Addr) (m : Str → Option Value) (s : Shared)
    (p : Program) (loose : List Str) (mean : ExcName → Option Value) (mg mb : Str → Option Value) (Q E : Value → Shared → Prop),
    Below A₀ base outer h₀ → Fr h₀ L s.heap m → (hd.heap_39 w.params).In h₀ → News h₀ L s.heap news → Top p loose mean mg mb h₀ → cs.kind = .function → dp + dd < recursionLimit → un + uu < cLine →
    (∀ r news' h' tk', post r news' → Fr h₀ L h' m → News h₀ L h' news' → Q r { s with heap := h', toks := tk' }) →
    wpAny (model prg w) (ktrTop dp un gd cn cs L a ccd cl outer) (call (.ref f) args) Q E s
end
theorem againB0 {M : Model} {A : Around} {Q : Unit → Shared → Prop} {E : Value → Shared → Prop} {s : Shared} (h : wpAny M A (pure ()) Q E s) : wpAny M A (pure ()) Q E s := by
  w_top off
  first | (walk1; fail) | exact h
section
/-- a thing that 'is' may look at: None, or an object of the ledger that is no tuple -/
def Th (news : List (Addr × Obj)) (v : Value) : Prop := v = .none ∨ ∃ a o, v = .ref a ∧ (a, o) ∈ news ∧ o.cls ≠ .type "tuple"
theorem Th.mono {n n' : List (Addr × Obj)} {v : Value} (h : Th n v) (hs : ∀ p ∈ n, p ∈ n') : Th n' v := by
  rcases h with h | ⟨a, o, e, hm, hc⟩
  · exact .inl h
  · exact .inr ⟨a, o, e, hs _ hm, hc⟩
theorem Th.cons {n : List (Addr × Obj)} {q : Addr × Obj} {v : Value} (h : Th n v) : Th (q :: n) v := h.mono fun _ hp => List.mem_cons_of_mem _ hp
theorem Th.consAll {n : List (Addr × Obj)} {q : Addr × Obj} {vs : List Value} (h : ∀ v ∈ vs, Th n v) : ∀ v ∈ vs, Th (q :: n) v := fun v hv => (h v hv).cons
theorem news_rot {h₀ h : Heap} {L : Addr} {c x d l : Addr × Obj} {r : List (Addr × Obj)} (N : News h₀ L h (c :: x :: d :: l :: r)) : News h₀ L h (x :: d :: l :: c :: r) := fun p hp => N p (by
  simp only [List.mem_cons] at hp ⊢
  rcases hp with h | h | h | h | h <;> simp [h])
theorem isSame_th {M : Model} {A : Around} {E : Value → Shared → Prop} {s : Shared} {a b : Value} {h₀ : Heap} {L : Addr} {news : List (Addr × Obj)} {R : Bool → Shared → Prop}
    (N : News h₀ L s.heap news) (ha : Th news a) (hb : Th news b) (h : R (decide (a = b)) s) : wpAny M A (isSame a b) R E s := by
  rcases ha with rfl | ⟨x, ox, rfl, hx, hxc⟩
  · exact wpAny_isSame_plain (by cases b <;> rcases hb with hb | ⟨_, _, hb, _⟩ <;> first | rfl | cases hb) (by rw [show (Value.none == b) = decide (Value.none = b) from rfl]; exact h)
  · rcases hb with rfl | ⟨y, oy, rfl, hy, hyc⟩
    · exact wpAny_isSame_plain rfl h
    · by_cases e : x = y
      · subst e; refine wpAny_isSame_ref_self ?_; simpa using h
      · exact wpAny_isSame_ref_other e (N.get hx) (N.get hy) hxc (by rw [show decide (Value.ref x = Value.ref y) = false from decide_eq_false (fun q => e (Value.ref.inj q))] at h; exact h)
theorem is_th {M : Model} {A : Around} {E : Value → Shared → Prop} {s : Shared} {a b : Value} {h₀ : Heap} {L : Addr} {news : List (Addr × Obj)} {Q : Value → Shared → Prop}
    (N : News h₀ L s.heap news) (ha : Th news a) (hb : Th news b) (h : Q (.bool (decide (a = b))) s) : wpAny M A (compareOp .Is a b) Q E s := by
  show wpAny M A (do return .bool (← isSame a b)) Q E s
  exact wpAny_bind (isSame_th N ha hb (wpAny_pure h))
theorem isNot_th {M : Model} {A : Around} {E : Value → Shared → Prop} {s : Shared} {a b : Value} {h₀ : Heap} {L : Addr} {news : List (Addr × Obj)} {Q : Value → Shared → Prop}
    (N : News h₀ L s.heap news) (ha : Th news a) (hb : Th news b) (h : Q (.bool (!decide (a = b))) s) : wpAny M A (compareOp .IsNot a b) Q E s := by
  show wpAny M A (do return .bool (!(← isSame a b))) Q E s
  exact wpAny_bind (isSame_th N ha hb (wpAny_pure h))

section
variable {prog : Program} {w : World} {A : Around} {h₀ : Heap} {L : Addr} {m : Str → Option Value} {env : Env} {ct elt : PySem.Expr} {x : Str} {scope : Scope} {cl : List (Str × Addr)} {s : Shared} {S : List (Addr × Obj) → Prop} {Fin : List Value → List (Addr × Obj) → Prop} {news : List (Addr × Obj)}
/-- a comprehension over a made list of whatever values, its element a function of the item -/
theorem comp_vals {vs : List Value} (f : Value → Value)
    (turn : ∀ v I oI C oC D m₂ ys h tk (E' : Value → Shared → Prop), v ∈ vs → LCg.NsObj oC m₂ → m₂ x = some v → Fr h₀ L h m → News h₀ L h ((I, oI) :: (C, oC) :: (D, LCg.lst ys) :: news) → LCg.Off3 I C D news → ((@Ne Nat I C) ∧ (@Ne Nat I D) ∧ (@Ne Nat C D)) →
      wpAny (model prog w) A (eval elt (compEnvC scope cl C env)) (LCg.CompEnd h₀ L m { s with heap := h, toks := tk } I oI C oC D (LCg.lst ys) S (fun y news' => y = f v ∧ news' = news)) E' { s with heap := h, toks := tk })
    (fin : Fin (vs.map f) news) : LCg.CompRest prog w A h₀ L m env elt x scope cl s S (fun i v => vs.toArray[i]? = some v) Fin vs.toArray.size 0 [] news := by
  have key : ∀ (j i : Nat), i + j = vs.length → LCg.CompRest prog w A h₀ L m env elt x scope cl s S (fun i v => vs.toArray[i]? = some v) Fin j i ((vs.take i).map f) news := by
    intro j
    induction j with
    | zero =>
      intro i hi
      have e : i = vs.length := by omega
      subst e
      rw [List.take_length]
      exact LCg.CompRest.zero fin
    | succ j ih =>
      intro i hi
      refine LCg.CompRest.succ ?_
      intro v I oI C oC D m₂ h tk E' hv hC hx F N off ne
      have hv' : vs[i]? = some v := by simpa using hv
      refine wpAny_mono (turn v I oI C oC D m₂ _ h tk E' (List.mem_of_getElem? hv') hC hx F N off ne) (fun y s₂ hq => ?_) fun _ _ e => e
      obtain ⟨h', tk', nw, e, F', N', off', hS, rfl, hn⟩ := hq
      rw [hn] at N' off' hS
      refine ⟨h', tk', news, e, F', N', off', hS, ?_⟩
      have e2 : (vs.take i).map f ++ [f v] = (vs.take (i + 1)).map f := by rw [List.take_add_one, hv']; simp
      dsimp only
      rw [e2]
      exact ih (i + 1) (by omega)
  have := key vs.length 0 (by omega)
  simpa using this
/-- the same with a test: the items that pass are kept -/
theorem comp_filter {vs : List Value} (q : Value → Bool) (f : Value → Value)
    (turn : ∀ v I oI C oC D m₂ ys h tk (E' : Value → Shared → Prop), v ∈ vs → LCg.NsObj oC m₂ → m₂ x = some v → Fr h₀ L h m → News h₀ L h ((I, oI) :: (C, oC) :: (D, LCg.lst ys) :: news) → LCg.Off3 I C D news → ((@Ne Nat I C) ∧ (@Ne Nat I D) ∧ (@Ne Nat C D)) →
      wpAny (model prog w) A (isTrue ct (compEnvC scope cl C env) (eval ct (compEnvC scope cl C env))) (fun ok s' => ok = q v ∧ if ok = true then
        wpAny (model prog w) A (eval elt (compEnvC scope cl C env)) (LCg.CompEnd h₀ L m { s with heap := h, toks := tk } I oI C oC D (LCg.lst ys) S (fun y news' => y = f v ∧ news' = news)) E' s'
        else LCg.CompEnd h₀ L m { s with heap := h, toks := tk } I oI C oC D (LCg.lst ys) S (fun _ news' => news' = news) Value.none s') E' { s with heap := h, toks := tk })
    (fin : Fin ((vs.filter q).map f) news) : LCt.CompRestT prog w A h₀ L m env ct elt x scope cl s S (fun i v => vs.toArray[i]? = some v) Fin vs.toArray.size 0 [] news := by
  have key : ∀ (j i : Nat), i + j = vs.length → LCt.CompRestT prog w A h₀ L m env ct elt x scope cl s S (fun i v => vs.toArray[i]? = some v) Fin j i (((vs.take i).filter q).map f) news := by
    intro j
    induction j with
    | zero =>
      intro i hi
      have e : i = vs.length := by omega
      subst e
      rw [List.take_length]
      exact LCt.CompRestT.zero fin
    | succ j ih =>
      intro i hi
      refine LCt.CompRestT.succ ?_
      intro v I oI C oC D m₂ h tk E' hv hC hx F N off ne
      have hv' : vs[i]? = some v := by simpa using hv
      refine wpAny_mono (turn v I oI C oC D m₂ _ h tk E' (List.mem_of_getElem? hv') hC hx F N off ne) (fun ok s₂ hq => ?_) fun _ _ e => e
      obtain ⟨hok, hq⟩ := hq
      cases ok with
      | true =>
        simp only [if_true] at hq ⊢
        refine wpAny_mono hq (fun y s₃ hr => ?_) fun _ _ e => e
        obtain ⟨h', tk', nw, e, F', N', off', hS, rfl, hn⟩ := hr
        rw [hn] at N' off' hS
        refine ⟨h', tk', news, e, F', N', off', hS, ?_⟩
        have e2 : ((vs.take i).filter q).map f ++ [f v] = ((vs.take (i + 1)).filter q).map f := by rw [List.take_add_one, hv']; simp [← hok]
        dsimp only
        rw [e2]
        exact ih (i + 1) (by omega)
      | false =>
        simp only [Bool.false_eq_true, if_false] at hq ⊢
        obtain ⟨h', tk', nw, e, F', N', off', hS, hn⟩ := hq
        rw [hn] at N' off' hS
        refine ⟨h', tk', news, e, F', N', off', hS, ?_⟩
        have e2 : ((vs.take i).filter q).map f = ((vs.take (i + 1)).filter q).map f := by rw [List.take_add_one, hv']; simp [← hok]
        dsimp only
        rw [e2]
        exact ih (i + 1) (by omega)
  have := key vs.length 0 (by omega)
  simpa using this
end
theorem boolsAre_map (q : Value → Bool) : ∀ vs : List Value, LSm.BoolsAre (vs.map fun v => .bool (q v)) (vs.map q)
  | [] => .nil
  | v :: r => .cons _ (boolsAre_map q r)
theorem Ctr.use {w : World} {f : Addr} {args : List Value} {news : List (Addr × Obj)} {dd uu : Nat} {post : Value → List (Addr × Obj) → Prop} (C : Ctr w f args news dd uu post)
    {dp un : Nat} {gd : Option (List Code)} {cn : Str} {cs : Scope} {a : Addr} {ccd : Value} {cl : List (Str × Addr)} {outer : List Env} {A₀ : Around} {base h₀ : Heap} {L : Addr} {m : Str → Option Value} {s : Shared}
    {p : Program} {loose : List Str} {mean : ExcName → Option Value} {mg mb : Str → Option Value} {Q E : Value → Shared → Prop}
    (B : Below A₀ base outer h₀) (F : Fr h₀ L s.heap m) (X : (hd.heap_39 w.params).In h₀) (N : News h₀ L s.heap news) (T : Top p loose mean mg mb h₀) (hk : cs.kind = .function) (hd : dp + dd < recursionLimit) (hu : un + uu < cLine)
    (ret : ∀ r news' h' tk', post r news' → Fr h₀ L h' m → News h₀ L h' news' → Q r { s with heap := h', toks := tk' }) :
    wpAny (model prg w) (ktrTop dp un gd cn cs L a ccd cl outer) (call (.ref f) args) Q E s := C _ _ _ _ _ _ _ _ _ _ _ _ _ _ _ _ _ _ _ _ _ _ B F X N T hk hd hu ret
section
variable {prog : Program} {w : World} {A : Around} {E : Value → Shared → Prop} {s : Shared} {h₀ : Heap} {L D : Addr} {m : Str → Option Value} {news news' : List (Addr × Obj)} {vs : List Value} {n n' : Nat} {Q : Value → Shared → Prop}
theorem clear_any (F : Fr h₀ L s.heap m) (N : News h₀ L s.heap news) (e : Obj.mapSeq (fun _ => #[]) (W.listOf vs.toArray n) = W.listOf #[] n') (U : Upd D (W.listOf vs.toArray n) (W.listOf #[] n') news news') (hz : vs.length ≤ sizeLine)
    (h : ∀ h', Fr h₀ L h' m → News h₀ L h' news' → Q .none { s with heap := h' }) : wpAny (model prog w) A (call (.builtin "list.clear") [.ref D]) Q E s := by
  obtain ⟨pre, post, rfl, rfl, a, c⟩ := U.split
  have z := N (D, W.listOf vs.toArray n) (List.mem_append.mpr (.inr (.head _)))
  obtain ⟨F', N'⟩ := news_upd F N a c e rfl
  exact call_meets PySem.F.slot_list_clear ⟨_, z.1, rfl⟩ PySem.F.entry_list_clear (PySem.F.args_list_clear_1 _) (PySem.AutoSeq1.list_clear_list_0 D vs.toArray n (by simpa using hz)) ⟨z.1, h _ F' N'⟩
theorem reverse_any (F : Fr h₀ L s.heap m) (N : News h₀ L s.heap news) (U : Upd D (W.listOf vs.toArray n) (W.listOf vs.reverse.toArray n) news news') (hz : vs.length ≤ sizeLine)
    (h : ∀ h', Fr h₀ L h' m → News h₀ L h' news' → Q .none { s with heap := h' }) : wpAny (model prog w) A (call (.builtin "list.reverse") [.ref D]) Q E s := by
  obtain ⟨pre, post, rfl, rfl, a, c⟩ := U.split
  have z := N (D, W.listOf vs.toArray n) (List.mem_append.mpr (.inr (.head _)))
  obtain ⟨F', N'⟩ := news_upd (f := Obj.mapSeq fun x => x.reverse) F N a c (o' := W.listOf vs.reverse.toArray n) (by simp [Obj.mapSeq]) rfl
  exact call_meets PySem.F.slot_list_reverse ⟨_, z.1, rfl⟩ PySem.F.entry_list_reverse (PySem.F.args_list_reverse_1 _) (PySem.AutoSeq1.list_reverse_list_0 D vs.toArray n (by simpa using hz)) ⟨z.1, h _ F' N'⟩
end
theorem len_of {prog : Program} {w : World} {A : Around} {E : Value → Shared → Prop} {s : Shared} {l : Addr} {vs : List Value} {Q : Value → Shared → Prop} (hl : s.heap.IsList l vs.toArray) (hz : vs.length ≤ 16384) (h : Q (.int (vs.length : Int) (s.toks + 1)) { s with toks := s.toks + 1 + 1 }) :
    wpAny (model prog w) A (call (.builtin "len") [.ref l]) Q E s := len_list hl (by rw [List.size_toArray]; omega) (by rw [List.size_toArray]; exact h)
/-- the walk halts here -/
structure Stop (P : Prop) : Prop where
  out : P
theorem off1_mem {D : Addr} : ∀ {l : List (Addr × Obj)}, LCg.Off1 D l → ∀ q ∈ l, @Ne Nat q.1 D
  | [], _, _, h => nomatch h
  | _ :: _, x, q, h => by
    rcases List.mem_cons.mp h with rfl | h
    · exact x.1
    · exact off1_mem x.2 q h
theorem any_contains (vs : List Value) (ob : Value) : (vs.map fun v => decide (v = ob)).any id = vs.contains ob := by
  induction vs with
  | nil => rfl
  | cons v r ih =>
    simp only [List.map_cons, List.any_cons, List.contains_cons, id_eq]
    rw [ih]
    congr 1
    by_cases h : v = ob
    · subst h; simp
    · have h' : ¬ ob = v := fun e => h e.symm
      rw [decide_eq_false h]
      exact (beq_eq_false_iff_ne.mpr h').symm
end
theorem againB1 {M : Model} {A : Around} {Q : Unit → Shared → Prop} {E : Value → Shared → Prop} {s : Shared} (h : wpAny M A (pure ()) Q E s) : wpAny M A (pure ()) Q E s := by
  w_top off
  first | (walk1; fail) | exact h
section
abbrev pk (tv : List Value) (k : Int) : Value := tv.getD k.toNat .none
theorem pk_mem {tv : List Value} (htv : tv.length = 7) {k : Int} (h : 0 ≤ k ∧ k < 7) : pk tv k ∈ tv := by
  have hj : k.toNat < tv.length := by omega
  show tv.getD k.toNat .none ∈ tv
  rw [List.getD, List.getElem?_eq_getElem hj, Option.getD_some]
  exact List.getElem_mem _
theorem pk_inj {tv : List Value} (htv : tv.length = 7) (hnd : tv.Nodup) {a b : Int} (ha : 0 ≤ a ∧ a < 7) (hb : 0 ≤ b ∧ b < 7) (h : pk tv a = pk tv b) : a = b := by
  have h1 : a.toNat < tv.length := by omega
  have h2 : b.toNat < tv.length := by omega
  have h' : tv.getD a.toNat .none = tv.getD b.toNat .none := h
  rw [List.getD, List.getD, List.getElem?_eq_getElem h1, List.getElem?_eq_getElem h2, Option.getD_some, Option.getD_some] at h'
  have P := List.pairwise_iff_getElem.mp hnd
  rcases Nat.lt_trichotomy a.toNat b.toNat with q | q | q
  · exact absurd h' (P a.toNat b.toNat h1 h2 q)
  · omega
  · exact absurd h'.symm (P b.toNat a.toNat h2 h1 q)
theorem pk_eq {tv : List Value} (htv : tv.length = 7) (hnd : tv.Nodup) {a b : Int} (ha : 0 ≤ a ∧ a < 7) (hb : 0 ≤ b ∧ b < 7) : decide (pk tv a = pk tv b) = (a == b) := by
  by_cases e : a = b
  · subst e; simp
  · rw [decide_eq_false (fun q => e (pk_inj htv hnd ha hb q))]
    exact (beq_eq_false_iff_ne.mpr e).symm
theorem contains_pk {tv : List Value} (htv : tv.length = 7) (hnd : tv.Nodup) {k : Int} (hk : 0 ≤ k ∧ k < 7) : ∀ {R : List Int}, (∀ a ∈ R, 0 ≤ a ∧ a < 7) → (R.map fun a => tv.getD a.toNat .none).contains (tv.getD k.toNat .none) = R.any fun x => x == k
  | [], _ => rfl
  | a :: r, h => by
    have ih := contains_pk htv hnd hk (R := r) fun b hb => h b (List.mem_cons_of_mem _ hb)
    have ha := h a List.mem_cons_self
    simp only [List.map_cons, List.contains_cons, List.any_cons]
    rw [ih]
    congr 1
    have := pk_eq htv hnd hk ha
    rw [show (tv.getD k.toNat .none == tv.getD a.toNat .none) = decide (pk tv k = pk tv a) from by
      by_cases e : pk tv k = pk tv a
      · rw [decide_eq_true e]; exact beq_iff_eq.mpr e
      · rw [decide_eq_false e]; exact beq_eq_false_iff_ne.mpr e, this]
    by_cases e : k = a
    · subst e; rfl
    · rw [beq_eq_false_iff_ne.mpr e]; exact (beq_eq_false_iff_ne.mpr (Ne.symm e)).symm
end
theorem againP1 {M : Model} {A : Around} {Q : Unit → Shared → Prop} {E : Value → Shared → Prop} {s : Shared} (h : wpAny M A (pure ()) Q E s) : wpAny M A (pure ()) Q E s := by
  w_top off
  first | (walk1; fail) | exact h
section
theorem allLt_ne {D : Addr} : ∀ {l : List (Addr × Obj)}, AllLt D l → ∀ q ∈ l, @LT.lt Nat _ q.1 D
  | [], _, _, h => nomatch h
  | _ :: _, x, q, h => by
    rcases List.mem_cons.mp h with rfl | h
    · exact x.1
    · exact allLt_ne x.2 q h
set_option maxHeartbeats 4000000 in
theorem awl (w : World) (x dx l : Addr) (hsh : Int) (tk : Tok) (n : Nat) (vs : List Value) (rest : List (Addr × Obj)) (hvs : vs.length ≤ 100) :
    Ctr w 73 [.ref x] ((x, instObj 76 dx) :: (dx, dataObj hsh tk l) :: (l, W.listOf vs.toArray n) :: rest) 3 10
      (fun r news' => ∃ D c, r = .ref D ∧ news' = (D, W.listOf vs.toArray c) :: ((x, instObj 76 dx) :: (dx, dataObj hsh tk l) :: (l, W.listOf vs.toArray n) :: rest) ∧ (@LT.lt Nat _ x D ∧ @LT.lt Nat _ dx D ∧ @LT.lt Nat _ l D ∧ AllLt D rest)) := by
  intro dp un gd cn cs a ccd cl outer A₀ base h₀ L m s p loose mean mg mb Q E B F X N T hk hd hu ret
  refine wpAny_call ?_
  k_dflt ktr_enter
  k_steps
  (rename Fr _ _ _ _ => kF); (rename News _ _ _ _ => kN)
  exact ret _ _ _ _ ⟨_, _, rfl, rfl, by assumption⟩ kF kN
local macro_rules | `(tactic| walk_at "call builtin:len") => `(tactic| (k_here; (with_reducible show wpAny _ _ (call (Value.builtin "len") [Value.ref _]) _ _ _); k_dflt (refine' len_of ?k1 ?k2 ?_; (case k1 => exact News.isList (by k_asm) (by k_mem)); (case k2 => first | omega | (simp only [List.length_map]; omega)); k_whole)))
set_option maxHeartbeats 4000000 in
theorem lenC (w : World) (x dx l : Addr) (hsh : Int) (tk : Tok) (n : Nat) (vs : List Value) (rest : List (Addr × Obj)) (hvs : vs.length ≤ 100) :
    Ctr w 35 [.ref x] ((x, instObj 76 dx) :: (dx, dataObj hsh tk l) :: (l, W.listOf vs.toArray n) :: rest) 3 10
      (fun r news' => (∃ t, r = .int (vs.length : Int) t) ∧ news' = ((x, instObj 76 dx) :: (dx, dataObj hsh tk l) :: (l, W.listOf vs.toArray n) :: rest)) := by
  intro dp un gd cn cs a ccd cl outer A₀ base h₀ L m s p loose mean mg mb Q E B F X N T hk hd hu ret
  refine wpAny_call ?_
  k_dflt ktr_enter
  k_steps
  (rename Fr _ _ _ _ => kF); (rename News _ _ _ _ => kN)
  exact ret _ _ _ _ ⟨⟨_, rfl⟩, rfl⟩ kF kN
end
theorem againT1 {M : Model} {A : Around} {Q : Unit → Shared → Prop} {E : Value → Shared → Prop} {s : Shared} (h : wpAny M A (pure ()) Q E s) : wpAny M A (pure ()) Q E s := by
  w_top off
  first | (walk1; fail) | exact h
section
local macro_rules | `(tactic| ktr_enter) => `(tactic| (refine' code_defC ?k1 ?k2 ?k3 ?k4 ?k5 ?kA ?kF ?kK ?k6 ?k7 ?k8 ?k9 ?kB ?kD ?_ ?c2 ?c3 ?c4; (case kA => exact rfl); (case kF => exact rfl); (case kK => assumption); (case k1 => k_asm); (case k2 => k_asm); (case k3 => k_asm); (case k4 => k_asm); (case k5 => k_asm); (case k6 => k_is); (case k7 => k_is); (case k8 => ktr_room); (case k9 => exact BindsTo.of_eq rfl); (case kB => exact rfl); (case kD => decide +kernel); (case c2 => exact rfl); (case c3 => exact rfl); (case c4 => exact rfl); k_whole; intro g' L' h' tk' cells' FG' F' N' Y' B' X' T' l1; (try k_lt l1); k_cells Y'; (try simp only [List.cons_append, List.nil_append] at N'); (try dsimp only); (try k_lift B'); (try k_fold)))
local macro_rules | `(tactic| walk_at "eval ListComp") => `(tactic| (k_here; k_dflt (refine LCg.ListComp_U (F₀ := by k_asm) (by with_unfolding_all rfl) (by decide) (by rfl) (by decide) (by rfl) ?_)))
set_option maxHeartbeats 4000000 in
theorem con (w : World) (x dx l : Addr) (hsh : Int) (tk : Tok) (n : Nat) (vs : List Value) (ob : Value) (rest : List (Addr × Obj)) (hvs : vs.length ≤ 100) (hth : ∀ v ∈ vs, Th rest v) (hob : Th rest ob) :
    Ctr w 40 [.ref x, ob] ((x, instObj 76 dx) :: (dx, dataObj hsh tk l) :: (l, W.listOf vs.toArray n) :: rest) 3 10
      (fun r news' => r = .bool (vs.contains ob) ∧ news' = ((x, instObj 76 dx) :: (dx, dataObj hsh tk l) :: (l, W.listOf vs.toArray n) :: rest)) := by
  intro dp un gd cn cs a ccd cl outer A₀ base h₀ L m s p loose mean mg mb Q E B F X N T hk hd hu ret
  refine wpAny_call ?_
  k_dflt ktr_enter
  k_steps
  refine LCg.CompSrc.ledger (by rfl) (by k_asm) (by k_asm) (by k_mem) (by rw [List.size_toArray, PySem.sizeLine_eq]; omega) ?_
  intro g'
  refine comp_vals (fun v => .bool (decide (v = ob))) ?_ ?_
  · intro v I oI C oC D m₂ ys h tk E' hv hC hx F' N' off ne
    k_steps
    refine is_th (by k_asm) (Th.mono (hth v hv) ?_) (Th.mono hob ?_) ?_
    · intro p hp; simp only [List.mem_cons]; simp [hp]
    · intro p hp; simp only [List.mem_cons]; simp [hp]
    refine LCg.CompEnd.intro (by k_asm) (by k_asm) _ (fun p hp => hp) off ?_ ⟨rfl, rfl⟩
    exact Or.inr ⟨_, by k_mem, rfl, _, rfl⟩
  · intro D h tk F' N' off
    dsimp only
    k_steps
    refine LSm.any_bools (by k_asm) (by k_asm) (by rfl) (by lsm_list) (boolsAre_map (fun v => decide (v = ob)) vs) ?_
    intro h' tk' F' N'
    rw [any_contains]
    k_steps
    (rename Fr _ _ _ _ => kF); (rename News _ _ _ _ => kN)
    exact ret _ _ _ _ ⟨rfl, rfl⟩ kF (cb_drop kN (fun p hp => List.mem_cons_of_mem _ (List.mem_cons_of_mem _ hp)))
local macro_rules | `(tactic| walk_at "call ref") => `(tactic| (k_here; (with_reducible show wpAny _ _ (call (Value.ref 40) _) _ _ _); k_dflt (refine' Ctr.use (con _ _ _ _ _ _ _ _ _ _ ?c1 ?c2 ?c3) ?k1 ?k2 ?k3 ?k4 ?k5 ?k6 ?k7 ?k8 ?_; (case k1 => k_asm); (case k2 => k_asm); (case k3 => k_asm); (case k4 => k_asm); (case k5 => k_asm); (case k6 => exact rfl); (case k7 => ktr_room); (case k8 => ktr_units); (case c1 => assumption); (case c2 => assumption); (case c3 => assumption)); intro r' n' h' tk' hp' F' N'; obtain ⟨hr', hn'⟩ := hp'; subst hr'; subst hn'; (try k_sweep)))
local macro_rules | `(tactic| k_all) => `(tactic| assumption)
set_option maxHeartbeats 4000000 in
theorem addC (w : World) (x dx l : Addr) (hsh : Int) (tk : Tok) (n : Nat) (vs : List Value) (ob : Value) (rest : List (Addr × Obj)) (hvs : vs.length ≤ 100) (hth : ∀ v ∈ vs, Th rest v) (hob : Th rest ob)
    (hxl : @Ne Nat x l) (hdl : @Ne Nat dx l) (hoff : ∀ q ∈ rest, q.1 ≠ l) :
    Ctr w 47 [.ref x, ob] ((x, instObj 76 dx) :: (dx, dataObj hsh tk l) :: (l, W.listOf vs.toArray n) :: rest) 5 30
      (fun _ news' => ∃ n', news' = ((x, instObj 76 dx) :: (dx, dataObj hsh tk l) :: (l, W.listOf (if vs.contains ob then vs else vs ++ [ob]).toArray n') :: rest)) := by
  intro dp un gd cn cs a ccd cl outer A₀ base h₀ L m s p loose mean mg mb Q E B F X N T hk hd hu ret
  refine wpAny_call ?_
  k_dflt ktr_enter
  k_steps
  · have hc : vs.contains ob = true := by assumption
    (rename Fr _ _ _ _ => kF); (rename News _ _ _ _ => kN)
    exact ret _ _ _ _ ⟨n, by rw [if_pos hc]⟩ kF kN
  · have hc : vs.contains ob = false := by assumption
    (rename Fr _ _ _ _ => kF); (rename News _ _ _ _ => kN)
    exact ret _ _ _ _ ⟨n + 1, by rw [if_neg (by rw [hc]; exact Bool.false_ne_true)]; simp only [List.push_toArray]⟩ kF kN
end
theorem againT2 {M : Model} {A : Around} {Q : Unit → Shared → Prop} {E : Value → Shared → Prop} {s : Shared} (h : wpAny M A (pure ()) Q E s) : wpAny M A (pure ()) Q E s := by
  w_top off
  first | (walk1; fail) | exact h
section
local macro_rules | `(tactic| ktr_enter) => `(tactic| (refine' code_defC ?k1 ?k2 ?k3 ?k4 ?k5 ?kA ?kF ?kK ?k6 ?k7 ?k8 ?k9 ?kB ?kD ?_ ?c2 ?c3 ?c4; (case kA => exact rfl); (case kF => exact rfl); (case kK => assumption); (case k1 => k_asm); (case k2 => k_asm); (case k3 => k_asm); (case k4 => k_asm); (case k5 => k_asm); (case k6 => k_is); (case k7 => k_is); (case k8 => ktr_room); (case k9 => exact BindsTo.of_eq rfl); (case kB => exact rfl); (case kD => decide +kernel); (case c2 => exact rfl); (case c3 => exact rfl); (case c4 => exact rfl); k_whole; intro g' L' h' tk' cells' FG' F' N' Y' B' X' T' l1; (try k_lt l1); k_cells Y'; (try simp only [List.cons_append, List.nil_append] at N'); (try dsimp only); (try k_lift B'); (try k_fold)))
local macro_rules | `(tactic| walk_at "eval ListComp") => `(tactic| (k_here; (with_reducible show wpAny _ _ (eval (PySem.Expr.ListComp _ [PySem.Comprehension.mk _ _ (_ :: _) _] _ _) _) _ _ _); k_dflt (refine LCt.ListComp_T (F₀ := by k_asm) (by with_unfolding_all rfl) (by decide) (by rfl) (by decide) (by rfl) ?_)))
local macro_rules | `(tactic| walk_at "call ref") => `(tactic| (k_here; (with_reducible show wpAny _ _ (call (Value.ref 40) _) _ _ _); k_dflt (refine' Ctr.use (con _ _ _ _ _ _ _ _ _ _ ?c1 ?c2 ?c3) ?k1 ?k2 ?k3 ?k4 ?k5 ?k6 ?k7 ?k8 ?_; (case k1 => k_asm); (case k2 => k_asm); (case k3 => k_asm); (case k4 => first | k_asm | exact news_rot (by k_asm)); (case k5 => k_asm); (case k6 => exact rfl); (case k7 => ktr_room); (case k8 => ktr_units); (case c1 => assumption); (case c2 => first | assumption | exact Th.consAll (by assumption)); (case c3 => first | assumption | exact Th.cons (by assumption))); intro r' n' h' tk' hp' F' N'; obtain ⟨hr', hn'⟩ := hp'; subst hr'; subst hn'))
local macro_rules | `(tactic| k_all) => `(tactic| assumption)
set_option maxHeartbeats 4000000 in
theorem remC (w : World) (x dx l : Addr) (hsh : Int) (tk : Tok) (n : Nat) (vs : List Value) (ob : Value) (rest : List (Addr × Obj)) (hvs : vs.length ≤ 100) (hth : ∀ v ∈ vs, Th rest v) (hob : Th rest ob)
    (hxl : @Ne Nat x l) (hdl : @Ne Nat dx l) (hxd : @Ne Nat x dx) (hoff : ∀ q ∈ rest, q.1 ≠ l) (hofd : ∀ q ∈ rest, q.1 ≠ dx) (hin : vs.contains ob = true) :
    Ctr w 52 [.ref x, ob] ((x, instObj 76 dx) :: (dx, dataObj hsh tk l) :: (l, W.listOf vs.toArray n) :: rest) 5 30
      (fun _ news' => ∃ l' n', news' = ((x, instObj 76 dx) :: (dx, dataObj hsh tk l') :: (l', W.listOf (vs.filter fun v => !decide (v = ob)).toArray n') :: rest) ∧ (@Ne Nat x l') ∧ (@Ne Nat dx l') ∧ ∀ q ∈ rest, @Ne Nat q.1 l') := by
  intro dp un gd cn cs a ccd cl outer A₀ base h₀ L m s p loose mean mg mb Q E B F X N T hk hd hu ret
  refine wpAny_call ?_
  k_dflt ktr_enter
  k_steps
  refine LCt.CompSrcT.ledger (by rfl) (by k_asm) (by k_asm) (by k_mem) (by rw [List.size_toArray, PySem.sizeLine_eq]; omega) ?_
  intro g'
  refine comp_filter (fun v => !decide (v = ob)) (fun v => v) ?_ ?_
  · intro v I oI C oC D m₂ ys h tk E' hv hC hx F' N' off ne
    k_steps
    refine isNot_th (by k_asm) (Th.mono (hth v hv) (fun p hp => by simp [hp])) (Th.mono hob (fun p hp => by simp [hp])) ?_
    walk1
    dsimp only
    refine ⟨rfl, ?_⟩
    by_cases e : v = ob
    · rw [if_neg (by simp [e])]
      refine LCg.CompEnd.intro (by k_asm) (by k_asm) _ (fun p hp => hp) off ?_ rfl
      exact Or.inr ⟨_, by k_mem, rfl, _, rfl⟩
    · rw [if_pos (by simp [e])]
      k_steps
      refine LCg.CompEnd.intro (by k_asm) (by k_asm) _ (fun p hp => hp) off ?_ ⟨rfl, rfl⟩
      exact Or.inr ⟨_, by k_mem, rfl, _, rfl⟩
  · intro D h tk F' N' off
    simp only [LCg.Off1] at off
    dsimp only
    rw [List.map_id'] at N'
    have offD := off.2.2.2.2
    k_steps
    (rename Fr _ _ _ _ => kF); (rename News _ _ _ _ => kN)
    refine ret _ _ _ _ ⟨D, (vs.filter fun v => !decide (v = ob)).length, rfl, by omega, by omega, off1_mem offD⟩ kF (cb_drop kN (fun p hp => ?_))
    · simp only [List.mem_cons] at hp ⊢
      rcases hp with h | h | h | h <;> simp [h]
end
theorem againT3 {M : Model} {A : Around} {Q : Unit → Shared → Prop} {E : Value → Shared → Prop} {s : Shared} (h : wpAny M A (pure ()) Q E s) : wpAny M A (pure ()) Q E s := by
  w_top off
  first | (walk1; fail) | exact h
section
local macro_rules | `(tactic| k_all) => `(tactic| assumption)
set_option maxHeartbeats 4000000 in
theorem clrC (w : World) (x dx l : Addr) (hsh : Int) (tk : Tok) (n : Nat) (vs : List Value) (rest : List (Addr × Obj)) (hvs : vs.length ≤ 100)
    (hxl : @Ne Nat x l) (hdl : @Ne Nat dx l) (hoff : ∀ q ∈ rest, q.1 ≠ l) :
    Ctr w 59 [.ref x] ((x, instObj 76 dx) :: (dx, dataObj hsh tk l) :: (l, W.listOf vs.toArray n) :: rest) 5 30
      (fun _ news' => ∃ n', news' = ((x, instObj 76 dx) :: (dx, dataObj hsh tk l) :: (l, W.listOf ([] : List Value).toArray n') :: rest)) := by
  intro dp un gd cn cs a ccd cl outer A₀ base h₀ L m s p loose mean mg mb Q E B F X N T hk hd hu ret
  refine wpAny_call ?_
  k_dflt ktr_enter
  k_steps
  dsimp only
  refine clear_any (by k_asm) (by k_asm) rfl (by k_upd) (by rw [PySem.sizeLine_eq]; omega) ?_
  intro h' F' N'
  k_steps
  (rename Fr _ _ _ _ => kF); (rename News _ _ _ _ => kN)
  exact ret _ _ _ _ ⟨_, rfl⟩ kF kN
end
theorem againT5 {M : Model} {A : Around} {Q : Unit → Shared → Prop} {E : Value → Shared → Prop} {s : Shared} (h : wpAny M A (pure ()) Q E s) : wpAny M A (pure ()) Q E s := by
  w_top off
  first | (walk1; fail) | exact h
section
theorem news_rot2 {h₀ h : Heap} {L : Addr} {c₁ c₂ x d l : Addr × Obj} {r : List (Addr × Obj)} (N : News h₀ L h (c₁ :: c₂ :: x :: d :: l :: r)) : News h₀ L h (x :: d :: l :: c₁ :: c₂ :: r) := fun p hp => N p (by
  simp only [List.mem_cons] at hp ⊢
  rcases hp with h | h | h | h | h | h <;> simp [h])
theorem news_back2 {h₀ h : Heap} {L : Addr} {c₁ c₂ x d l : Addr × Obj} {r : List (Addr × Obj)} (N : News h₀ L h (x :: d :: l :: c₁ :: c₂ :: r)) : News h₀ L h (c₁ :: c₂ :: x :: d :: l :: r) := fun p hp => N p (by
  simp only [List.mem_cons] at hp ⊢
  rcases hp with h | h | h | h | h | h <;> simp [h])
section
variable {prog : Program} {w : World} {A : Around} {E : Value → Shared → Prop} {s : Shared} {env : Env} {h₀ : Heap} {x : Str} {body : List Stmt} {Q : Flow → Shared → Prop}
theorem unrPost_mono {L : Addr} {s₁ : Shared} {I : Addr} {it : Obj} {r r' : (Str → Option Value) → List (Addr × Obj) → Prop} (hr : ∀ m n, r m n → r' m n) {f : Flow} {s₂ : Shared} (h : UnrPost h₀ L s₁ I it r Q f s₂) : UnrPost h₀ L s₁ I it r' Q f s₂ := by
  have e : UnrEnd h₀ L s₁ I it r s₂ → UnrEnd h₀ L s₁ I it r' s₂ := fun ⟨h', tk, m', n', a, b, c, d, q⟩ => ⟨h', tk, m', n', a, b, c, d, hr _ _ q⟩
  cases f with
  | ret v => exact h
  | brk => exact h
  | next => exact e h
  | cont => exact e h
/-- a loop over a range by what holds of the turn's number, the frame and the ledger -/
theorem range_ind {I : Addr} {a : Int} {n : Nat} {m₀ : Str → Option Value} {news₀ : List (Addr × Obj)} (J : Nat → (Str → Option Value) → List (Addr × Obj) → Prop) (h0 : J 0 m₀ news₀)
    (turn : ∀ i m news, i < n → J i m news → ∀ t h tk, Fr h₀ env.locals h (fun y => if y = x then some (.int (a + (i : Int)) t) else m y) →
      News h₀ env.locals h ((I, itR (a + ((i + 1 : Nat) : Int)) ((n : Int) - ((i + 1 : Nat) : Int))) :: news) →
      wpAny (model prog w) A (execs body env) (UnrPost h₀ env.locals { s with heap := h, toks := tk } I (itR (a + ((i + 1 : Nat) : Int)) ((n : Int) - ((i + 1 : Nat) : Int))) (J (i + 1)) Q) E { s with heap := h, toks := tk })
    (done : ∀ m news, J n m news → ∀ h tk, Fr h₀ env.locals h m → News h₀ env.locals h news → Q .next { s with heap := h, toks := tk }) :
    RangeRest prog w A E h₀ env x body Q s I a n n 0 m₀ news₀ := by
  have key : ∀ (j i : Nat) (m : Str → Option Value) (news : List (Addr × Obj)), i + j = n → J i m news → RangeRest prog w A E h₀ env x body Q s I a n j i m news := by
    intro j
    induction j with
    | zero =>
      intro i m news hi hJ
      have e : i = n := by omega
      subst e
      exact RangeRest.zero fun h tk F N => done m news hJ h tk F N
    | succ j ih =>
      intro i m news hi hJ
      refine RangeRest.succ fun t h tk F N => ?_
      exact wpAny_mono (turn i m news (by omega) hJ t h tk F N) (fun f s₂ p => unrPost_mono (fun m' n' q => ih (i + 1) m' n' (by omega) q) p) fun _ _ e => e
  exact key n 0 m₀ news₀ (by omega) h0
/-- the same over a made list of whatever values -/
theorem list_ind {I : Addr} {lp : Addr × Obj} {vs : List Value} {m₀ : Str → Option Value} {news₀ : List (Addr × Obj)} (J : Nat → (Str → Option Value) → List (Addr × Obj) → Prop) (h0 : J 0 m₀ news₀)
    (turn : ∀ i v m news, vs[i]? = some v → J i m news → ∀ (it : Obj) h tk, it.cls = .type "list_iterator" → Fr h₀ env.locals h (fun y => if y = x then some v else m y) → News h₀ env.locals h ((I, it) :: news) →
      wpAny (model prog w) A (execs body env) (UnrPost h₀ env.locals { s with heap := h, toks := tk } I it (fun m' n' => lp ∈ n' ∧ J (i + 1) m' n') Q) E { s with heap := h, toks := tk })
    (done : ∀ m news, J vs.length m news → ∀ h tk, Fr h₀ env.locals h m → News h₀ env.locals h news → Q .next { s with heap := h, toks := tk }) :
    ListRest prog w A E h₀ env x body Q s I lp vs m₀ news₀ := by
  have key : ∀ (r : List Value) (i : Nat) (m : Str → Option Value) (news : List (Addr × Obj)), vs.drop i = r → J i m news → i + r.length = vs.length → ListRest prog w A E h₀ env x body Q s I lp r m news := by
    intro r
    induction r with
    | nil =>
      intro i m news hd hJ hi
      have e : i = vs.length := by simpa using hi
      subst e
      exact ListRest.zero fun h tk F N => done m news hJ h tk F N
    | cons v r ih =>
      intro i m news hd hJ hi
      have hv : vs[i]? = some v := by
        have := congrArg (fun l => l[0]?) hd
        simpa using this
      have hd' : vs.drop (i + 1) = r := by
        have := congrArg List.tail hd
        simpa using this
      refine ListRest.succ fun it h tk hc F N => ?_
      exact wpAny_mono (turn i v m news hv hJ it h tk hc F N) (fun f s₂ p => unrPost_mono (fun m' n' q => ⟨q.1, ih (i + 1) m' n' hd' q.2 (by simp at hi; omega)⟩) p) fun _ _ e => e
  exact key vs 0 m₀ news₀ (by simp) h0 (by simp)
/-- a loop over a range whose turns change nothing but the loop's own name -/
theorem range_still {I : Addr} {a : Int} {n : Nat} {m₀ : Str → Option Value} {news₀ : List (Addr × Obj)}
    (turn : ∀ i, i < n → ∀ t h tk, Fr h₀ env.locals h (fun y => if y = x then some (.int (a + (i : Int)) t) else m₀ y) →
      News h₀ env.locals h ((I, itR (a + ((i + 1 : Nat) : Int)) ((n : Int) - ((i + 1 : Nat) : Int))) :: news₀) →
      wpAny (model prog w) A (execs body env) (UnrPost h₀ env.locals { s with heap := h, toks := tk } I (itR (a + ((i + 1 : Nat) : Int)) ((n : Int) - ((i + 1 : Nat) : Int))) (fun m' n' => (∃ u : Str → Option Value, m' = fun y => if y = x then u y else m₀ y) ∧ n' = news₀) Q) E { s with heap := h, toks := tk })
    (done : ∀ (u : Str → Option Value) h tk, Fr h₀ env.locals h (fun y => if y = x then u y else m₀ y) → News h₀ env.locals h news₀ → Q .next { s with heap := h, toks := tk }) :
    RangeRest prog w A E h₀ env x body Q s I a n n 0 m₀ news₀ := by
  refine range_ind (fun _ m' n' => (∃ u : Str → Option Value, m' = fun y => if y = x then u y else m₀ y) ∧ n' = news₀) ⟨⟨m₀, by funext y; split <;> rfl⟩, rfl⟩ ?_ ?_
  · rintro i m news hi ⟨⟨u, rfl⟩, rfl⟩ t h tk F N
    refine turn i hi t h tk ?_ N
    have e : (fun y => if y = x then some (Value.int (a + (i : Int)) t) else if y = x then u y else m₀ y) = fun y => if y = x then some (Value.int (a + (i : Int)) t) else m₀ y := by
      funext y
      by_cases hy : y = x <;> simp [hy]
    rw [e] at F
    exact F
  · rintro m news ⟨⟨u, rfl⟩, rfl⟩ h tk F N
    exact done u h tk F N
theorem still_end {L I : Addr} {it : Obj} {s₁ : Shared} {m₀ : Str → Option Value} {news₀ : List (Addr × Obj)} {v : Value} {h' : Heap} {tk : Nat} (F : Fr h₀ L h' (fun y => if y = x then some v else m₀ y)) (N : News h₀ L h' ((I, it) :: news₀)) (off : ∀ p ∈ news₀, p.1 < I) :
    UnrEnd h₀ L s₁ I it (fun m' n' => (∃ u : Str → Option Value, m' = fun y => if y = x then u y else m₀ y) ∧ n' = news₀) { s₁ with heap := h', toks := tk } :=
  UnrEnd.intro F N news₀ (fun _ hp => hp) (fun p hp => Nat.ne_of_lt (off p hp)) ⟨⟨fun _ => some v, rfl⟩, rfl⟩
end
end
theorem againB2 {M : Model} {A : Around} {Q : Unit → Shared → Prop} {E : Value → Shared → Prop} {s : Shared} (h : wpAny M A (pure ()) Q E s) : wpAny M A (pure ()) Q E s := by
  w_top off
  first | (walk1; fail) | exact h
section
open PySem.Builtin PySem.Builtin.ObjectAttr
/-- what is known of a class whose mro is its own and Exception's -/
structure ExcK (K : Frag) (C : Addr) : Prop where
  cls : ∃ cd, clsIn K C = some cd ∧ cd.mro = [.ref C, .type "Exception", .type "BaseException", .type "object"] ∧ cd.hasDict = true
  sa : findIn K (.ref C) "__setattr__" = some (some (.builtin "object.__setattr__"))
theorem excK (w : World) : ExcK (hd.heap_39 w.params) 97 := ⟨⟨_, by k_is, rfl, rfl⟩, by k_is⟩
section
variable {prog : Program} {w : World} {A : Around} {E : Value → Shared → Prop} {s : Shared} {K : Frag} {x C : Addr} {ox : Obj} {od : Option Obj} {name : Str} {v : Value} {R : Result → Shared → Prop}
theorem exc_osa {tk : Tok} (X : K.In s.heap) (Y : ExcK K C) (I : InstAt s.heap x ox C od) (ht : takerIn K C name = some none)
    (h : ∀ b, wpAny (model prog w) A.in1 (storeInOwnDict (.ref x) (.ref C) (.str name tk) name v b)
      (fun fin s' => match fin with | .done f => R (.ok f) s' | .again c' => c'.quiet = true ∧ codeAny (model prog w) A c' R s') (fun e s' => R (.error e) s') s) :
    codeAny (model prog w) A (.call (.builtin "object.__setattr__") ⟨[.ref x, .str name tk, v], []⟩) R s := by
  have SF := PySem.F.store_object
  have SE := PySem.F.store_Exception
  obtain ⟨⟨cd, hc, hm, _⟩, _⟩ := Y
  have sub : Looks (model prog w) s.heap (isInstance (.ref x) (.type "object")) true := I.type.andThen (looks_mroIn X (by unfold mroIn; rw [hc, Option.bind_some, if_neg (by rw [hm]; simp), hm]; simp))
  refine codeAny_call_builtin SF.slot.plain SF.entry (@check_slot (model prog w) _ _ s "object.__setattr__" "object" "__setattr__" (.ref x) [.str name tk, v] [] _ SF.kind SF.split sub (SF.args (.ref x) (.str name tk) v) ?_)
  obtain ⟨attr, ha, hr⟩ := Option.bind_eq_some_iff.mp ht
  have hml : Looks (model prog w) s.heap (mroOf (.ref C)) cd.mro := (looks_clsIn X hc).andThen .now
  have L3 : Looks (model prog w) s.heap (storeTaker? attr) none := by
    cases attr with
    | none => exact .now
    | some a =>
      obtain ⟨b, hb, hb'⟩ := Option.map_eq_some_iff.mp hr
      refine (looks_takesIn X hb).andThen ?_
      cases b with
      | true => cases hb'
      | false => exact .now
  rw [osa_eq, refuse_eq]
  refine wpAny_bind (wpAny_bind (I.type.here (wpAny_bind (hml.here ?_))))
  rw [hm, refuseLoop_ref, SE.passes]
  refine wpAny_pure (wpAny_bind (I.type.here (wpAny_bind ((looks_findIn X ha).here (wpAny_bind (L3.here ?_))))))
  exact h _
/-- the first field of an exception: its dict is made behind everything -/
theorem exc_set1 {vs : Array Value} {sl : Array (Option Value)} {Q : Unit → Shared → Prop} (X : K.In s.heap) (Y : ExcK K C) (hx : s.heap.get? x = some ⟨.ref C, none, .fields vs, sl⟩) (ht : takerIn K C name = some none)
    (h : ∀ h' tk', (∀ b o, b ≠ x → s.heap.get? b = some o → h'.get? b = some o) → h'.get? x = some ⟨.ref C, some s.heap.objs.size, .fields vs, sl⟩ →
      h'.Ns1 s.heap.objs.size (fun y => if y = name then some v else none) → Q () { s with heap := h', toks := tk' }) :
    wpAny (model prog w) A (setAttr (.ref x) name v) Q E s := by
  have I : InstAt s.heap x ⟨.ref C, none, .fields vs, sl⟩ C none := ⟨hx, rfl, rfl, trivial⟩
  refine set_plain X I Y.sa (exc_osa (s := { s with toks := s.toks + 1 }) X Y I ht fun b => ?_)
  obtain ⟨⟨cd, hc, _, hd⟩, _⟩ := Y
  obtain ⟨oc, hoC, hcd⟩ : ∃ oc, s.heap.get? C = some oc ∧ oc.data = .cls cd := by
    unfold clsIn at hc
    split at hc
    · rename_i q
      cases hc
      exact ⟨_, X _ _ q, rfl⟩
    · cases hc
  refine wpAny_bind (wpAny_pure ?_)
  rw [if_neg (by simp)]
  refine wpAny_bind (wpAny_bind (wpAny_loadPart hx ?_))
  dsimp only
  refine wpAny_bind (wpAny_bind (wpAny_load hoC ?_))
  rw [hcd]
  refine wpAny_pure ?_
  rw [hd]
  rw [if_neg (by simp), if_neg (by simp [typeHasDict])]
  have hxs : x ≠ s.heap.objs.size := Nat.ne_of_lt (Heap.lt_size hx)
  have hx₁ : (s.heap.push { cls := .type "dict", data := .dict #[] }).get? x = some ⟨.ref C, none, .fields vs, sl⟩ := Heap.get?_push_of_some _ hx
  refine wpAny_bind (wpAny_alloc (wpAny_bind (wpAny_update hx₁ (wpAny_pure ?_))))
  dsimp only
  have hgd : ((s.heap.push { cls := .type "dict", data := .dict #[] }).update x fun o => { cls := o.cls, dict := some s.heap.objs.size, data := o.data, slots := o.slots }).get? s.heap.objs.size
      = some { cls := .type "dict", data := .dict #[] } := (Heap.get?_update_ne _ _ _ _ hxs.symm).trans (Heap.get?_push_at rfl rfl)
  have hnd : ((s.heap.push { cls := .type "dict", data := .dict #[] }).update x fun o => { cls := o.cls, dict := some s.heap.objs.size, data := o.data, slots := o.slots }).Ns s.heap.objs.size (fun _ => none) :=
    ⟨_, #[], _, hgd, rfl, fun e he => absurd he (by simp), fun _ => rfl⟩
  unfold storeInDict newKeyGuard
  refine wpAny_bind (wpAny_pure (wpAny_bind (wpAny_nsSet1 (Heap.Ns1.of_empty hnd) fun h' hn' hs => ?_)))
  obtain ⟨oD, esD, epD, hoD, hdD, hcD⟩ := hn'.count (Within.cons name v Within.nil)
  refine wpAny_bind (wpAny_lookBehind hoD (by rw [hdD]; exact pastItsLine_dict (Nat.le_trans hcD (by rw [List.length_cons, List.length_nil, sizeLine_eq]; omega))) ?_)
  refine wpAny_pure ?_
  refine h h' _ (fun b o hb e => ?_) ?_ hn'
  · exact (hs.2 b (Nat.ne_of_lt (Heap.lt_size e))).trans ((Heap.get?_update_ne _ _ _ _ hb).trans (Heap.get?_push_of_some _ e))
  · exact (hs.2 x hxs).trans (Heap.get?_update_self _ hx₁ rfl)
/-- a later one -/
theorem exc_set2 {d : Addr} {mA : Str → Option Value} {ns : List Str} {vs : Array Value} {sl : Array (Option Value)} {Q : Unit → Shared → Prop} (X : K.In s.heap) (Y : ExcK K C) (hx : s.heap.get? x = some ⟨.ref C, some d, .fields vs, sl⟩) (hn : s.heap.Ns1 d mA) (hw : PySem.Within mA ns) (hz : ns.length ≤ 1000)
    (ht : takerIn K C name = some none)
    (h : ∀ h' tk', Heap.SameBut d s.heap h' → h'.Ns1 d (fun y => if y = name then some v else mA y) → Q () { s with heap := h', toks := tk' }) :
    wpAny (model prog w) A (setAttr (.ref x) name v) Q E s := by
  obtain ⟨od, _, _, hod, _⟩ := id hn
  have I : InstAt s.heap x ⟨.ref C, some d, .fields vs, sl⟩ C (some od) := ⟨hx, rfl, rfl, hod⟩
  refine set_plain X I Y.sa (exc_osa (s := { s with toks := s.toks + 1 }) X Y I ht fun b => ?_)
  obtain ⟨⟨cd, hc, _, hd⟩, _⟩ := Y
  obtain ⟨oc, hoC, hcd⟩ : ∃ oc, s.heap.get? C = some oc ∧ oc.data = .cls cd := by
    unfold clsIn at hc
    split at hc
    · rename_i q
      cases hc
      exact ⟨_, X _ _ q, rfl⟩
    · cases hc
  refine wpAny_bind (wpAny_pure ?_)
  rw [if_neg (by simp)]
  refine wpAny_bind (wpAny_bind (wpAny_loadPart hx ?_))
  dsimp only
  refine wpAny_bind (wpAny_bind (wpAny_load hoC ?_))
  rw [hcd]
  refine wpAny_pure ?_
  rw [hd]
  rw [if_neg (by simp)]
  refine wpAny_pure ?_
  dsimp only
  unfold storeInDict newKeyGuard
  refine wpAny_bind (wpAny_pure (wpAny_bind (wpAny_nsSet1 (s := { s with toks := s.toks + 1 }) hn fun h' hn' hs => ?_)))
  obtain ⟨oD, esD, epD, hoD, hdD, hcD⟩ := hn'.count (Within.cons name v hw)
  refine wpAny_bind (wpAny_lookBehind hoD (by rw [hdD]; exact pastItsLine_dict (Nat.le_trans hcD (by rw [List.length_cons, sizeLine_eq]; omega))) ?_)
  refine wpAny_pure ?_
  exact h h' _ hs hn'
end
end
theorem againR1 {M : Model} {A : Around} {Q : Unit → Shared → Prop} {E : Value → Shared → Prop} {s : Shared} (h : wpAny M A (pure ()) Q E s) : wpAny M A (pure ()) Q E s := by
  w_top off
  first | (walk1; fail) | exact h
section
abbrev excMro : List Value := [.type "Exception", .type "BaseException", .type "object"]
/-- the class stands there, made as Exception's heir -/
def OwnE (h : Heap) (C N : Addr) : Prop := ∃ nm q bs hdct sn sub ab col dd k0 k1 k2 k3 k5, h.get? C = some (excClassObj nm q C N bs excMro hdct sn sub ab col dd k0 k1 k2 k3 k5 "Exception.__new__")
theorem ownE {w : World} {h : Heap} (X : (hd.heap_39 w.params).In h) : OwnE h 97 96 := ⟨_, _, _, _, _, _, _, _, _, _, _, _, _, _, X _ _ (by k_is)⟩
section
variable {M : Model} {A : Around} {E : Value → Shared → Prop} {s : Shared} {env : Env} {C N : Addr}
theorem raise_own {x : Sem Value} {Q : Flow → Shared → Prop} (hh : A.handled = none)
    (h : wpAny M A x (fun v s₁ => ∃ e d vs sl, v = .ref e ∧ OwnE s₁.heap C N ∧ s₁.heap.get? e = some ⟨.ref C, d, .fields vs, sl⟩ ∧ vs[1]? = some .none ∧ E (.ref e) s₁) E s) :
    wpAny M A (raiseStmt env (some x) none) Q E s := by
  unfold raiseStmt
  refine wpAny_bind (wpAny_mono h (fun v s₁ h₁ => ?_) fun _ _ x => x)
  obtain ⟨e, d, vs, sl, rfl, ⟨nm, q, bs, hdct, sn, sub, ab, col, dd, k0, k1, k2, k3, k5, hC⟩, he, h1, hE⟩ := h₁
  have hcB : (Value.ref C :: excMro).contains (.type "BaseException") = true := by simp
  obtain ⟨hp, g, d', tk, os⟩ := s₁
  repeat (first | with_reducible refine wpAny_loadPart_at he ?_ | with_reducible refine wpAny_loadPart_at hC ?_ | (with_reducible refine wpAny_isSubtype_exc hC ?_; rw [hcB]) | wp_step)
  rw [h1]
  refine wpAny_pure ?_
  rw [if_neg (by simp)]
  refine wpAny_pure ?_
  exact wpAny_raiseNew_none hh hE
end
/-- a name of a written namespace -/
theorem ns_has {K : Frag} {h : Heap} {N : Addr} {m : Str → Option Value} {y : Str} {v : Value} (X : K.In h) (G : h.Ns N m) (e : nsIn K N y = some (some v)) : m y = some v := by
  obtain ⟨o, es, ep, ho, hd, _, hf⟩ := G
  unfold nsIn at e
  split at e
  · rename_i q
    have z := X _ _ q
    rw [ho] at z
    cases z
    cases hd
    split at e
    · rename_i en he
      cases e
      rw [← hf]
      unfold nsFind findBy
      rw [← Array.find?_toList, he]
      rfl
    · split at e <;> cases e
  · cases e
section
variable {h₀ h h' : Heap} {L x : Addr} {m : Str → Option Value} {o o' : Obj} {news : List (Addr × Obj)}
theorem fr_made {e : Addr} {vs : List Value} {C : Value} (F : Fr h₀ L h m) (N : News h₀ L h news) (X : Heap.MadeExcOf h h' e C vs) :
    Fr h₀ L h' m ∧ ∃ t, News h₀ L h' ((e, ⟨C, none, .fields #[.ref t, .none, .none, .none, .bool false, .none], #[]⟩) :: (t, ⟨.type "tuple", none, .seq vs.toArray 0, #[]⟩) :: news) ∧ ∀ q ∈ (t, (⟨.type "tuple", none, .seq vs.toArray 0, #[]⟩ : Obj)) :: news, q.1 ≠ e := by
  have F' : Fr h₀ L h' m := F.keeps X.keeps
  obtain ⟨t, he, htn, ht⟩ := X.there
  have nL : ∀ b, h.get? b = none → b ≠ L := fun b hb q => by
    obtain ⟨oL, _, _, eL, _⟩ := F.ns
    rw [q, eL] at hb; cases hb
  have n0 : ∀ b, h.get? b = none → h₀.get? b = none := fun b hb => by
    cases q : h₀.get? b with
    | none => rfl
    | some o => have := F.keep _ _ q; rw [hb] at this; cases this
  refine ⟨F', t, fun q hq => ?_, fun q hq z => ?_⟩
  · rcases List.mem_cons.mp hq with rfl | hq
    · exact ⟨he, nL _ X.new, n0 _ X.new⟩
    · rcases List.mem_cons.mp hq with rfl | hq
      · exact ⟨ht, nL _ htn, n0 _ htn⟩
      · exact ⟨X.keeps _ _ (N q hq).1, (N q hq).2⟩
  · rcases List.mem_cons.mp hq with rfl | hq
    · have z' : t = e := z
      rw [z', he] at ht
      cases ht
    · have := (N q hq).1
      rw [z, X.new] at this; cases this
/-- one object turned, a new one behind everything -/
theorem news_turn (F : Fr h₀ L h m) (N : News h₀ L h ((x, o) :: news)) (off : ∀ q ∈ news, q.1 ≠ x) (k : ∀ b ob, b ≠ x → h.get? b = some ob → h'.get? b = some ob) (hx : h'.get? x = some o') : Fr h₀ L h' m ∧ News h₀ L h' ((x, o') :: news) := by
  have D := N (x, o) List.mem_cons_self
  obtain ⟨oL, es, ep, hL, r⟩ := F.ns
  refine ⟨⟨⟨oL, es, ep, k _ _ (Ne.symm D.2.1) hL, r⟩, fun b ob e => k b ob (fun z => ?_) (F.keep b ob e), F.above⟩, fun q hq => ?_⟩
  · have := D.2.2; rw [← z, e] at this; cases this
  · rcases List.mem_cons.mp hq with rfl | hq
    · exact ⟨hx, D.2⟩
    · exact ⟨k _ _ (off q hq) (N q (List.mem_cons_of_mem _ hq)).1, (N q (List.mem_cons_of_mem _ hq)).2⟩
end
end
theorem againR2 {M : Model} {A : Around} {Q : Unit → Shared → Prop} {E : Value → Shared → Prop} {s : Shared} (h : wpAny M A (pure ()) Q E s) : wpAny M A (pure ()) Q E s := by
  w_top off
  first | (walk1; fail) | exact h
section
theorem news_skip {h₀ h : Heap} {L : Addr} {a b : Addr × Obj} {r : List (Addr × Obj)} (N : News h₀ L h (a :: b :: r)) : News h₀ L h (a :: r) := fun q hq => N q (by
  rcases List.mem_cons.mp hq with rfl | hq
  · exact List.mem_cons_self
  · exact List.mem_cons_of_mem _ (List.mem_cons_of_mem _ hq))
local macro_rules | `(tactic| walk_at "setAttr ref") => `(tactic| (k_here; refine Stop.out ?_))
set_option maxHeartbeats 4000000 in
theorem mk_refusal {w : World} {av bv : Value} {news : List (Addr × Obj)} 
    {dp un : Nat} {gd : Option (List Code)} {cn : Str} {cs : Scope} {a : Addr} {ccd : Value} {cl : List (Str × Addr)} {outer : List Env} {A₀ : Around} {base h₀ : Heap} {L : Addr} {m : Str → Option Value} {s : Shared}
    {p : Program} {loose : List Str} {mean : ExcName → Option Value} {mg mb : Str → Option Value} {Q E : Value → Shared → Prop}
    (B : Below A₀ base outer h₀) (F : Fr h₀ L s.heap m) (X : (hd.heap_39 w.params).In h₀) (N : News h₀ L s.heap news) (T : Top p loose mean mg mb h₀) (hk : cs.kind = .function) (hdp : dp + 5 < recursionLimit) (hu : un + 30 < cLine)
    (ret : ∀ e d vs sl h' tk', Fr h₀ L h' m → News h₀ L h' ((e, ⟨.ref 97, d, .fields vs, sl⟩) :: news) → vs[1]? = some .none → (∃ t, vs[0]? = some (.ref t)) → (∀ q ∈ news, q.1 ≠ e) → Q (.ref e) { s with heap := h', toks := tk' }) :
    wpAny (model prg w) (ktrTop dp un gd cn cs L a ccd cl outer) (call (.ref 97) [av, bv]) Q E s := by
  obtain ⟨nm, q, bs, hdct, sn, sub, ab, col, dd, k0, k1, k2, k3, k5, hC⟩ := ownE (X.keeps F.keep)
  have hN : s.heap.isNs 96 = true := isNs_of_in (X.keeps F.keep) (by kernel_rfl)
  obtain ⟨sh, sg, sd, st, so⟩ := s
  refine wpAny_call_exc_init PySem.F.excBase_Exception hC (.of_isNs hN) (mN := sh.nsMap 96) (fI := 94) ?_ (oI := _) (X.keeps F.keep _ _ (by k_is)) rfl (fun h' e hm => ?_)
  · exact ns_has (X.keeps F.keep) (.of_isNs hN) (by k_is)
  · obtain ⟨F₁, t, N₁, off₁⟩ := fr_made F N hm
    refine wpAny_call ?_
    k_dflt ktr_enter
    k_steps
    refine ⟨?_⟩
    (rename Fr _ _ _ _ => kF); (rename News _ _ _ _ => kN)
    have kX : (hd.heap_39 w.params).In _ := Frag.In.keeps (by k_asm) (Fr.keep kF)
    refine exc_set1 kX (excK w) (kN.get (by k_mem)) (by k_is) (fun h₂ tk₂ hk₂ he₂ hn₂ => ?_)
    obtain ⟨F₂, N₂⟩ := news_turn kF kN off₁ hk₂ he₂
    k_steps
    refine ⟨?_⟩
    (rename Fr _ _ _ _ => kF'); (rename News _ _ _ _ => kN')
    have kX' : (hd.heap_39 w.params).In _ := Frag.In.keeps (by k_asm) (Fr.keep kF')
    refine exc_set2 kX' (excK w) (kN'.get (by k_mem)) hn₂ (Within.cons _ _ Within.nil) (by simp) (by k_is) (fun h₃ tk₃ hs₃ hn₃ => ?_)
    have F₃ := kF'.change hs₃ (Nat.ne_of_gt kF.ns.lt) (none_at_size kF)
    have N₃ : News _ _ h₃ _ := fun q hq => ⟨hs₃.extBut _ _ (by
      rcases List.mem_cons.mp hq with rfl | hq
      · exact Nat.ne_of_lt (Heap.lt_size (kN.get List.mem_cons_self))
      · exact Nat.ne_of_lt (Heap.lt_size (kN q (List.mem_cons_of_mem _ hq)).1)) (kN' q hq).1, (kN' q hq).2⟩
    clear kF' kN' kF kN
    k_steps
    (rename Fr _ _ _ _ => zF); (rename News _ _ _ _ => zN)
    exact ret e _ #[.ref t, .none, .none, .none, .bool false, .none] #[] _ _ zF (news_skip zN) rfl ⟨t, rfl⟩ (fun q hq => off₁ q (List.mem_cons_of_mem _ hq))
section
variable {M : Model} {A : Around} {E : Value → Shared → Prop} {s' : Shared} {base g h : Heap} {outer : List Env} {L e : Addr} {m : Str → Option Value} {env : Env} {Q : Unit → Shared → Prop} {news : List (Addr × Obj)} {oe : Obj} {vs : Array Value} {a0 : Value}
/-- an exception leaves the frame that it was made in, whatever the frame's cells -/
theorem leave_exc (K : Below A base outer g) (hf : env.frame = some L) (hk : env.scope.kind = .function) (F : Fr g L s'.heap m) (N : News g L s'.heap ((e, oe) :: news)) (off : ∀ q ∈ news, q.1 ≠ e)
    (hd : oe.data = .fields vs) (h1 : vs[1]? = some .none) (h0 : vs[0]? = some a0)
    (hQ : ∀ h', RaisedN base outer e oe.cls news h' → g.UpToSlots h' → Q () { s' with heap := h' }) :
    wpAny M (A.deeper env) (leaving env (.ref e)) Q E s' := by
  have K' := pushX K F hf hk
  have D := N (e, oe) List.mem_cons_self
  have nb : ∀ b, g.get? b = none → base.get? b = none := fun b hb => fresh_of_stays K.stays hb
  have st : base.StaysIn (hideAll s'.heap (e :: (env :: outer).filterMap (·.frame))) := fun b o q => hideAll_get _ (K'.stays b o q) fun hm => by
    rcases List.mem_cons.mp hm with rfl | hm
    · rw [nb _ D.2.2] at q; cases q
    · rw [(K'.frames.mem hm).1] at q; cases q
  have hl : ∀ q ∈ news, (hideAll s'.heap (e :: (env :: outer).filterMap (·.frame))).get? q.1 = some q.2 ∧ base.get? q.1 = none := fun q hq => by
    have Nq := N q (List.mem_cons_of_mem _ hq)
    refine ⟨hideAll_get _ Nq.1 fun hm => ?_, nb _ Nq.2.2⟩
    rcases List.mem_cons.mp hm with z | hm
    · exact off q hq z
    · obtain ⟨env', he', hf'⟩ := List.mem_filterMap.mp hm
      rcases List.mem_cons.mp he' with rfl | he'
      · exact Nq.2.1 (Option.some.inj (hf.symm.trans hf')).symm
      · obtain ⟨o, ho, _⟩ := (K.frames.mem (List.mem_filterMap.mpr ⟨env', he', hf'⟩)).2
        rw [Nq.2.2] at ho; cases ho
  have hen : (hideAll s'.heap (e :: (env :: outer).filterMap (·.frame))).get? e = none := hideAll_none _ List.mem_cons_self
  refine wpAny_leaving_firstW K'.stack (funFrames_hide K'.frames fun env' he' b hb => List.mem_cons_of_mem _ (List.mem_filterMap.mpr ⟨env', he', hb⟩)) hf D.1 (fun b o q => of_hideAll _ q) hen hd h1 h0 fun h' hL => ?_
  obtain ⟨k1, ⟨_, _, k2⟩, k3, k4⟩ := hL
  exact hQ h' ⟨_, a0, st, hl, k1, hen, k2, k3⟩ ((Heap.UpToSlots.of_keeps F.keep).trans k4)
end
end
theorem againR3 {M : Model} {A : Around} {Q : Unit → Shared → Prop} {E : Value → Shared → Prop} {s : Shared} (h : wpAny M A (pure ()) Q E s) : wpAny M A (pure ()) Q E s := by
  w_top off
  first | (walk1; fail) | exact h
section
section
variable {prog : Program} {w : World} {A₀ : Around} {E : Value → Shared → Prop} {s' : Shared} {h₀ h : Heap} {outer : List Env} {L e : Addr} {m : Str → Option Value} {env : Env} {Q : Flow → Shared → Prop} {news : List (Addr × Obj)} {cls : Value}
  {t : PySem.Expr} {b₀ : Stmt} {suite : List Stmt} {pos : Pos} {rest : List ExceptHandler}
/-- an exception that comes back is caught by the first clause, in a frame of whatever cells; the suite raises nothing -/
theorem caught_ev (K : Below A₀ h₀ outer h₀) (hf : env.frame = some L) (F : Fr h₀ L h m) (hsm : h.UpToSlots s'.heap) (R : RaisedN h₀ (env :: outer) e cls news s'.heap)
    (test : ∀ h₅ (E' : Value → Shared → Prop), Fr h₀ L h₅ m → (∃ ob, h₅.get? e = some ob ∧ ob.cls = cls) →
      wpAny (model prog w) ((A₀.deeper env).mark (some (.ref e))) (eval t env) (fun c s₁ => wpAny (model prog w) ((A₀.deeper env).mark (some (.ref e))) (excMatches (.ref e) c) (fun b s₂ => b = true ∧ s₂ = { s' with heap := h₅ }) E' s₁) E' { s' with heap := h₅ })
    (k : ∀ h', Fr h₀ L h' m → News h₀ L h' news → wpAny (model prog w) ((A₀.deeper env).mark (some (.ref e))) (execs (b₀ :: suite) env) Q (fun _ _ => False) { s' with heap := h' }) :
    wpAny (model prog w) (A₀.deeper env) (noteFrame (.ref e) env)
      (fun _ s₂ => wpAny (model prog w) (A₀.deeper env) (setFlight (.ref e) none) (fun _ s₃ =>
        wpAny (model prog w) (A₀.deeper env) (handleBy (.ref e) env (.ExceptHandler (some t) none (b₀ :: suite) pos :: rest)) Q E s₃) E s₂) E s' := by
  obtain ⟨B, a0, hB, hl, hfl⟩ := R
  have hL : B.get? L = none := by
    obtain ⟨_, ⟨L', _, hf', hn', _⟩, _⟩ := hfl.2.2.1
    obtain rfl : L = L' := Option.some.inj (hf.symm.trans hf')
    exact hn'
  refine wpAny_looks_onW (Around.frames_deeper K.stack) hf hfl fun h₄ hheld₄ hsm₄ => ?_
  refine wpAny_landsW hheld₄ fun h₅ hheld hsm₅' => ?_
  have hsm₅ := hsm₄.trans hsm₅'
  have hheld' := flyingW_base hB hheld
  have F₅ := F.of_stays hheld'.1 (hsm.trans hsm₅)
  refine wpAny_handleBy_cons (codeAny_handlers_test (wpAny_mono (test h₅ _ F₅ hheld'.there) (fun c s₁ h₁ => wpAny_mono h₁ (fun b s₂ h₂ => ?_) fun _ _ y => y) fun _ _ y => y)) (by intro q; cases q)
  obtain ⟨rfl, rfl⟩ := h₂
  refine codeAny_handlers_suite ?_
  refine lands_againW hheld fun h₆ hfl₆ hsm₆ => ?_
  have F₆ := F.of_stays (flyingW_base hB hfl₆).1 ((hsm.trans hsm₅).trans hsm₆)
  exact wpAny_mono (k h₆ F₆ fun q hq => ⟨hfl₆.1 _ _ (hl q hq).1, (fun z => by have := (hl q hq).1; rw [z, hL] at this; cases this), (hl q hq).2⟩) (fun _ _ y => y) (fun _ _ y => y.elim)
end
section
variable {M : Model} {A : Around} {E : Value → Shared → Prop} {s : Shared} {e : Addr} {h₀ : Heap} {L a : Addr} {m mg mb : Str → Option Value} {cn : Str} {cs : Scope} {ccd : Value} {cl : List (Str × Addr)} {p : Program} {loose : List Str} {mean : ExcName → Option Value} {K : Frag} {pos : Pos}
theorem test_KeyError (F : Fr h₀ L s.heap m) (X : K.In h₀) (T : Top p loose mean mg mb h₀) (he : ∃ ob, s.heap.get? e = some ob ∧ ob.cls = .type "KeyError") (en : nsIn K mainGlobals (Str.ofString "KeyError") = some none)
    (hk : cs.kind = .function) (hx : (envX cn cs L a ccd cl).kindOf (Str.ofString "KeyError") = some .globalImplicit) :
    wpAny M A (eval (.Name (Str.ofString "KeyError") pos) (envX cn cs L a ccd cl)) (fun c s₁ => wpAny M A (excMatches (.ref e) c) (fun b s₂ => b = true ∧ s₂ = s) E s₁) E s := by
  refine nameX_B F X (topRead_of T) en PyProof.Rows.Boot.«KeyError» (by decide) ?_ hk hx (by decide)
  obtain ⟨ob, ho, hc⟩ := he
  exact wpAny_excMatches_type (X := "KeyError") (T := "KeyError") ⟨ob, ho, hc⟩ kr_isExc_KeyError kr_notTuple_KeyError (b := true) (by rw [isSubtype_type]; kernel_rfl) ⟨rfl, rfl⟩
theorem test_own {C N : Addr} {x : Str} (F : Fr h₀ L s.heap m) (X : K.In h₀) (T : Top p loose mean mg mb h₀) (he : ∃ ob, s.heap.get? e = some ob ∧ ob.cls = .ref C) (O : OwnE s.heap C N) (en : nsIn K mainGlobals x = some (some (.ref C)))
    (hk : cs.kind = .function) (hx : (envX cn cs L a ccd cl).kindOf x = some .globalImplicit) (hd : (x == ("__debug__" : Str)) = false) :
    wpAny M A (eval (.Name x pos) (envX cn cs L a ccd cl)) (fun c s₁ => wpAny M A (excMatches (.ref e) c) (fun b s₂ => b = true ∧ s₂ = s) E s₁) E s := by
  refine nameX_K F X (topRead_of T) en ?_ hk hx hd
  obtain ⟨ob, ho, hc⟩ := he
  obtain ⟨nm, q, bs, hdct, sn, sub, ab, col, dd, k0, k1, k2, k3, k5, hC⟩ := O
  obtain ⟨hp, g, d', tk, os⟩ := s
  exact wpAny_excMatches_sub_self hC ho hc (by decide) ⟨rfl, rfl⟩
end
theorem fr_newexc {h₀ h h' : Heap} {L e : Addr} {m : Str → Option Value} {news : List (Addr × Obj)} {C : String} (F : Fr h₀ L h m) (N : News h₀ L h news) (X : Heap.NewExc h h' e C) :
    Fr h₀ L h' m ∧ ∃ ob t, News h₀ L h' ((e, ob) :: news) ∧ (∀ q ∈ news, q.1 ≠ e) ∧ ob.cls = .type C ∧ ob.data = .fields #[t, .none, .none, .none, .bool false, .none] := by
  obtain ⟨ob, t, he, hc, hd⟩ := X.there
  have nL : e ≠ L := fun q => by
    obtain ⟨oL, _, _, eL, _⟩ := F.ns
    have := X.new
    rw [q, eL] at this; cases this
  have n0 : h₀.get? e = none := by
    cases q : h₀.get? e with
    | none => rfl
    | some o => have := F.keep _ _ q; rw [X.new] at this; cases this
  refine ⟨F.keeps X.keeps, ob, t, fun q hq => ?_, fun q hq z => ?_, hc, hd⟩
  · rcases List.mem_cons.mp hq with rfl | hq
    · exact ⟨he, nL, n0⟩
    · exact ⟨X.keeps _ _ (N q hq).1, (N q hq).2⟩
  · have := (N q hq).1
    rw [z, X.new] at this; cases this
theorem raisedN_drop {base h : Heap} {l : List Env} {e : Addr} {cls : Value} {n n' : List (Addr × Obj)} (R : RaisedN base l e cls n h) (hs : ∀ q ∈ n', q ∈ n) : RaisedN base l e cls n' h :=
  let ⟨B, a0, b1, b2, b3⟩ := R; ⟨B, a0, b1, fun q hq => b2 q (hs q hq), b3⟩
/-- a call's contract for whatever caller, where it raises -/
def CtrE (w : World) (f : Addr) (args : List Value) (news : List (Addr × Obj)) (dd uu : Nat) (cls : Value) (post : List (Addr × Obj) → Prop) : Prop :=
  ∀ (dp un : Nat) (gd : Option (List Code)) (cn : Str) (cs : Scope) (a : Addr) (ccd : Value) (cl : List (Str × Addr)) (outer : List Env) (A₀ : Around) (base h₀ : Heap) (L : Addr) (m : Str → Option Value) (s : Shared)
    (p : Program) (loose : List Str) (mean : ExcName → Option Value) (mg mb : Str → Option Value) (Q E : Value → Shared → Prop),
    Below A₀ base outer h₀ → Fr h₀ L s.heap m → (hd.heap_39 w.params).In h₀ → News h₀ L s.heap news → Top p loose mean mg mb h₀ → cs.kind = .function → dp + dd < recursionLimit → un + uu < cLine →
    (∀ e news' g h' tk', post news' → Fr h₀ L g m → g.UpToSlots h' → RaisedN base (envX cn cs L a ccd cl :: outer) e cls news' h' → E (.ref e) { s with heap := h', toks := tk' }) →
    wpAny (model prg w) (ktrTop dp un gd cn cs L a ccd cl outer) (call (.ref f) args) Q E s
theorem CtrE.use {w : World} {f : Addr} {args : List Value} {news : List (Addr × Obj)} {dd uu : Nat} {cls : Value} {post : List (Addr × Obj) → Prop} (C : CtrE w f args news dd uu cls post)
    {dp un : Nat} {gd : Option (List Code)} {cn : Str} {cs : Scope} {a : Addr} {ccd : Value} {cl : List (Str × Addr)} {outer : List Env} {A₀ : Around} {base h₀ : Heap} {L : Addr} {m : Str → Option Value} {s : Shared}
    {p : Program} {loose : List Str} {mean : ExcName → Option Value} {mg mb : Str → Option Value} {Q E : Value → Shared → Prop}
    (B : Below A₀ base outer h₀) (F : Fr h₀ L s.heap m) (X : (hd.heap_39 w.params).In h₀) (N : News h₀ L s.heap news) (T : Top p loose mean mg mb h₀) (hk : cs.kind = .function) (hdp : dp + dd < recursionLimit) (hu : un + uu < cLine)
    (ret : ∀ e news' g h' tk', post news' → Fr h₀ L g m → g.UpToSlots h' → RaisedN base (envX cn cs L a ccd cl :: outer) e cls news' h' → E (.ref e) { s with heap := h', toks := tk' }) :
    wpAny (model prg w) (ktrTop dp un gd cn cs L a ccd cl outer) (call (.ref f) args) Q E s := C _ _ _ _ _ _ _ _ _ _ _ _ _ _ _ _ _ _ _ _ _ _ B F X N T hk hdp hu ret
end
theorem againR4 {M : Model} {A : Around} {Q : Unit → Shared → Prop} {E : Value → Shared → Prop} {s : Shared} (h : wpAny M A (pure ()) Q E s) : wpAny M A (pure ()) Q E s := by
  w_top off
  first | (walk1; fail) | exact h
section
local macro_rules | `(tactic| ktr_enter) => `(tactic| (refine' code_defC ?k1 ?k2 ?k3 ?k4 ?k5 ?kA ?kF ?kK ?k6 ?k7 ?k8 ?k9 ?kB ?kD ?_ ?c2 ?c3 ?c4; (case kA => exact rfl); (case kF => exact rfl); (case kK => assumption); (case k1 => k_asm); (case k2 => k_asm); (case k3 => k_asm); (case k4 => k_asm); (case k5 => k_asm); (case k6 => k_is); (case k7 => k_is); (case k8 => ktr_room); (case k9 => exact BindsTo.of_eq rfl); (case kB => exact rfl); (case kD => decide +kernel); (case c2 => exact rfl); (case c3 => exact rfl); (case c4 => exact rfl); k_whole; intro g' L' h' tk' cells' FG' F' N' Y' B' X' T' l1; (try k_lt l1); k_cells Y'; (try simp only [List.cons_append, List.nil_append] at N'); (try dsimp only); (try k_lift B'); (try k_fold)))
local macro_rules | `(tactic| walk_at "call ref") => `(tactic| (k_here; (with_reducible show wpAny _ _ (call (Value.ref 40) _) _ _ _); k_dflt (refine' Ctr.use (con _ _ _ _ _ _ _ _ _ _ ?c1 ?c2 ?c3) ?k1 ?k2 ?k3 ?k4 ?k5 ?k6 ?k7 ?k8 ?_; (case k1 => k_asm); (case k2 => k_asm); (case k3 => k_asm); (case k4 => first | k_asm | exact news_rot (by k_asm)); (case k5 => k_asm); (case k6 => exact rfl); (case k7 => ktr_room); (case k8 => ktr_units); (case c1 => assumption); (case c2 => first | assumption | exact Th.consAll (by assumption)); (case c3 => first | assumption | exact Th.cons (by assumption))); intro r' n' h' tk' hp' F' N'; obtain ⟨hr', hn'⟩ := hp'; subst hr'; subst hn'))
local macro_rules | `(tactic| k_all) => `(tactic| assumption)
local macro_rules | `(tactic| walk_at "leaving ref") => `(tactic| (refine Stop.out ?_))
local macro_rules | `(tactic| walk_at "exec Raise some none") => `(tactic| (k_here; refine Raise_new rfl ?_))
set_option maxHeartbeats 4000000 in
theorem remE (w : World) (x dx l : Addr) (hsh : Int) (tk : Tok) (n : Nat) (vs : List Value) (ob : Value) (rest : List (Addr × Obj)) (hvs : vs.length ≤ 100) (hth : ∀ v ∈ vs, Th rest v) (hob : Th rest ob)
    (hin : vs.contains ob = false) :
    CtrE w 52 [.ref x, ob] ((x, instObj 76 dx) :: (dx, dataObj hsh tk l) :: (l, W.listOf vs.toArray n) :: rest) 5 30 (.type "KeyError")
      (fun news' => news' = ((x, instObj 76 dx) :: (dx, dataObj hsh tk l) :: (l, W.listOf vs.toArray n) :: rest)) := by
  intro dp un gd cn cs a ccd cl outer A₀ base h₀ L m s p loose mean mg mb Q E B F X N T hk hd hu ret
  refine wpAny_call ?_
  k_dflt ktr_enter
  k_steps
  refine ⟨?_⟩
  (rename Fr _ _ _ _ => kF); (rename News _ _ _ _ => kN); (rename Heap.NewExc _ _ _ _ => kE); (rename Below _ _ _ _ => kB)
  obtain ⟨F₁, ob', t', N₁, off₁, hc₁, hd₁⟩ := fr_newexc kF kN kE
  refine leave_exc kB rfl rfl F₁ N₁ off₁ hd₁ rfl rfl (fun h₂ R₂ U₂ => ?_)
  rw [hc₁] at R₂
  exact ret _ _ _ _ _ rfl (by assumption) U₂ (raisedN_drop R₂ (fun q hq => by simp only [List.mem_cons] at hq ⊢; grind))
end
theorem againT4 {M : Model} {A : Around} {Q : Unit → Shared → Prop} {E : Value → Shared → Prop} {s : Shared} (h : wpAny M A (pure ()) Q E s) : wpAny M A (pure ()) Q E s := by
  w_top off
  first | (walk1; fail) | exact h
section
theorem item_of {prog : Program} {w : World} {A : Around} {E : Value → Shared → Prop} {s : Shared} {value slice : PySem.Expr} {l : Addr} {vs : List Value} {k : Int} {u : Tok} {Q : Value → Shared → Prop}
    (hl : s.heap.IsList l vs.toArray) (h0 : 0 ≤ k) (hhi : k < (vs.length : Int)) (hz : vs.length ≤ 16384) (h : Q (vs.getD k.toNat .none) s)
    (hs : subscripted slice false (.ref l) (.int k u) = operate [.ref l, .int k u] (getItem (.ref l) (.int k u)) := by with_unfolding_all rfl) :
    wpAny (model prog w) A (subscriptTail value slice (.ref l) (.int k u)) Q E s :=
  tail_any hl.typeIs slot_list_getitem.lookup (wpAny_getItem_list hl h0 (by omega) (by
    have : k.toNat < vs.length := by omega
    simp [List.getD, this]) h) hs
local macro_rules | `(tactic| walk_at "call ref") => `(tactic| (k_here; (with_reducible show wpAny _ _ (call (Value.ref 40) _) _ _ _); k_dflt (refine' Ctr.use (con _ _ _ _ _ _ _ _ _ _ ?c1 ?c2 ?c3) ?k1 ?k2 ?k3 ?k4 ?k5 ?k6 ?k7 ?k8 ?_; (case k1 => k_asm); (case k2 => k_asm); (case k3 => k_asm); (case k4 => first | k_asm | exact news_rot (by k_asm) | exact news_rot2 (by k_asm)); (case k5 => k_asm); (case k6 => exact rfl); (case k7 => ktr_room); (case k8 => ktr_units); (case c1 => first | assumption | (simp only [List.length_map]; omega)); (case c2 => first | assumption | exact Th.consAll (by assumption) | exact Th.consAll (Th.consAll (by assumption))); (case c3 => first | assumption | exact Th.cons (by assumption) | exact Th.cons (Th.cons (by assumption)))); intro r' n' h' tk' hp' F' N'; obtain ⟨hr', hn'⟩ := hp'; subst hr'; subst hn'))
local macro_rules | `(tactic| walk_at "call ref") => `(tactic| (k_here; (with_reducible show wpAny _ _ (call (Prod.fst (Value.ref 73, _)) _) _ _ _); (try dsimp only [List.nil_append, List.append_nil]); k_dflt (refine' Ctr.use (awl _ _ _ _ _ _ _ _ _ ?c1) ?k1 ?k2 ?k3 ?k4 ?k5 ?k6 ?k7 ?k8 ?_; (case k1 => k_asm); (case k2 => k_asm); (case k3 => k_asm); (case k4 => first | k_asm | exact news_rot (by k_asm)); (case k5 => k_asm); (case k6 => exact rfl); (case k7 => ktr_room); (case k8 => ktr_units); (case c1 => first | assumption | simp only [List.length_map]; omega)); intro r' n' h' tk' hp' F' N'; obtain ⟨D', c', hr', hn', lD'⟩ := hp'; subst hr'; subst hn'; (try simp only [AllLt] at lD')))
local macro_rules | `(tactic| walk_at "call builtin:len") => `(tactic| (k_here; (with_reducible show wpAny _ _ (call (Value.builtin "len") [Value.ref _]) _ _ _); k_dflt (refine' len_of ?k1 ?k2 ?_; (case k1 => exact News.isList (by k_asm) (by k_mem)); (case k2 => first | omega | (simp only [List.length_map]; omega)); k_whole); (try simp only [List.length_map])))
local macro_rules | `(tactic| walk_at "call ref") => `(tactic| (k_here; (with_reducible show wpAny _ _ (call (Value.ref 35) _) _ _ _); k_dflt (refine' Ctr.use (lenC _ _ _ _ _ _ _ _ _ ?c1) ?k1 ?k2 ?k3 ?k4 ?k5 ?k6 ?k7 ?k8 ?_; (case k1 => k_asm); (case k2 => k_asm); (case k3 => k_asm); (case k4 => first | k_asm | exact news_rot (by k_asm)); (case k5 => k_asm); (case k6 => exact rfl); (case k7 => ktr_room); (case k8 => ktr_units); (case c1 => first | assumption | simp only [List.length_map]; omega)); intro r' n' h' tk' hp' F' N'; obtain ⟨⟨t', hr'⟩, hn'⟩ := hp'; subst hr'; subst hn'; dsimp only [W.LenBack]; (try simp only [List.length_map])))
theorem item_int_of {prog : Program} {w : World} {A : Around} {E : Value → Shared → Prop} {s : Shared} {value slice : PySem.Expr} {l : Addr} {vs : List Value} {ns : List Int} {k : Int} {u : Tok} {Q : Value → Shared → Prop}
    (hi : IntsAre vs ns) (hl : s.heap.IsList l vs.toArray) (h0 : 0 ≤ k) (hhi : k < (ns.length : Int)) (hz : ns.length ≤ 16384) (h : ∀ t, Q (.int (ns.getD k.toNat 0) t) s)
    (hs : subscripted slice false (.ref l) (.int k u) = operate [.ref l, .int k u] (getItem (.ref l) (.int k u)) := by with_unfolding_all rfl) :
    wpAny (model prog w) A (subscriptTail value slice (.ref l) (.int k u)) Q E s := by
  have hk : k.toNat < ns.length := by omega
  obtain ⟨t, ht⟩ := hi.get k.toNat (ns.getD k.toNat 0) (by simp [List.getD, hk])
  have hlen := hi.length
  refine tail_any hl.typeIs slot_list_getitem.lookup (wpAny_getItem_list hl h0 (by omega) (by simpa using ht) (h t)) hs
local macro_rules | `(tactic| walk_at "subscriptTail") => `(tactic| (k_here; (with_reducible show wpAny _ _ (subscriptTail _ _ (Value.ref _) (Value.int _ _)) _ _ _); k_dflt (first
  | (refine' item_int_of ?hi ?hl ?h0 ?hhi ?hz ?_ ?hs; (case hl => exact News.isList (by k_asm) (by k_mem)); (case hi => assumption); (case hs => with_unfolding_all rfl); (case h0 => omega); (case hhi => omega); (case hz => omega); intro t')
  | (refine' item_of ?hl ?h0 ?hhi ?hz ?_ ?hs; (case hl => exact News.isList (by k_asm) (by k_mem)); (case hs => with_unfolding_all rfl); (case h0 => omega); (case hhi => (try simp only [List.length_map]); omega); (case hz => (try simp only [List.length_map]); omega)))))
local macro_rules | `(tactic| walk_at "compareOp IsNot") => `(tactic| (refine Stop.out ?_))
local macro_rules | `(tactic| walk_at "compareOp IsNot ref ref") => `(tactic| (refine Stop.out ?_))
local macro_rules | `(tactic| walk_at "pyIter ref") => `(tactic| (k_here; refine Stop.out ?_))
local macro_rules | `(tactic| walk_at "UnrEnd") => `(tactic| (refine Stop.out ?_))
local macro_rules | `(tactic| walk_at "call type:range") => `(tactic| (k_here; k_dflt (refine' range1_rows ?F ?N ?_; (case F => k_asm); (case N => k_asm)); intro h' tk' t1 u1 v1 R' F' N' K'))
set_option maxHeartbeats 4000000 in
theorem heldC (w : World) (x dx l : Addr) (hsh : Int) (tk : Tok) (n : Nat) (r th : Addr) (rn tn : Nat) (R : List Int) (rs : List Value) (tv : List Value) (rest : List (Addr × Obj)) (hR : R.length ≤ 7) (hrs : IntsAre rs R)
    (hth : ∀ v ∈ tv, Th rest v) (htv : tv.length = 7) (hR7 : ∀ k ∈ R, 0 ≤ k ∧ k < 7) (hnd : tv.Nodup) :
    Ctr w 114 [.ref x, .ref r, .ref th] ((x, instObj 76 dx) :: (dx, dataObj hsh tk l) :: (l, W.listOf (R.map fun k => tv.getD k.toNat .none).toArray n) :: (r, W.listOf rs.toArray rn) :: (th, W.listOf tv.toArray tn) :: rest) 7 50
      (fun v news' => v = .bool true ∧ news' = ((x, instObj 76 dx) :: (dx, dataObj hsh tk l) :: (l, W.listOf (R.map fun k => tv.getD k.toNat .none).toArray n) :: (r, W.listOf rs.toArray rn) :: (th, W.listOf tv.toArray tn) :: rest)) := by
  intro dp un gd cn cs a ccd cl outer A₀ base h₀ L m s p loose mean mg mb Q E B F X N T hk hd hu ret
  have hlen : rs.length = R.length := hrs.length
  refine wpAny_call ?_
  k_dflt ktr_enter
  k_steps
  · exfalso; omega
  · exfalso; omega
  · refine ⟨?_⟩
    (rename Fr _ _ _ _ => kF); (rename News _ _ _ _ => kN); (rename IsRange _ _ _ _ _ _ _ _ => kR)
    rw [hlen] at kR
    k_dflt (refine iter_rangeUnr (n := R.length) (by rfl) kR (small_one (by decide) (by decide) (by omega) (by omega)) (by rw [rangeSize_one]; split <;> omega) kF kN ?_)
    intro I hI
    refine range_still ?_ ?_
    · intro i hi t' h' tk' F' N'
      have hi' : (0 + (i : Int)).toNat < R.length := by omega
      have hb := hR7 (R.getD (0 + (i : Int)).toNat 0) (by simp only [List.getD, List.getElem?_eq_getElem hi', Option.getD_some]; exact List.getElem_mem _)
      k_steps
      refine ⟨?_⟩
      have e1 : (R.map fun k => tv.getD k.toNat .none).getD (0 + (i : Int)).toNat .none = tv.getD (R.getD (0 + (i : Int)).toNat 0).toNat .none := by
        simp only [List.getD, List.getElem?_map, List.getElem?_eq_getElem hi', Option.map_some, Option.getD_some]
      rw [e1]
      have ht : Th rest (tv.getD (R.getD (0 + (i : Int)).toNat 0).toNat .none) := by
        refine hth _ ?_
        have hj : (R.getD (0 + (i : Int)).toNat 0).toNat < tv.length := by omega
        rw [List.getD, List.getElem?_eq_getElem hj, Option.getD_some]
        exact List.getElem_mem _
      refine isNot_th (by k_asm) (ht.mono (fun p hp => by simp [hp])) (ht.mono (fun p hp => by simp [hp])) ?_
      simp only [decide_true, Bool.not_true]
      k_steps
      refine ⟨?_⟩
      (rename Fr _ _ _ _ => kF); (rename News _ _ _ _ => kN)
      exact still_end kF kN hI
    · intro u h' tk' F' N'
      dsimp only
      k_steps
      refine ⟨?_⟩
      (rename Fr _ _ _ _ => kF); (rename News _ _ _ _ => kN); (rename IsRange _ _ _ _ _ _ _ _ => kR)
      rw [htv] at kR
      k_dflt (refine iter_rangeUnr (n := 7) (by rfl) kR (small_one (by decide) (by decide) (by omega) (by omega)) (by rw [rangeSize_one]; split <;> omega) kF kN ?_)
      intro I hI
      refine range_still ?_ ?_
      · intro i hi t' h' tk' F' N'
        have hj : (0 + (i : Int)).toNat < tv.length := by omega
        have ho1 : Th ((r, W.listOf rs.toArray rn) :: (th, W.listOf tv.toArray tn) :: rest) (tv.getD (0 + (i : Int)).toNat .none) := by
          refine Th.cons (Th.cons (hth _ ?_))
          rw [List.getD, List.getElem?_eq_getElem hj, Option.getD_some]
          exact List.getElem_mem _
        have hv1 : ∀ v ∈ R.map (fun k => tv.getD k.toNat .none), Th ((r, W.listOf rs.toArray rn) :: (th, W.listOf tv.toArray tn) :: rest) v := by
          intro v hv
          obtain ⟨k, hk, rfl⟩ := List.mem_map.mp hv
          refine Th.cons (Th.cons (hth _ ?_))
          have := hR7 k hk
          have hj : k.toNat < tv.length := by omega
          rw [List.getD, List.getElem?_eq_getElem hj, Option.getD_some]
          exact List.getElem_mem _
        k_steps
        · exfalso
          have hne : ((R.map fun k => tv.getD k.toNat .none).contains (tv.getD (0 + (i : Int)).toNat .none) != R.any fun x => x == 0 + (i : Int)) = true := by assumption
          rw [contains_pk htv hnd (k := 0 + (i : Int)) (by omega) hR7] at hne
          simp at hne
        · refine ⟨?_⟩
          (rename Fr _ _ _ _ => kF); (rename News _ _ _ _ => kN)
          exact still_end kF (cb_drop kN fun p hp => by simp only [List.mem_cons] at hp ⊢; grind) hI
      · intro u h' tk' F' N'
        dsimp only
        k_steps
        (rename Fr _ _ _ _ => kF); (rename News _ _ _ _ => kN)
        exact ret _ _ _ _ ⟨rfl, rfl⟩ kF (cb_drop kN fun p hp => by simp only [List.mem_cons] at hp ⊢; grind)
end
theorem againT6 {M : Model} {A : Around} {Q : Unit → Shared → Prop} {E : Value → Shared → Prop} {s : Shared} (h : wpAny M A (pure ()) Q E s) : wpAny M A (pure ()) Q E s := by
  w_top off
  first | (walk1; fail) | exact h
section
/-- a walker: it appends to sn, or refuses at stop -/
structure WalkOk (w : World) (fw : Addr) (fo : Obj) (c' : Addr) (oc : Obj) (c1 : Addr) (o1 : Obj) (c2 : Addr) (o2 : Obj) (sn : Addr) (stop : Int) : Prop where
  fn : ∃ k od fd sl, fo = ⟨k, od, .func fd, sl⟩
  app : ∀ (sv : List Value) (n : Nat) (v : Value) (rest : List (Addr × Obj)), sv.length ≤ 100 → ¬ (0 < stop ∧ (sv.length : Int) = stop) → (@Ne Nat fw sn) → (@Ne Nat c' sn) → (@Ne Nat c1 sn) → (@Ne Nat c2 sn) → (∀ q ∈ rest, q.1 ≠ sn) →
    Ctr w fw [v] ((sn, W.listOf sv.toArray n) :: (fw, fo) :: (c', oc) :: (c2, o2) :: (c1, o1) :: rest) 3 20 (fun _ news' => ∃ n', news' = ((sn, W.listOf (sv ++ [v]).toArray n') :: (fw, fo) :: (c', oc) :: (c2, o2) :: (c1, o1) :: rest))
  refuse : ∀ (sv : List Value) (n : Nat) (v : Value) (rest : List (Addr × Obj)), sv.length ≤ 100 → 0 < stop → (sv.length : Int) = stop →
    CtrE w fw [v] ((sn, W.listOf sv.toArray n) :: (fw, fo) :: (c', oc) :: (c2, o2) :: (c1, o1) :: rest) 8 60 (.ref 97) (fun news' => news' = ((sn, W.listOf sv.toArray n) :: (fw, fo) :: (c', oc) :: (c2, o2) :: (c1, o1) :: rest))
def CodeOk (oc : Obj) : Prop := ∃ vs t, oc.data = .fields vs ∧ vs[1]? = some (.str (Str.ofString "_law_walker.<locals>.walker") t)
section
variable {M : Model} {A : Around} {E : Value → Shared → Prop} {s : Shared} {env : Env}
theorem Raise_own {x : PySem.Expr} {pos : Pos} {Q : Flow → Shared → Prop} (C N : Addr) (hh : A.handled = none)
    (h : wpAny M A (eval x env) (fun v s₁ => ∃ e d vs sl, v = .ref e ∧ OwnE s₁.heap C N ∧ s₁.heap.get? e = some ⟨.ref C, d, .fields vs, sl⟩ ∧ vs[1]? = some .none ∧ E (.ref e) s₁) E s) :
    wpAny M A (exec (.Raise (some x) none pos) env) Q E s := by
  rw [arm_exec_Raise]
  exact wpAny_bind (wpAny_standAt (raise_own hh (wpAny_bind (wpAny_mono h (fun v s₁ h₁ => wpAny_bind (wpAny_standAt (wpAny_pure h₁))) fun _ _ x => x))))
end
local macro_rules | `(tactic| ktr_enter) => `(tactic| (refine' code_defC ?k1 ?k2 ?k3 ?k4 ?k5 ?kA ?kF ?kK ?k6 ?k7 ?k8 ?k9 ?kB ?kD ?_ ?c2 ?c3 ?c4; (case kA => exact rfl); (case kF => exact rfl); (case kK => assumption); (case k1 => k_asm); (case k2 => k_asm); (case k3 => k_asm); (case k4 => k_asm); (case k5 => k_asm); (case k6 => k_is); (case k7 => k_is); (case k8 => ktr_room); (case k9 => exact BindsTo.of_eq rfl); (case kB => exact rfl); (case kD => decide +kernel); (case c2 => exact rfl); (case c3 => exact rfl); (case c4 => exact rfl); k_whole; intro g' L' h' tk' cells' FG' F' N' Y' B' X' T' l1; (try k_lt l1); k_cells Y'; (try simp only [List.cons_append, List.nil_append] at N'); (try dsimp only); (try k_lift B'); (try k_fold)))
local macro_rules | `(tactic| kn_enter) => `(tactic| (refine' code_nest ?k1 ?k2 ?k3 ?k4 ?k5 ?kA ?kF ?kK ?k6 ?k7 ?k8 ?k9 ?kB ?_ ?c2 ?c3 ?c4 ?c5; (case kA => exact rfl); (case kF => exact rfl); (case kK => assumption); (case k1 => k_asm); (case k2 => k_asm); (case k3 => k_asm); (case k4 => k_asm); (case k5 => k_asm); (case k6 => k_mem); (case k7 => exact codeRec_news (by k_asm) (by k_mem) (by assumption) (by assumption)); (case k8 => ktr_room); (case k9 => exact BindsTo.of_eq rfl); (case c5 => decide); (case kB => exact locs rfl); (case c2 => exact rfl); (case c3 => exact rfl); (case c4 => exact rfl); k_whole; intro g' L' h' FG' F' N' B' X' T'; (try dsimp only); (try k_lift B'); (try k_fold)))
local macro_rules | `(tactic| k_all) => `(tactic| assumption)
local macro_rules | `(tactic| walk_at "leaving ref") => `(tactic| (refine Stop.out ?_))
local macro_rules | `(tactic| walk_at "Exists") => `(tactic| (refine Stop.out ?_))
local macro_rules | `(tactic| walk_at "exec Raise some none") => `(tactic| (k_here; k_dflt (refine Raise_own 97 96 (by rfl) ?_)))
local macro_rules | `(tactic| walk_at "call ref") => `(tactic| (k_here; (with_reducible show wpAny _ _ (call (Value.ref 97) _) _ _ _); k_dflt (refine' mk_refusal ?k1 ?k2 ?k3 ?k4 ?k5 ?k6 ?k7 ?k8 ?_; (case k1 => k_asm); (case k2 => k_asm); (case k3 => k_asm); (case k4 => k_asm); (case k5 => k_asm); (case k6 => exact rfl); (case k7 => ktr_room); (case k8 => ktr_units)); intro e' d' vs' sl' h' tk' F' N' h1' h0' off'))
local macro_rules | `(tactic| walk_at "call builtin:len") => `(tactic| (k_here; (with_reducible show wpAny _ _ (call (Value.builtin "len") [Value.ref _]) _ _ _); k_dflt (refine' len_of ?k1 ?k2 ?_; (case k1 => exact News.isList (by k_asm) (by k_mem)); (case k2 => first | omega | (simp only [List.length_map]; omega)); k_whole)))
theorem allLt_mono {D D' : Addr} (h : @LE.le Nat _ D D') : ∀ {l : List (Addr × Obj)}, AllLt D l → AllLt D' l
  | [], _ => trivial
  | _ :: _, x => ⟨Nat.lt_of_lt_of_le x.1 h, allLt_mono h x.2⟩
set_option maxHeartbeats 4000000 in
theorem walkerC (w : World) (sn : Addr) (stop : Int) (st : Tok) (rest : List (Addr × Obj))  (hoff : ∀ q ∈ rest, q.1 ≠ 102) :
    Ctr w 107 [.ref sn, .int stop st] ((102, tabObj #[]) :: rest) 3 20
      (fun r news' => ∃ fw fo c' oc c1 o1 c2 o2, r = .ref fw ∧ news' = ((fw, fo) :: (c', oc) :: (c2, o2) :: (c1, o1) :: (102, tabObj #[rawInt 42, rawInt 4, .ref c']) :: rest) ∧ CodeOk oc ∧ WalkOk w fw fo c' oc c1 o1 c2 o2 sn stop ∧
        (@LT.lt Nat _ 102 c1 ∧ @LT.lt Nat _ c1 c2 ∧ @LT.lt Nat _ c2 c' ∧ @LT.lt Nat _ c' fw ∧ AllLt c1 rest)) := by
  intro dp un gd cn cs a ccd cl outer A₀ base h₀ L m s p loose mean mg mb Q E B F X N T hk hdp hu ret
  refine wpAny_call ?_
  k_dflt ktr_enter
  (rename Frag.In _ _ => kX)
  have hcd : CodeHd _ 106 102 := codeHd_of_K kX (by kernel_rfl)
  k_steps
  (rename Fr _ _ _ _ => kF); (rename News _ _ _ _ => kN)
  refine ret _ _ _ _ ⟨_, _, _, _, _, _, _, _, rfl, rfl, ⟨_, _, by assumption, by assumption⟩, ?_, ?_⟩ kF kN
  · have hco : CodeOk _ := ⟨_, _, by assumption, by assumption⟩
    obtain ⟨vs₀, t₀, hv₀, ht₀⟩ := hco
    clear kF kN ret hdp hu N F B X T
    refine ⟨⟨_, _, _, _, rfl⟩, ?_, ?_⟩
    · intro sv n v rest' hsv hns f1 f2 f3 f4 hof dp un gd cn cs a ccd cl outer A₀ base h₀ L m s p loose mean mg mb Q E B F X N T hk hdp hu ret
      refine wpAny_call ?_
      k_dflt kn_enter
      (rename Frag.In _ _ => kX)
      have hcd : CodeHd _ 106 102 := codeHd_of_K kX (by kernel_rfl)
      k_steps
      · exfalso; omega
      · (rename Fr _ _ _ _ => kF); (rename News _ _ _ _ => kN)
        exact ret _ _ _ _ ⟨n + 1, by simp only [List.push_toArray]⟩ kF kN
      · (rename Fr _ _ _ _ => kF); (rename News _ _ _ _ => kN)
        exact ret _ _ _ _ ⟨n + 1, by simp only [List.push_toArray]⟩ kF kN
    · intro sv n v rest' hsv hs0 hs1 dp un gd cn cs a ccd cl outer A₀ base h₀ L m s p loose mean mg mb Q E B F X N T hk hdp hu ret
      refine wpAny_call ?_
      k_dflt kn_enter
      (rename Frag.In _ _ => kX)
      have hcd : CodeHd _ 106 102 := codeHd_of_K kX (by kernel_rfl)
      k_steps
      · refine ⟨?_⟩
        (rename Fr _ _ _ _ => kF); (rename News _ _ _ _ => kN); (rename Below _ _ _ _ => kB)
        rename_i h1' h0' off'
        obtain ⟨t', h0''⟩ := h0'
        have kX' : (hd.heap_39 w.params).In _ := Frag.In.keeps (by k_asm) (Fr.keep kF)
        refine ⟨_, _, _, _, rfl, ownE kX', kN.get List.mem_cons_self, h1', ?_⟩
        k_unfold
        refine leave_exc kB rfl rfl kF kN off' rfl h1' h0'' (fun h₂ R₂ U₂ => ?_)
        exact ret _ _ _ _ _ rfl (by assumption) U₂ R₂
      · exfalso; omega
  · obtain ⟨l1, l2⟩ : (@LT.lt Nat _ 102 _ ∧ AllLt _ rest) := by assumption
    exact ⟨by omega, by omega, by omega, by omega, allLt_mono (by omega) l2⟩
set_option maxHeartbeats 4000000 in
theorem walkerC2 (w : World) (sn : Addr) (stop : Int) (st : Tok) (c' : Addr) (oc : Obj) (rest : List (Addr × Obj)) (hco : CodeOk oc) :
    Ctr w 107 [.ref sn, .int stop st] ((c', oc) :: (102, tabObj #[rawInt 42, rawInt 4, .ref c']) :: rest) 3 20
      (fun r news' => ∃ fw fo c1 o1 c2 o2, r = .ref fw ∧ news' = ((fw, fo) :: (c2, o2) :: (c1, o1) :: (c', oc) :: (102, tabObj #[rawInt 42, rawInt 4, .ref c']) :: rest) ∧ WalkOk w fw fo c' oc c1 o1 c2 o2 sn stop ∧
        (@LT.lt Nat _ c' c1 ∧ @LT.lt Nat _ 102 c1 ∧ @LT.lt Nat _ c1 c2 ∧ @LT.lt Nat _ c2 fw ∧ AllLt c1 rest)) := by
  intro dp un gd cn cs a ccd cl outer A₀ base h₀ L m s p loose mean mg mb Q E B F X N T hk hdp hu ret
  obtain ⟨vs₀, t₀, hv₀, ht₀⟩ := hco
  refine wpAny_call ?_
  k_dflt ktr_enter
  (rename Frag.In _ _ => kX)
  have hcd : CodeHd _ 106 102 := codeHd_of_K kX (by kernel_rfl)
  k_steps
  (rename Fr _ _ _ _ => kF); (rename News _ _ _ _ => kN)
  refine ret _ _ _ _ ⟨_, _, _, _, _, _, rfl, rfl, ?_, ?_⟩ kF kN
  · clear kF kN ret hdp hu N F B X T
    refine ⟨⟨_, _, _, _, rfl⟩, ?_, ?_⟩
    · intro sv n v rest' hsv hns f1 f2 f3 f4 hof dp un gd cn cs a ccd cl outer A₀ base h₀ L m s p loose mean mg mb Q E B F X N T hk hdp hu ret
      refine wpAny_call ?_
      k_dflt kn_enter
      (rename Frag.In _ _ => kX)
      have hcd : CodeHd _ 106 102 := codeHd_of_K kX (by kernel_rfl)
      k_steps
      · exfalso; omega
      · (rename Fr _ _ _ _ => kF); (rename News _ _ _ _ => kN)
        exact ret _ _ _ _ ⟨n + 1, by simp only [List.push_toArray]⟩ kF kN
      · (rename Fr _ _ _ _ => kF); (rename News _ _ _ _ => kN)
        exact ret _ _ _ _ ⟨n + 1, by simp only [List.push_toArray]⟩ kF kN
    · intro sv n v rest' hsv hs0 hs1 dp un gd cn cs a ccd cl outer A₀ base h₀ L m s p loose mean mg mb Q E B F X N T hk hdp hu ret
      refine wpAny_call ?_
      k_dflt kn_enter
      (rename Frag.In _ _ => kX)
      have hcd : CodeHd _ 106 102 := codeHd_of_K kX (by kernel_rfl)
      k_steps
      · refine ⟨?_⟩
        (rename Fr _ _ _ _ => kF); (rename News _ _ _ _ => kN); (rename Below _ _ _ _ => kB)
        rename_i h1' h0' off'
        obtain ⟨t', h0''⟩ := h0'
        have kX' : (hd.heap_39 w.params).In _ := Frag.In.keeps (by k_asm) (Fr.keep kF)
        refine ⟨_, _, _, _, rfl, ownE kX', kN.get List.mem_cons_self, h1', ?_⟩
        k_unfold
        refine leave_exc kB rfl rfl kF kN off' rfl h1' h0'' (fun h₂ R₂ U₂ => ?_)
        exact ret _ _ _ _ _ rfl (by assumption) U₂ R₂
      · exfalso; omega
  · obtain ⟨l0, l1, l2⟩ : (@LT.lt Nat _ c' _ ∧ @LT.lt Nat _ 102 _ ∧ AllLt _ rest) := by assumption
    exact ⟨by omega, by omega, by omega, by omega, allLt_mono (by omega) l2⟩
end
theorem againT7 {M : Model} {A : Around} {Q : Unit → Shared → Prop} {E : Value → Shared → Prop} {s : Shared} (h : wpAny M A (pure ()) Q E s) : wpAny M A (pure ()) Q E s := by
  w_top off
  first | (walk1; fail) | exact h
section
abbrev nn (v : Value) : Bool := !decide (v = .none)
local macro_rules | `(tactic| walk_at "call ref") => `(tactic| (k_here; (with_reducible show wpAny _ _ (call (Prod.fst (Value.ref 73, _)) _) _ _ _); (try dsimp only [List.nil_append, List.append_nil]); k_dflt (refine' Ctr.use (awl _ _ _ _ _ _ _ _ _ ?c1) ?k1 ?k2 ?k3 ?k4 ?k5 ?k6 ?k7 ?k8 ?_; (case k1 => k_asm); (case k2 => k_asm); (case k3 => k_asm); (case k4 => first | k_asm | exact news_rot (by k_asm)); (case k5 => k_asm); (case k6 => exact rfl); (case k7 => ktr_room); (case k8 => ktr_units); (case c1 => first | assumption | omega | (simp only [List.length_map]; omega))); intro r' n' h' tk' hp' F' N'; obtain ⟨D', c', hr', hn', lD'⟩ := hp'; subst hr'; subst hn'; (try simp only [AllLt] at lD')))
local macro_rules | `(tactic| walk_at "call ref") => `(tactic| (k_here; (with_reducible show wpAny _ _ (call (Value.ref _) [_]) _ _ _); refine Stop.out ?_))
local macro_rules | `(tactic| walk_at "pyIter ref") => `(tactic| (k_here; refine Stop.out ?_))
local macro_rules | `(tactic| walk_at "UnrEnd") => `(tactic| (refine Stop.out ?_))
local macro_rules | `(tactic| walk_at "compareOp IsNot") => `(tactic| (refine Stop.out ?_))
local macro_rules | `(tactic| walk_at "leaving ref") => `(tactic| (refine Stop.out ?_))
section
variable {prog : Program} {w : World} {A : Around} {E : Value → Shared → Prop} {s : Shared} {env : Env} {h₀ : Heap} {x : Str} {body : List Stmt} {Q : Flow → Shared → Prop}
/-- a loop over a made list whose turns leave of the frame all but two names -/
theorem list_two {I : Addr} {lp : Addr × Obj} {vs : List Value} {m₀ : Str → Option Value} {news₀ : List (Addr × Obj)} (x2 : Str) (J : Nat → List (Addr × Obj) → Prop) (h0 : J 0 news₀)
    (turn : ∀ i v (u : Str → Option Value) news, vs[i]? = some v → J i news → ∀ (it : Obj) h tk, it.cls = .type "list_iterator" → Fr h₀ env.locals h (fun y => if y = x then some v else if y = x2 then u y else m₀ y) → News h₀ env.locals h ((I, it) :: news) →
      wpAny (model prog w) A (execs body env) (UnrPost h₀ env.locals { s with heap := h, toks := tk } I it (fun m' n' => lp ∈ n' ∧ (∃ u : Str → Option Value, m' = fun y => if y = x then u y else if y = x2 then u y else m₀ y) ∧ J (i + 1) n') Q) E { s with heap := h, toks := tk })
    (done : ∀ (u : Str → Option Value) news, J vs.length news → ∀ h tk, Fr h₀ env.locals h (fun y => if y = x then u y else if y = x2 then u y else m₀ y) → News h₀ env.locals h news → Q .next { s with heap := h, toks := tk }) :
    ListRest prog w A E h₀ env x body Q s I lp vs m₀ news₀ := by
  refine list_ind (fun i m' n' => (∃ u : Str → Option Value, m' = fun y => if y = x then u y else if y = x2 then u y else m₀ y) ∧ J i n') ⟨⟨m₀, by funext y; split <;> (try split) <;> rfl⟩, h0⟩ ?_ ?_
  · rintro i v m news hv ⟨⟨u, rfl⟩, hJ⟩ it h tk hc F N
    refine turn i v u news hv hJ it h tk hc ?_ N
    have e : (fun y => if y = x then some v else if y = x then u y else if y = x2 then u y else m₀ y) = fun y => if y = x then some v else if y = x2 then u y else m₀ y := by
      funext y
      by_cases hy : y = x <;> simp [hy]
    rw [e] at F
    exact F
  · rintro m news ⟨⟨u, rfl⟩, hJ⟩ h tk F N
    exact done u news hJ h tk F N
end
theorem filt_succ {q : Value → Bool} {vs : List Value} {i : Nat} {v : Value} (hv : vs[i]? = some v) : (vs.take (i + 1)).filter q = (vs.take i).filter q ++ (if q v then [v] else []) := by
  rw [List.take_add_one, hv]
  cases h : q v <;> simp [h]
theorem filt_lt {q : Value → Bool} {vs : List Value} {i : Nat} {v : Value} (hv : vs[i]? = some v) (hq : q v = true) : ((vs.take i).filter q).length < (vs.filter q).length := by
  have e : vs.filter q = (vs.take (i + 1)).filter q ++ (vs.drop (i + 1)).filter q := by rw [← List.filter_append, List.take_append_drop]
  rw [e, filt_succ hv, hq]
  simp
theorem two_names {x x2 : Str} {m₀ u : Str → Option Value} {v z : Option Value} : ∃ u' : Str → Option Value, (fun y => if y = x2 then v else if y = x then z else if y = x2 then u y else m₀ y) = fun y => if y = x then u' y else if y = x2 then u' y else m₀ y :=
  ⟨fun y => if y = x2 then v else if y = x then z else u y, by funext y; by_cases e1 : y = x <;> by_cases e2 : y = x2 <;> simp [e1, e2]⟩
theorem off_same {I : Addr} {n n' : List (Addr × Obj)} (h : ∀ p ∈ n, @LT.lt Nat _ p.1 I) (e : n'.map Prod.fst = n.map Prod.fst) : ∀ p ∈ n', @Ne Nat p.1 I := fun p hp => by
  have hm : p.1 ∈ n.map Prod.fst := e ▸ List.mem_map_of_mem hp
  obtain ⟨q, hq, e'⟩ := List.mem_map.mp hm
  exact Nat.ne_of_lt (e' ▸ h q hq)
set_option maxHeartbeats 4000000 in
theorem mapC (w : World) (x dx l : Addr) (hsh : Int) (tk0 : Tok) (n : Nat) (vs : List Value) (sn : Addr) (k : Nat) (fw : Addr) (fo : Obj) (c' : Addr) (oc : Obj) (c1 : Addr) (o1 : Obj) (c2 : Addr) (o2 : Obj) (stop : Int) (rest : List (Addr × Obj))
    (hvs : vs.length ≤ 50) (hth : ∀ v ∈ vs, Th rest v) (hW : WalkOk w fw fo c' oc c1 o1 c2 o2 sn stop) (hns : ¬ (0 < stop ∧ stop < ((vs.filter nn).length : Int)))
    (f1 : @Ne Nat fw sn) (f2 : @Ne Nat c' sn) (f3 : @Ne Nat c1 sn) (f4 : @Ne Nat c2 sn) (f5 : @Ne Nat x sn) (f6 : @Ne Nat dx sn) (f7 : @Ne Nat l sn) (hof : ∀ q ∈ rest, q.1 ≠ sn) :
    Ctr w 66 [.ref x, .ref fw] ((x, instObj 76 dx) :: (dx, dataObj hsh tk0 l) :: (l, W.listOf vs.toArray n) :: (sn, W.listOf ([] : List Value).toArray k) :: (fw, fo) :: (c', oc) :: (c2, o2) :: (c1, o1) :: rest) 20 100
      (fun _ news' => ∃ k', news' = ((x, instObj 76 dx) :: (dx, dataObj hsh tk0 l) :: (l, W.listOf vs.toArray n) :: (sn, W.listOf (vs.filter nn).toArray k') :: (fw, fo) :: (c', oc) :: (c2, o2) :: (c1, o1) :: rest)) := by
  intro dp un gd cn cs a ccd cl outer A₀ base h₀ L m s p loose mean mg mb Q E B F X N T hk hdp hu ret
  refine wpAny_call ?_
  k_dflt ktr_enter
  obtain ⟨kc, od, fd, sl, rfl⟩ := hW.fn
  (rename Frag.In _ _ => kX)
  have hcd : CodeHd _ 106 102 := codeHd_of_K kX (by kernel_rfl)
  k_steps
  refine ⟨?_⟩
  (rename Fr _ _ _ _ => kF); (rename News _ _ _ _ => kN)
  rename_i D' c'' lD'
  refine iter_listUnr (ax := D') (lo := W.listOf vs.toArray c'') (vs := vs) (n := c'') (by rfl) kF kN (by k_mem) rfl rfl ?_
  intro I hI
  refine list_two "elt" (fun i n' => ∃ k', n' = ((D', W.listOf vs.toArray c'') :: (x, instObj 76 dx) :: (dx, dataObj hsh tk0 l) :: (l, W.listOf vs.toArray n) :: (sn, W.listOf ((vs.take i).filter nn).toArray k') :: (fw, ⟨kc, od, .func fd, sl⟩) :: (c', oc) :: (c2, o2) :: (c1, o1) :: rest)) ⟨_, rfl⟩ ?_ ?_
  · rintro i v u news hv ⟨k', rfl⟩ it h' tk' hc F' N'
    k_steps
    refine ⟨?_⟩
    (rename Fr _ _ _ _ => kF2); (rename News _ _ _ _ => kN2)
    have hof' : ∀ q ∈ (I, it) :: (D', W.listOf vs.toArray c'') :: (x, instObj 76 dx) :: (dx, dataObj hsh tk0 l) :: (l, W.listOf vs.toArray n) :: rest, q.1 ≠ sn := by
      have h1 : @LT.lt Nat _ sn D' := lD'.2.2.2.1
      have h2 : @LT.lt Nat _ sn I := hI (sn, _) (by k_mem)
      intro q hq
      simp only [List.mem_cons] at hq
      rcases hq with rfl | rfl | rfl | rfl | rfl | hq
      · exact fun e => Nat.lt_irrefl _ (e ▸ h2)
      · exact fun e => Nat.lt_irrefl _ (e ▸ h1)
      · exact f5
      · exact f6
      · exact f7
      · exact hof q hq
    refine isNot_th kN2 ((hth v (List.mem_of_getElem? hv)).mono fun q hq => by simp [hq]) (.inl rfl) ?_
    by_cases hvn : v = .none
    · subst hvn
      simp only [decide_true, Bool.not_true]
      k_steps
      refine ⟨?_⟩
      (rename Fr _ _ _ _ => kF2); (rename News _ _ _ _ => kN2)
      refine UnrEnd.intro kF2 kN2 _ (fun _ hp => hp) (off_same hI rfl) ⟨by simp, two_names, k', by rw [filt_succ hv]; simp⟩
    · simp only [decide_eq_false hvn, Bool.not_false]
      k_steps
      refine ⟨?_⟩
      (rename Fr _ _ _ _ => kF2); (rename News _ _ _ _ => kN2)
      have hlt := filt_lt (q := nn) hv (by simp [hvn])
      have hN3 : News _ _ _ ((sn, W.listOf ((vs.take i).filter nn).toArray k') :: (fw, ⟨kc, od, .func fd, sl⟩) :: (c', oc) :: (c2, o2) :: (c1, o1) :: (I, it) :: (D', W.listOf vs.toArray c'') :: (x, instObj 76 dx) :: (dx, dataObj hsh tk0 l) :: (l, W.listOf vs.toArray n) :: rest) := cb_drop kN2 fun p hp => by simp only [List.mem_cons] at hp ⊢; grind
      have hle : (vs.filter nn).length ≤ vs.length := List.length_filter_le _ _
      refine' Ctr.use (hW.app ((vs.take i).filter nn) k' v _ (by omega) (by omega) f1 f2 f3 f4 hof') ?k1 ?k2 ?k3 hN3 ?k5 ?k6 ?k7 ?k8 ?_
      case k1 => k_asm
      case k2 => k_asm
      case k3 => k_asm
      case k5 => k_asm
      case k6 => exact rfl
      case k7 => ktr_room
      case k8 => ktr_units
      rintro r' n' h' tk' ⟨n₁, rfl⟩ F' N'
      k_steps
      refine ⟨?_⟩
      (rename Fr _ _ _ _ => kF2); (rename News _ _ _ _ => kN2)
      refine UnrEnd.intro kF2 kN2 ((D', W.listOf vs.toArray c'') :: (x, instObj 76 dx) :: (dx, dataObj hsh tk0 l) :: (l, W.listOf vs.toArray n) :: (sn, W.listOf ((vs.take i).filter nn ++ [v]).toArray n₁) :: (fw, ⟨kc, od, .func fd, sl⟩) :: (c', oc) :: (c2, o2) :: (c1, o1) :: rest) (fun p hp => by simp only [List.mem_cons] at hp ⊢; grind) (off_same hI rfl) ⟨by simp, two_names, n₁, by rw [filt_succ hv]; simp [hvn]⟩
  · rintro u news ⟨k', rfl⟩ h' tk' F' N'
    rw [List.take_length] at N'
    dsimp only
    k_steps
    exact ret _ _ _ _ ⟨k', rfl⟩ (by assumption) (cb_drop (by assumption) fun p hp => List.mem_cons_of_mem _ hp)
end
theorem againT8 {M : Model} {A : Around} {Q : Unit → Shared → Prop} {E : Value → Shared → Prop} {s : Shared} (h : wpAny M A (pure ()) Q E s) : wpAny M A (pure ()) Q E s := by
  w_top off
  first | (walk1; fail) | exact h
section
local macro_rules | `(tactic| walk_at "call ref") => `(tactic| (k_here; (with_reducible show wpAny _ _ (call (Prod.fst (Value.ref 73, _)) _) _ _ _); (try dsimp only [List.nil_append, List.append_nil]); k_dflt (refine' Ctr.use (awl _ _ _ _ _ _ _ _ _ ?c1) ?k1 ?k2 ?k3 ?k4 ?k5 ?k6 ?k7 ?k8 ?_; (case k1 => k_asm); (case k2 => k_asm); (case k3 => k_asm); (case k4 => first | k_asm | exact news_rot (by k_asm)); (case k5 => k_asm); (case k6 => exact rfl); (case k7 => ktr_room); (case k8 => ktr_units); (case c1 => first | assumption | omega | (simp only [List.length_map]; omega))); intro r' n' h' tk' hp' F' N'; obtain ⟨D', c', hr', hn', lD'⟩ := hp'; subst hr'; subst hn'; (try simp only [AllLt] at lD')))
local macro_rules | `(tactic| walk_at "call ref") => `(tactic| (k_here; (with_reducible show wpAny _ _ (call (Value.ref _) [_]) _ _ _); refine Stop.out ?_))
local macro_rules | `(tactic| walk_at "pyIter ref") => `(tactic| (k_here; refine Stop.out ?_))
local macro_rules | `(tactic| walk_at "UnrEnd") => `(tactic| (refine Stop.out ?_))
local macro_rules | `(tactic| walk_at "compareOp IsNot") => `(tactic| (refine Stop.out ?_))
local macro_rules | `(tactic| walk_at "leaving ref") => `(tactic| (refine Stop.out ?_))
set_option maxHeartbeats 4000000 in
theorem mapE (w : World) (x dx l : Addr) (hsh : Int) (tk0 : Tok) (n : Nat) (vs : List Value) (sn : Addr) (k : Nat) (fw : Addr) (fo : Obj) (c' : Addr) (oc : Obj) (c1 : Addr) (o1 : Obj) (c2 : Addr) (o2 : Obj) (stop : Int) (rest : List (Addr × Obj))
    (hvs : vs.length ≤ 50) (hth : ∀ v ∈ vs, Th rest v) (hW : WalkOk w fw fo c' oc c1 o1 c2 o2 sn stop) (hs0 : 0 < stop) (hs1 : stop < ((vs.filter nn).length : Int))
    (f1 : @Ne Nat fw sn) (f2 : @Ne Nat c' sn) (f3 : @Ne Nat c1 sn) (f4 : @Ne Nat c2 sn) (f5 : @Ne Nat x sn) (f6 : @Ne Nat dx sn) (f7 : @Ne Nat l sn) (hof : ∀ q ∈ rest, q.1 ≠ sn) :
    CtrE w 66 [.ref x, .ref fw] ((x, instObj 76 dx) :: (dx, dataObj hsh tk0 l) :: (l, W.listOf vs.toArray n) :: (sn, W.listOf ([] : List Value).toArray k) :: (fw, fo) :: (c', oc) :: (c2, o2) :: (c1, o1) :: rest) 25 150 (.ref 97)
      (fun news' => ∃ k', news' = ((x, instObj 76 dx) :: (dx, dataObj hsh tk0 l) :: (l, W.listOf vs.toArray n) :: (sn, W.listOf ((vs.filter nn).take stop.toNat).toArray k') :: (fw, fo) :: (c', oc) :: (c2, o2) :: (c1, o1) :: rest)) := by
  intro dp un gd cn cs a ccd cl outer A₀ base h₀ L m s p loose mean mg mb Q E B F X N T hk hdp hu ret
  refine wpAny_call ?_
  k_dflt ktr_enter
  obtain ⟨kc, od, fd, sl, rfl⟩ := hW.fn
  (rename Frag.In _ _ => kX)
  have hcd : CodeHd _ 106 102 := codeHd_of_K kX (by kernel_rfl)
  k_steps
  refine ⟨?_⟩
  (rename Fr _ _ _ _ => kF); (rename News _ _ _ _ => kN)
  rename_i D' c'' lD'
  refine iter_listUnr (ax := D') (lo := W.listOf vs.toArray c'') (vs := vs) (n := c'') (by rfl) kF kN (by k_mem) rfl rfl ?_
  intro I hI
  refine list_two "elt" (fun i n' => (((vs.take i).filter nn).length : Int) ≤ stop ∧ ∃ k', n' = ((D', W.listOf vs.toArray c'') :: (x, instObj 76 dx) :: (dx, dataObj hsh tk0 l) :: (l, W.listOf vs.toArray n) :: (sn, W.listOf ((vs.take i).filter nn).toArray k') :: (fw, ⟨kc, od, .func fd, sl⟩) :: (c', oc) :: (c2, o2) :: (c1, o1) :: rest)) ⟨by simp; omega, _, rfl⟩ ?_ ?_
  · rintro i v u news hv ⟨hle0, k', rfl⟩ it h' tk' hc F' N'
    k_steps
    refine ⟨?_⟩
    (rename Fr _ _ _ _ => kF2); (rename News _ _ _ _ => kN2)
    have hof' : ∀ q ∈ (I, it) :: (D', W.listOf vs.toArray c'') :: (x, instObj 76 dx) :: (dx, dataObj hsh tk0 l) :: (l, W.listOf vs.toArray n) :: rest, q.1 ≠ sn := by
      have h1 : @LT.lt Nat _ sn D' := lD'.2.2.2.1
      have h2 : @LT.lt Nat _ sn I := hI (sn, _) (by k_mem)
      intro q hq
      simp only [List.mem_cons] at hq
      rcases hq with rfl | rfl | rfl | rfl | rfl | hq
      · exact fun e => Nat.lt_irrefl _ (e ▸ h2)
      · exact fun e => Nat.lt_irrefl _ (e ▸ h1)
      · exact f5
      · exact f6
      · exact f7
      · exact hof q hq
    refine isNot_th kN2 ((hth v (List.mem_of_getElem? hv)).mono fun q hq => by simp [hq]) (.inl rfl) ?_
    by_cases hvn : v = .none
    · subst hvn
      simp only [decide_true, Bool.not_true]
      k_steps
      refine ⟨?_⟩
      (rename Fr _ _ _ _ => kF2); (rename News _ _ _ _ => kN2)
      refine UnrEnd.intro kF2 kN2 _ (fun _ hp => hp) (off_same hI rfl) ⟨by simp, two_names, by rw [filt_succ hv]; simpa using hle0, k', by rw [filt_succ hv]; simp⟩
    · simp only [decide_eq_false hvn, Bool.not_false]
      k_steps
      refine ⟨?_⟩
      (rename Fr _ _ _ _ => kF2); (rename News _ _ _ _ => kN2)
      have hlt := filt_lt (q := nn) hv (by simp [hvn])
      have hN3 : News _ _ _ ((sn, W.listOf ((vs.take i).filter nn).toArray k') :: (fw, ⟨kc, od, .func fd, sl⟩) :: (c', oc) :: (c2, o2) :: (c1, o1) :: (I, it) :: (D', W.listOf vs.toArray c'') :: (x, instObj 76 dx) :: (dx, dataObj hsh tk0 l) :: (l, W.listOf vs.toArray n) :: rest) := cb_drop kN2 fun p hp => by simp only [List.mem_cons] at hp ⊢; grind
      have hle : (vs.filter nn).length ≤ vs.length := List.length_filter_le _ _
      by_cases hst : (((vs.take i).filter nn).length : Int) = stop
      · refine' CtrE.use (hW.refuse ((vs.take i).filter nn) k' v _ (by omega) hs0 hst) ?k1 ?k2 ?k3 hN3 ?k5 ?k6 ?k7 ?k8 ?_
        case k1 => k_asm
        case k2 => k_asm
        case k3 => k_asm
        case k5 => k_asm
        case k6 => exact rfl
        case k7 => ktr_room
        case k8 => ktr_units
        rintro e news' g h' tk' rfl F' U' R'
        k_steps
        refine ⟨?_⟩
        (rename Below _ _ _ _ => kB)
        (try k_unfold)
        refine leave_onN kB F' R' U' (fun h₂ R₂ U₂ => ?_)
        have et : (vs.filter nn).take stop.toNat = (vs.take i).filter nn := by
          have e : vs.filter nn = (vs.take i).filter nn ++ (vs.drop i).filter nn := by rw [← List.filter_append, List.take_append_drop]
          have e2 : stop.toNat = ((vs.take i).filter nn).length := by omega
          rw [e, e2, List.take_left']
          rfl
        exact ret _ _ _ _ _ ⟨k', rfl⟩ (by assumption) U₂ (raisedN_drop R₂ fun p hp => by rw [et] at hp; simp only [List.mem_cons] at hp ⊢; grind)
      · refine' Ctr.use (hW.app ((vs.take i).filter nn) k' v _ (by omega) (by rintro ⟨-, h⟩; exact hst h) f1 f2 f3 f4 hof') ?k1 ?k2 ?k3 hN3 ?k5 ?k6 ?k7 ?k8 ?_
        case k1 => k_asm
        case k2 => k_asm
        case k3 => k_asm
        case k5 => k_asm
        case k6 => exact rfl
        case k7 => ktr_room
        case k8 => ktr_units
        rintro r' n' h' tk' ⟨n₁, rfl⟩ F' N'
        k_steps
        refine ⟨?_⟩
        (rename Fr _ _ _ _ => kF2); (rename News _ _ _ _ => kN2)
        refine UnrEnd.intro kF2 kN2 ((D', W.listOf vs.toArray c'') :: (x, instObj 76 dx) :: (dx, dataObj hsh tk0 l) :: (l, W.listOf vs.toArray n) :: (sn, W.listOf ((vs.take i).filter nn ++ [v]).toArray n₁) :: (fw, ⟨kc, od, .func fd, sl⟩) :: (c', oc) :: (c2, o2) :: (c1, o1) :: rest) (fun p hp => by simp only [List.mem_cons] at hp ⊢; grind) (off_same hI rfl) ⟨by simp, two_names, by rw [filt_succ hv]; simp [hvn]; omega, n₁, by rw [filt_succ hv]; simp [hvn]⟩
  · rintro u news ⟨hle0, -⟩
    rw [List.take_length] at hle0
    exfalso
    omega
end
theorem againT9 {M : Model} {A : Around} {Q : Unit → Shared → Prop} {E : Value → Shared → Prop} {s : Shared} (h : wpAny M A (pure ()) Q E s) : wpAny M A (pure ()) Q E s := by
  w_top off
  first | (walk1; fail) | exact h
section
/-- the law's definition in the program -/
def lawDef : Stmt := match prg.main.body.getLast? with | some s => s | none => .Pass ⟨0, 0, 0, 0⟩
/-- the body of the law's loop -/
def lawBody : List Stmt := match lawDef with
  | .FunctionDef _ _ body _ _ _ _ _ _ _ => (match body with | [_, _, _, .For _ _ b _ _, _] => b | _ => [])
  | _ => []
def lawScope : Scope := match lawDef with
  | .FunctionDef _ _ _ _ _ _ sc _ _ _ => sc
  | _ => default
abbrev lawEnv (L fa : Addr) (cd : Value) : Env := envOfC (Str.ofString "law") lawScope L fa cd
/-- the picks of one set -/
structure Row (R : List Int) (rs : List Value) : Prop where
  isI : IntsAre rs R
  rng : ∀ k ∈ R, 0 ≤ k ∧ k < 7
  nd : R.Nodup
theorem nodup_len : ∀ (n : Nat) (R : List Int), R.Nodup → (∀ k ∈ R, 0 ≤ k ∧ k < (n : Int)) → R.length ≤ n
  | 0, R, _, h => by
    cases R with
    | nil => simp
    | cons k r => have := h k (List.mem_cons_self ..); omega
  | n + 1, R, hn, h => by
    by_cases hm : (n : Int) ∈ R
    · have h1 := nodup_len n (R.erase (n : Int)) (hn.erase _) (fun k hk => by
        have := h k (List.mem_of_mem_erase hk)
        have hne : k ≠ (n : Int) := by
          rintro rfl
          exact (List.Nodup.not_mem_erase hn) hk
        omega)
      rw [List.length_erase_of_mem hm] at h1
      omega
    · have h1 := nodup_len n R hn (fun k hk => by
        have := h k hk
        have hne : k ≠ (n : Int) := by rintro rfl; exact hm hk
        omega)
      omega
theorem Row.len {R : List Int} {rs : List Value} (h : Row R rs) : R.length ≤ 7 := nodup_len 7 R h.nd h.rng
local macro_rules | `(tactic| walk_at "call ref") => `(tactic| (k_here; (with_reducible show wpAny _ _ (call (Value.ref 114) _) _ _ _); refine Stop.out ?_))
abbrev thing (tv : List Value) (k : Int) : Value := tv.getD k.toNat .none
abbrev known (ROWS SETS TH SCR : Addr) (u : Str → Option Value) : Str → Option Value := fun y => if y = Str.ofString "rows" then some (.ref ROWS) else if y = Str.ofString "sets" then some (.ref SETS) else if y = Str.ofString "things" then some (.ref TH) else if y = Str.ofString "script" then some (.ref SCR) else u y
theorem Ctr.same {w : World} {f : Addr} {args : List Value} {n1 n2 : List (Addr × Obj)} {dd uu : Nat} {post post' : Value → List (Addr × Obj) → Prop} (C : Ctr w f args n1 dd uu post) (h : ∀ p ∈ n1, p ∈ n2)
    (hp : ∀ r n', post r n' → ∃ n'', post' r n'' ∧ ∀ p ∈ n'', p ∈ n') : Ctr w f args n2 dd uu post' :=
  fun _ _ _ _ _ _ _ _ _ _ _ _ _ _ _ _ _ _ _ _ _ _ B F X N T hk hdp hu ret => C _ _ _ _ _ _ _ _ _ _ _ _ _ _ _ _ _ _ _ _ _ _ B F X (cb_drop N h) T hk hdp hu fun r n' h' tk' hr F' N' =>
    let ⟨n'', hr', hs⟩ := hp r n' hr
    ret r n'' h' tk' hr' F' (cb_drop N' hs)
theorem CtrE.same {w : World} {f : Addr} {args : List Value} {n1 n2 : List (Addr × Obj)} {dd uu : Nat} {cls : Value} {post post' : List (Addr × Obj) → Prop} (C : CtrE w f args n1 dd uu cls post) (h : ∀ p ∈ n1, p ∈ n2)
    (hp : ∀ n', post n' → ∃ n'', post' n'' ∧ ∀ p ∈ n'', p ∈ n') : CtrE w f args n2 dd uu cls post' :=
  fun _ _ _ _ _ _ _ _ _ _ _ _ _ _ _ _ _ _ _ _ _ _ B F X N T hk hdp hu ret => C _ _ _ _ _ _ _ _ _ _ _ _ _ _ _ _ _ _ _ _ _ _ B F X (cb_drop N h) T hk hdp hu fun e n' g h' tk' hr F' U R =>
    let ⟨n'', hr', hs⟩ := hp n' hr
    ret e n'' g h' tk' hr' F' U (raisedN_drop R hs)
/-- the ledger between two deeds: the lists of the law, the set at hand, the other set -/
abbrev canon (ROWS SETS TH : Addr) (rl sl tv : List Value) (kr ks kt : Nat) (hsh : Int) (r : Addr) (rs : List Value) (rn : Nat) (x dx : Addr) (t : Tok) (l : Addr) (vs : List Value) (n : Nat) (r2 : Addr) (rs2 : List Value) (rn2 : Nat) (y dy : Addr) (t2 : Tok) (l2 : Addr) (vs2 : List Value) (n2 : Nat) (rest : List (Addr × Obj)) : List (Addr × Obj) :=
  (x, instObj 76 dx) :: (dx, dataObj hsh t l) :: (l, W.listOf vs.toArray n) :: (r, W.listOf rs.toArray rn) :: (y, instObj 76 dy) :: (dy, dataObj hsh t2 l2) :: (l2, W.listOf vs2.toArray n2) :: (r2, W.listOf rs2.toArray rn2) :: (ROWS, W.listOf rl.toArray kr) :: (SETS, W.listOf sl.toArray ks) :: (TH, W.listOf tv.toArray kt) :: rest
theorem held1 (w : World) {ROWS SETS TH x y dx dy l l2 r r2 : Addr} {rl sl tv : List Value} {kr ks kt n n2 rn rn2 : Nat} {hsh : Int} {t t2 : Tok} {R R2 : List Int} {rs rs2 : List Value} {rest : List (Addr × Obj)} 
    (hR : Row R rs) (htv : tv.length = 7) (hnd : tv.Nodup) (hth : ∀ v ∈ tv, Th rest v) :
    Ctr w 114 [.ref x, .ref r, .ref TH] (canon ROWS SETS TH rl sl tv kr ks kt hsh r rs rn x dx t l (R.map (thing tv)) n r2 rs2 rn2 y dy t2 l2 (R2.map (thing tv)) n2 rest) 7 50
      (fun v news' => v = .bool true ∧ news' = canon ROWS SETS TH rl sl tv kr ks kt hsh r rs rn x dx t l (R.map (thing tv)) n r2 rs2 rn2 y dy t2 l2 (R2.map (thing tv)) n2 rest) :=
  Ctr.same (heldC w x dx l hsh t n r TH rn kt R rs tv ((y, instObj 76 dy) :: (dy, dataObj hsh t2 l2) :: (l2, W.listOf (R2.map (thing tv)).toArray n2) :: (r2, W.listOf rs2.toArray rn2) :: (ROWS, W.listOf rl.toArray kr) :: (SETS, W.listOf sl.toArray ks) :: rest) hR.len hR.isI (fun v hv => (hth v hv).mono fun p hp => by simp [hp]) htv hR.rng hnd)
    (fun p hp => by simp only [canon, List.mem_cons] at hp ⊢; grind) (fun r' n' h => ⟨_, ⟨h.1, rfl⟩, fun p hp => by rw [h.2]; simp only [canon, List.mem_cons] at hp ⊢; grind⟩)
theorem canon_swap {ROWS SETS TH x y dx dy l l2 r r2 : Addr} {rl sl tv : List Value} {kr ks kt n n2 rn rn2 : Nat} {hsh : Int} {t t2 : Tok} {vs vs2 : List Value} {rs rs2 : List Value} {rest : List (Addr × Obj)} :
    ∀ p ∈ canon ROWS SETS TH rl sl tv kr ks kt hsh r rs rn x dx t l vs n r2 rs2 rn2 y dy t2 l2 vs2 n2 rest, p ∈ canon ROWS SETS TH rl sl tv kr ks kt hsh r2 rs2 rn2 y dy t2 l2 vs2 n2 r rs rn x dx t l vs n rest := fun p hp => by
  simp only [canon, List.mem_cons] at hp ⊢; grind
theorem held2 (w : World) {ROWS SETS TH x y dx dy l l2 r r2 : Addr} {rl sl tv : List Value} {kr ks kt n n2 rn rn2 : Nat} {hsh : Int} {t t2 : Tok} {R R2 : List Int} {rs rs2 : List Value} {rest : List (Addr × Obj)} 
    (hR2 : Row R2 rs2) (htv : tv.length = 7) (hnd : tv.Nodup) (hth : ∀ v ∈ tv, Th rest v) :
    Ctr w 114 [.ref y, .ref r2, .ref TH] (canon ROWS SETS TH rl sl tv kr ks kt hsh r rs rn x dx t l (R.map (thing tv)) n r2 rs2 rn2 y dy t2 l2 (R2.map (thing tv)) n2 rest) 7 50
      (fun v news' => v = .bool true ∧ news' = canon ROWS SETS TH rl sl tv kr ks kt hsh r rs rn x dx t l (R.map (thing tv)) n r2 rs2 rn2 y dy t2 l2 (R2.map (thing tv)) n2 rest) :=
  Ctr.same (held1 w hR2 htv hnd hth) canon_swap (fun r' n' h => ⟨_, ⟨h.1, rfl⟩, fun p hp => h.2 ▸ canon_swap p hp⟩)
local macro_rules | `(tactic| walk_at "call ref") => `(tactic| (k_here; (with_reducible show wpAny _ _ (call (Value.ref 114) _) _ _ _); k_dflt (first
  | (refine' Ctr.use (held1 _ ?c1 ?c2 ?c3 ?c4) ?k1 ?k2 ?k3 ?k4 ?k5 ?k6 ?k7 ?k8 ?_; (case k4 => assumption); (case c1 => assumption); (case c2 => assumption); (case c3 => assumption); (case c4 => assumption); (case k1 => k_asm); (case k2 => k_asm); (case k3 => k_asm); (case k5 => k_asm); (case k6 => exact rfl); (case k7 => ktr_room); (case k8 => ktr_units))
  | (refine' Ctr.use (held2 _ ?c1 ?c2 ?c3 ?c4) ?k1 ?k2 ?k3 ?k4 ?k5 ?k6 ?k7 ?k8 ?_; (case k4 => assumption); (case c1 => assumption); (case c2 => assumption); (case c3 => assumption); (case c4 => assumption); (case k1 => k_asm); (case k2 => k_asm); (case k3 => k_asm); (case k5 => k_asm); (case k6 => exact rfl); (case k7 => ktr_room); (case k8 => ktr_units))); intro r' n' h' tk' hp' F' N'; obtain ⟨hr', hn'⟩ := hp'; subst hr'; subst hn'; delta canon at N'))
set_option maxHeartbeats 4000000 in
theorem turn_end (w : World) (h₀ : Heap) (L fa : Addr) (cd : Value) (p : Program) (loose : List Str) (mean : ExcName → Option Value) (mg mb : Str → Option Value) (s : Shared) (Q : Flow → Shared → Prop) (E : Value → Shared → Prop)
    (ROWS SETS TH SCR x y dx dy l l2 r r2 : Addr) (rl sl tv : List Value) (kr ks kt n n2 rn rn2 : Nat) (hsh : Int) (t t2 : Tok) (R R2 : List Int) (rs rs2 : List Value) (rest : List (Addr × Obj)) (u : Str → Option Value)
    (hrl : (rl = [.ref r, .ref r2] ∧ sl = [.ref x, .ref y]) ∨ (rl = [.ref r2, .ref r] ∧ sl = [.ref y, .ref x]))
    (hR : Row R rs) (hR2 : Row R2 rs2) (htv : tv.length = 7) (hnd : tv.Nodup) (hth : ∀ v ∈ tv, Th rest v)
    (K : Below callerA h₀ [] h₀) (X : (hd.heap_39 w.params).In h₀) (T : Top p loose mean mg mb h₀)
    (F : Fr h₀ L s.heap (known ROWS SETS TH SCR u))
    (N : News h₀ L s.heap (canon ROWS SETS TH rl sl tv kr ks kt hsh r rs rn x dx t l (R.map (thing tv)) n r2 rs2 rn2 y dy t2 l2 (R2.map (thing tv)) n2 rest))
    (hQ : ∀ h' tk', Fr h₀ L h' (known ROWS SETS TH SCR u) → News h₀ L h' (canon ROWS SETS TH rl sl tv kr ks kt hsh r rs rn x dx t l (R.map (thing tv)) n r2 rs2 rn2 y dy t2 l2 (R2.map (thing tv)) n2 rest) → Q .next { s with heap := h', toks := tk' }) :
    wpAny (model prg w) (callerA.deeper (lawEnv L fa cd)) (execs (lawBody.drop 11) (lawEnv L fa cd)) Q E s := by
  conv in List.drop 11 lawBody => whnf
  delta lawEnv
  generalize hsc : lawScope = sc
  conv at hsc => lhs; whnf
  subst hsc
  delta known at F hQ
  delta canon at N hQ
  rcases hrl with ⟨rfl, rfl⟩ | ⟨rfl, rfl⟩
  all_goals k_steps
  all_goals (rename Fr _ _ _ _ => kF); (rename News _ _ _ _ => kN)
  all_goals exact hQ _ _ kF kN
end
theorem againT10 {M : Model} {A : Around} {Q : Unit → Shared → Prop} {E : Value → Shared → Prop} {s : Shared} (h : wpAny M A (pure ()) Q E s) : wpAny M A (pure ()) Q E s := by
  w_top off
  first | (walk1; fail) | exact h
section
/-- a mark on an address: two marks, two addresses -/
structure Tag (T : Nat → Nat) (a i : Nat) : Prop where
  eq : T a = i
theorem tag_ne {T : Nat → Nat} {a b i j : Nat} (ha : Tag T a i) (hb : Tag T b j) (h : Nat.beq i j = false) : @Ne Nat a b := by
  rintro rfl
  have := ha.eq.symm.trans hb.eq
  subst this
  simp at h
/-- the marks of the canonical ledger -/
structure Tags (T : Nat → Nat) (x dx l r y dy l2 r2 ROWS SETS TH CELL : Nat) (rest : List (Addr × Obj)) : Prop where
  x : Tag T x 1
  dx : Tag T dx 2
  l : Tag T l 3
  r : Tag T r 4
  y : Tag T y 5
  dy : Tag T dy 6
  l2 : Tag T l2 7
  r2 : Tag T r2 8
  ro : Tag T ROWS 9
  se : Tag T SETS 10
  th : Tag T TH 11
  ce : Tag T CELL 12
  re : ∀ q ∈ rest, 20 ≤ T q.1
theorem tag_all {T : Nat → Nat} {rest : List (Addr × Obj)} {a i : Nat} (h : ∀ q ∈ rest, 20 ≤ T q.1) (ha : Tag T a i) (hi : Nat.ble 20 i = false) : ∀ q ∈ rest, @Ne Nat q.1 a := fun q hq e => by
  have := h q hq
  rw [e, ha.eq] at this
  rw [Nat.ble_eq_true_of_le this] at hi
  cases hi
section
variable {T : Nat → Nat} {x dx l r y dy l2 r2 ROWS SETS TH CELL : Nat} {rest : List (Addr × Obj)}
theorem Tags.swap (h : Tags T x dx l r y dy l2 r2 ROWS SETS TH CELL rest) : ∃ T', Tags T' y dy l2 r2 x dx l r ROWS SETS TH CELL rest := by
  refine ⟨fun a => if T a ≤ 4 ∧ 1 ≤ T a then T a + 4 else if T a ≤ 8 ∧ 5 ≤ T a then T a - 4 else T a, ?_⟩
  obtain ⟨⟨h1⟩, ⟨h2⟩, ⟨h3⟩, ⟨h4⟩, ⟨h5⟩, ⟨h6⟩, ⟨h7⟩, ⟨h8⟩, ⟨h9⟩, ⟨h10⟩, ⟨h11⟩, ⟨h12⟩, h13⟩ := h
  constructor
  all_goals first | (constructor; simp [*]; done) | skip
  intro q hq
  have := h13 q hq
  show 20 ≤ (if T q.1 ≤ 4 ∧ 1 ≤ T q.1 then T q.1 + 4 else if T q.1 ≤ 8 ∧ 5 ≤ T q.1 then T q.1 - 4 else T q.1)
  split
  · omega
  · split <;> omega
theorem tag_fresh {D a i k : Nat} (h : Tag T a i) (hD : @Ne Nat a D) (hk : Nat.beq i k = false) : Tag (fun a => if a = D then k else if T a = k then 0 else T a) a i := by
  constructor
  have : ¬ i = k := by intro e; subst e; simp at hk
  simp [hD, this, h.eq]
theorem re_fresh {D k : Nat} (h : ∀ q ∈ rest, 20 ≤ T q.1) (hD : ∀ q ∈ rest, @Ne Nat q.1 D) (hk : k < 20) : ∀ q ∈ rest, 20 ≤ (fun a => if a = D then k else if T a = k then 0 else T a) q.1 := fun q hq => by
  have h1 := h q hq
  have h2 := hD q hq
  have : ¬ T q.1 = k := by omega
  simp [h2, this, h1]
theorem Tags.newr {D : Nat} (h : Tags T x dx l r y dy l2 r2 ROWS SETS TH CELL rest) (e1 : @Ne Nat x D) (e2 : @Ne Nat dx D) (e3 : @Ne Nat l D) (e5 : @Ne Nat y D) (e6 : @Ne Nat dy D) (e7 : @Ne Nat l2 D) (e8 : @Ne Nat r2 D) (e9 : @Ne Nat ROWS D) (e10 : @Ne Nat SETS D) (e11 : @Ne Nat TH D) (e12 : @Ne Nat CELL D) (e13 : ∀ q ∈ rest, @Ne Nat q.1 D) :
    ∃ T', Tags T' x dx l D y dy l2 r2 ROWS SETS TH CELL rest :=
  ⟨fun a => if a = D then 4 else if T a = 4 then 0 else T a, tag_fresh h.x e1 (by decide), tag_fresh h.dx e2 (by decide), tag_fresh h.l e3 (by decide), ⟨by simp⟩, tag_fresh h.y e5 (by decide), tag_fresh h.dy e6 (by decide), tag_fresh h.l2 e7 (by decide), tag_fresh h.r2 e8 (by decide), tag_fresh h.ro e9 (by decide), tag_fresh h.se e10 (by decide), tag_fresh h.th e11 (by decide), tag_fresh h.ce e12 (by decide), re_fresh h.re e13 (by decide)⟩
theorem Tags.newl {D : Nat} (h : Tags T x dx l r y dy l2 r2 ROWS SETS TH CELL rest) (e1 : @Ne Nat x D) (e2 : @Ne Nat dx D) (e3 : @Ne Nat r D) (e5 : @Ne Nat y D) (e6 : @Ne Nat dy D) (e7 : @Ne Nat l2 D) (e8 : @Ne Nat r2 D) (e9 : @Ne Nat ROWS D) (e10 : @Ne Nat SETS D) (e11 : @Ne Nat TH D) (e12 : @Ne Nat CELL D) (e13 : ∀ q ∈ rest, @Ne Nat q.1 D) :
    ∃ T', Tags T' x dx D r y dy l2 r2 ROWS SETS TH CELL rest :=
  ⟨fun a => if a = D then 3 else if T a = 3 then 0 else T a, tag_fresh h.x e1 (by decide), tag_fresh h.dx e2 (by decide), ⟨by simp⟩, tag_fresh h.r e3 (by decide), tag_fresh h.y e5 (by decide), tag_fresh h.dy e6 (by decide), tag_fresh h.l2 e7 (by decide), tag_fresh h.r2 e8 (by decide), tag_fresh h.ro e9 (by decide), tag_fresh h.se e10 (by decide), tag_fresh h.th e11 (by decide), tag_fresh h.ce e12 (by decide), re_fresh h.re e13 (by decide)⟩
end
/-- the code table's part of the ledger -/
def TabOk (tab : List (Addr × Obj)) : Prop := tab = [(102, tabObj #[])] ∨ ∃ c' oc, tab = [(c', oc), (102, tabObj #[rawInt 42, rawInt 4, .ref c'])] ∧ CodeOk oc
def Mid (h₀ : Heap) (L : Addr) (tv : List Value) (ROWS SETS TH SCR x y dx dy : Addr) (ks kt : Nat) (hsh : Int) (t t2 : Tok) (rest : List (Addr × Obj)) (o : Bool) (wh pk mo : Int) (h : Heap) : Prop :=
  ∃ (m : Str → Option Value) (l l2 r r2 : Addr) (kr n n2 rn rn2 : Nat) (R R2 : List Int) (rs rs2 : List Value) (ck : Obj) (tab : List (Addr × Obj)) (tg : Nat → Nat) (tm tw ti tp : Tok),
    Fr h₀ L h m ∧ News h₀ L h (canon ROWS SETS TH (if o then [.ref r2, .ref r] else [.ref r, .ref r2]) (if o then [.ref y, .ref x] else [.ref x, .ref y]) tv kr ks kt hsh r rs rn x dx t l (R.map (thing tv)) n r2 rs2 rn2 y dy t2 l2 (R2.map (thing tv)) n2 ((L + 1, ck) :: (tab ++ rest))) ∧
    (m (Str.ofString "one") = some (.ref x) ∧ m (Str.ofString "more") = some (.int mo tm) ∧ m (Str.ofString "what") = some (.int wh tw) ∧ m (Str.ofString "index") = some (.int (if o then 1 else 0) ti) ∧
      m (Str.ofString "rows") = some (.ref ROWS) ∧ m (Str.ofString "sets") = some (.ref SETS) ∧ m (Str.ofString "things") = some (.ref TH) ∧ m (Str.ofString "script") = some (.ref SCR)) ∧
    Row R rs ∧ Row R2 rs2 ∧ ck.data = .cell (some (.int pk tp)) ∧ TabOk tab ∧ Tags tg x dx l r y dy l2 r2 ROWS SETS TH (L + 1) (tab ++ rest)
theorem map_norm {m : Str → Option Value} {a b c d e f g i : Value}
    (h : m (Str.ofString "one") = some a ∧ m (Str.ofString "more") = some b ∧ m (Str.ofString "what") = some c ∧ m (Str.ofString "index") = some d ∧ m (Str.ofString "rows") = some e ∧ m (Str.ofString "sets") = some f ∧ m (Str.ofString "things") = some g ∧ m (Str.ofString "script") = some i) :
    m = fun z => if z = Str.ofString "one" then some a else if z = Str.ofString "more" then some b else if z = Str.ofString "what" then some c else if z = Str.ofString "index" then some d else if z = Str.ofString "rows" then some e else if z = Str.ofString "sets" then some f else if z = Str.ofString "things" then some g else if z = Str.ofString "script" then some i else m z := by
  obtain ⟨h1, h2, h3, h4, h5, h6, h7, h8⟩ := h
  funext z
  repeat' split
  all_goals first | (subst_vars; assumption) | rfl
section
variable {w : World} {ROWS SETS TH x y dx dy l l2 r r2 : Addr} {rl sl tv : List Value} {kr ks kt n n2 rn rn2 : Nat} {hsh : Int} {t t2 : Tok} {vs vs2 : List Value} {rs rs2 : List Value} {rest : List (Addr × Obj)} {T : Nat → Nat} {CELL : Addr}
theorem add1 {ob : Value} {ck : Obj} {rest' : List (Addr × Obj)} (hvs : vs.length ≤ 100) (hth : ∀ v ∈ vs, Th rest v) (hob : Th rest ob) (g : Tags T x dx l r y dy l2 r2 ROWS SETS TH CELL rest') (hr : rest = (CELL, ck) :: rest') :
    Ctr w 47 [.ref x, ob] (canon ROWS SETS TH rl sl tv kr ks kt hsh r rs rn x dx t l vs n r2 rs2 rn2 y dy t2 l2 vs2 n2 rest) 5 30 (fun _ news' => ∃ n', news' = canon ROWS SETS TH rl sl tv kr ks kt hsh r rs rn x dx t l (if vs.contains ob then vs else vs ++ [ob]) n' r2 rs2 rn2 y dy t2 l2 vs2 n2 rest) := by
  subst hr
  exact Ctr.same (addC w x dx l hsh t n vs ob ((r, W.listOf rs.toArray rn) :: (y, instObj 76 dy) :: (dy, dataObj hsh t2 l2) :: (l2, W.listOf vs2.toArray n2) :: (r2, W.listOf rs2.toArray rn2) :: (ROWS, W.listOf rl.toArray kr) :: (SETS, W.listOf sl.toArray ks) :: (TH, W.listOf tv.toArray kt) :: (CELL, ck) :: rest') hvs
    (fun v hv => (hth v hv).mono fun p hp => by simp only [List.mem_cons] at hp ⊢; grind) (hob.mono fun p hp => by simp only [List.mem_cons] at hp ⊢; grind) (tag_ne g.x g.l (by decide)) (tag_ne g.dx g.l (by decide))
    (by
      simp only [List.forall_mem_cons]
      exact ⟨tag_ne g.r g.l (by decide), tag_ne g.y g.l (by decide), tag_ne g.dy g.l (by decide), tag_ne g.l2 g.l (by decide), tag_ne g.r2 g.l (by decide), tag_ne g.ro g.l (by decide), tag_ne g.se g.l (by decide), tag_ne g.th g.l (by decide), tag_ne g.ce g.l (by decide), tag_all g.re g.l (by decide)⟩))
    (fun p hp => hp) (fun r' n' ⟨k, h⟩ => ⟨_, ⟨k, rfl⟩, fun p hp => by rw [h]; exact hp⟩)
end
end
theorem againT11 {M : Model} {A : Around} {Q : Unit → Shared → Prop} {E : Value → Shared → Prop} {s : Shared} (h : wpAny M A (pure ()) Q E s) : wpAny M A (pure ()) Q E s := by
  w_top off
  first | (walk1; fail) | exact h
section
def lawSt (k : Nat) : Stmt := lawBody.getD k (.Pass ⟨0, 0, 0, 0⟩)
theorem Row.things {R : List Int} {rs tv : List Value} (h : Row R rs) (htv : tv.length = 7) {n : List (Addr × Obj)} (hth : ∀ v ∈ tv, Th n v) : ∀ v ∈ R.map (thing tv), Th n v := by
  intro v hv
  obtain ⟨k, hk, rfl⟩ := List.mem_map.mp hv
  exact hth _ (pk_mem htv (h.rng k hk))
theorem Row.app {R : List Int} {rs ws : List Value} {k : Int} (h : Row R rs) (hk : 0 ≤ k ∧ k < 7) (ha : (R.any fun x => x == k) = false) (hi : IntsAre ws (R ++ [k])) : Row (R ++ [k]) ws := by
  refine ⟨hi, ?_, ?_⟩
  · intro q hq
    rcases List.mem_append.mp hq with hq | hq
    · exact h.rng q hq
    · rw [List.mem_singleton.mp hq]; exact hk
  · rw [List.nodup_append]
    refine ⟨h.nd, by simp, ?_⟩
    intro a ha' b hb e
    rw [List.mem_singleton.mp hb] at e
    subst e
    have := List.any_eq_false.mp ha a ha'
    simp at this
local macro_rules | `(tactic| k_ne) => `(tactic| (refine neN ?_; (try dsimp only); exact tag_ne (by assumption) (by assumption) (by decide)))
local macro_rules | `(tactic| k_all) => `(tactic| assumption)
local macro_rules | `(tactic| walk_at "subscriptTail") => `(tactic| (k_here; (with_reducible show wpAny _ _ (subscriptTail _ _ (Value.ref _) (Value.int _ _)) _ _ _); k_dflt (first
  | (refine' item_of ?hl ?h0 ?hhi ?hz ?_ ?hs; (case hl => exact News.isList (by k_asm) (by k_mem)); (case hs => with_unfolding_all rfl); (case h0 => omega); (case hhi => (try simp only [List.length_map]); omega); (case hz => (try simp only [List.length_map]); omega)))))
local macro_rules | `(tactic| walk_at "call ref") => `(tactic| (k_here; (with_reducible show wpAny _ _ (call (Value.ref 47) _) _ _ _); k_dflt (refine' Ctr.use (add1 ?c1 ?c2 ?c3 ?c4 rfl) ?k1 ?k2 ?k3 ?k4 ?k5 ?k6 ?k7 ?k8 ?_; (case k4 => assumption); (case c4 => assumption); (case c1 => first | assumption | omega | (simp only [List.length_map]; omega)); (case c2 => assumption); (case c3 => assumption); (case k1 => k_asm); (case k2 => k_asm); (case k3 => k_asm); (case k5 => k_asm); (case k6 => exact rfl); (case k7 => ktr_room); (case k8 => ktr_units)); intro r' n' h' tk' hp' F' N'; obtain ⟨k', hn'⟩ := hp'; subst hn'; delta canon at N'))
local macro_rules | `(tactic| walk_at "compareOp NotIn int ref") => `(tactic| (k_here; k_dflt (refine notin_list_ints (News.isList (by k_asm) (by k_mem)) (by assumption) ?_)))
local macro_rules | `(tactic| walk_at "compareOp In int ref") => `(tactic| (k_here; k_dflt (refine in_list_ints (News.isList (by k_asm) (by k_mem)) (by assumption) ?_)))
set_option maxHeartbeats 4000000 in
theorem st_add (w : World) (h₀ : Heap) (L fa : Addr) (cd : Value) (p : Program) (loose : List Str) (mean : ExcName → Option Value) (mg mb : Str → Option Value) (s : Shared) (Q : Flow → Shared → Prop) (E : Value → Shared → Prop)
    (ROWS SETS TH SCR x y dx dy : Addr) (tv : List Value) (ks kt : Nat) (hsh : Int) (t t2 : Tok) (rest : List (Addr × Obj)) (o : Bool) (wh pk mo : Int) (hpk0 : 0 ≤ pk) (hpk7 : pk < 7)
    (htv : tv.length = 7) (hnd : tv.Nodup) (hth : ∀ v ∈ tv, Th rest v)
    (K : Below callerA h₀ [] h₀) (X : (hd.heap_39 w.params).In h₀) (T : Top p loose mean mg mb h₀)
    (M : Mid h₀ L tv ROWS SETS TH SCR x y dx dy ks kt hsh t t2 rest o wh pk mo s.heap)
    (hQ : ∀ h' tk', Mid h₀ L tv ROWS SETS TH SCR x y dx dy ks kt hsh t t2 rest o wh pk mo h' → Q .next { s with heap := h', toks := tk' }) :
    wpAny (model prg w) (callerA.deeper (lawEnv L fa cd)) (exec (lawSt 6) (lawEnv L fa cd)) Q E s := by
  conv in lawSt 6 => whnf
  delta lawEnv
  generalize hlsc : lawScope = lsc
  conv at hlsc => lhs; whnf
  subst hlsc
  obtain ⟨m, l, l2, r, r2, kr, n, n2, rn, rn2, R, R2, rs, rs2, ck, tab, tg, tm, tw, ti, tp, F, N, hm, hR, hR2, hck, htab, g⟩ := M
  have hF := F
  rw [map_norm hm] at F
  have hlen := hR.len
  have hrs := hR.isI
  have hrs2 := hR2.isI
  have hrl := hrs.length
  have hth' : ∀ v ∈ tv, Th ((L + 1, ck) :: (tab ++ rest)) v := fun v hv => (hth v hv).mono fun p hp => by simp [hp]
  have hthv := hR.things htv hth'
  have hob := hth' _ (pk_mem htv ⟨hpk0, hpk7⟩)
  have hN := N
  have hoffR := tag_all g.re g.ro (by decide)
  obtain ⟨g1, g2, g3, g4, g5, g6, g7, g8, g9, g10, g11, g12, -⟩ := id g
  delta canon at N
  cases o
  all_goals (simp only [if_true, if_false, Bool.false_eq_true] at F N; k_steps)
  all_goals first
    | (refine hQ _ _ ⟨m, l, l2, r, r2, kr, n, n2, rn, rn2, R, R2, rs, rs2, ck, tab, tg, tm, tw, ti, tp, hF, hN, hm, hR, hR2, hck, htab, g⟩; done)
    | ((rename (List.any R _ = true) => ha); (rename Fr _ _ _ _ => kF); (rename News _ _ _ _ => kN)
       rw [contains_pk htv hnd ⟨hpk0, hpk7⟩ hR.rng, ha, if_pos rfl] at kN
       exact hQ _ _ ⟨_, l, l2, r, r2, kr, _, n2, rn, rn2, R, R2, rs, rs2, ck, tab, tg, tm, tw, ti, tp, kF, kN, ⟨rfl, rfl, rfl, rfl, rfl, rfl, rfl, rfl⟩, hR, hR2, hck, htab, g⟩)
    | ((rename (List.any R _ = false) => ha); (rename Fr _ _ _ _ => kF); (rename News _ _ _ _ => kN); (rename IntsAre _ (R ++ [pk]) => hI); (rename And _ _ => lD)
       obtain ⟨e0, e1, e2, e3, e4, e5, e6, e7, e8, e9, e10, e11, e12, e13⟩ := lD
       rw [contains_pk htv hnd ⟨hpk0, hpk7⟩ hR.rng, ha, if_neg (by decide)] at kN
       obtain ⟨tg', g'⟩ := g.newr (Nat.ne_of_lt e1) (Nat.ne_of_lt e2) (Nat.ne_of_lt e3) (Nat.ne_of_lt e5) (Nat.ne_of_lt e6) (Nat.ne_of_lt e7) (Nat.ne_of_lt e8) (Nat.ne_of_lt e9) (Nat.ne_of_lt e10) (Nat.ne_of_lt e11) (Nat.ne_of_lt e12) (fun q hq => Nat.ne_of_lt (allLt_ne e13 q hq))
       have e : R.map (thing tv) ++ [tv.getD pk.toNat Value.none] = (R ++ [pk]).map (thing tv) := by rw [List.map_append]; rfl
       rw [e] at kN
       exact hQ _ _ ⟨_, l, l2, _, r2, kr, _, n2, _, rn2, R ++ [pk], R2, _, rs2, ck, tab, tg', tm, tw, ti, tp, kF, cb_drop kN (by delta canon; (repeat (refine List.forall_mem_cons.mpr ⟨by k_mem, ?_⟩)); intro p hp; (repeat (first | exact hp | refine List.mem_cons_of_mem _ ?_))), ⟨rfl, rfl, rfl, rfl, rfl, rfl, rfl, rfl⟩, hR.app ⟨hpk0, hpk7⟩ ha hI, hR2, hck, htab, g'⟩)
end
theorem againT12 {M : Model} {A : Around} {Q : Unit → Shared → Prop} {E : Value → Shared → Prop} {s : Shared} (h : wpAny M A (pure ()) Q E s) : wpAny M A (pure ()) Q E s := by
  w_top off
  first | (walk1; fail) | exact h
section
section
variable {w : World} {ROWS SETS TH x y dx dy l l2 r r2 : Addr} {rl sl tv : List Value} {kr ks kt n n2 rn rn2 : Nat} {hsh : Int} {t t2 : Tok} {vs vs2 : List Value} {rs rs2 : List Value} {rest : List (Addr × Obj)} {T : Nat → Nat} {CELL : Addr}
theorem rem1 {ob : Value} {ck : Obj} (hvs : vs.length ≤ 100) (hth : ∀ v ∈ vs, Th ((CELL, ck) :: rest) v) (hob : Th ((CELL, ck) :: rest) ob) (g : Tags T x dx l r y dy l2 r2 ROWS SETS TH CELL rest) (hin : vs.contains ob = true) :
    Ctr w 52 [.ref x, ob] (canon ROWS SETS TH rl sl tv kr ks kt hsh r rs rn x dx t l vs n r2 rs2 rn2 y dy t2 l2 vs2 n2 ((CELL, ck) :: rest)) 5 30 (fun _ news' => ∃ l' n' T', news' = canon ROWS SETS TH rl sl tv kr ks kt hsh r rs rn x dx t l' (vs.filter fun v => !decide (v = ob)) n' r2 rs2 rn2 y dy t2 l2 vs2 n2 ((CELL, ck) :: rest) ∧ Tags T' x dx l' r y dy l2 r2 ROWS SETS TH CELL rest) := by
  refine Ctr.same (remC w x dx l hsh t n vs ob ((r, W.listOf rs.toArray rn) :: (y, instObj 76 dy) :: (dy, dataObj hsh t2 l2) :: (l2, W.listOf vs2.toArray n2) :: (r2, W.listOf rs2.toArray rn2) :: (ROWS, W.listOf rl.toArray kr) :: (SETS, W.listOf sl.toArray ks) :: (TH, W.listOf tv.toArray kt) :: (CELL, ck) :: rest) hvs
    (fun v hv => (hth v hv).mono fun p hp => by simp only [List.mem_cons] at hp ⊢; grind) (hob.mono fun p hp => by simp only [List.mem_cons] at hp ⊢; grind) (tag_ne g.x g.l (by decide)) (tag_ne g.dx g.l (by decide)) (tag_ne g.x g.dx (by decide))
    (by
      simp only [List.forall_mem_cons]
      exact ⟨tag_ne g.r g.l (by decide), tag_ne g.y g.l (by decide), tag_ne g.dy g.l (by decide), tag_ne g.l2 g.l (by decide), tag_ne g.r2 g.l (by decide), tag_ne g.ro g.l (by decide), tag_ne g.se g.l (by decide), tag_ne g.th g.l (by decide), tag_ne g.ce g.l (by decide), tag_all g.re g.l (by decide)⟩)
    (by
      simp only [List.forall_mem_cons]
      exact ⟨tag_ne g.r g.dx (by decide), tag_ne g.y g.dx (by decide), tag_ne g.dy g.dx (by decide), tag_ne g.l2 g.dx (by decide), tag_ne g.r2 g.dx (by decide), tag_ne g.ro g.dx (by decide), tag_ne g.se g.dx (by decide), tag_ne g.th g.dx (by decide), tag_ne g.ce g.dx (by decide), tag_all g.re g.dx (by decide)⟩) hin)
    (fun p hp => hp) ?_
  rintro r' n' ⟨l', k, h, e1, e2, e3⟩
  simp only [List.forall_mem_cons] at e3
  obtain ⟨T', g'⟩ := g.newl e1 e2 e3.1 e3.2.1 e3.2.2.1 e3.2.2.2.1 e3.2.2.2.2.1 e3.2.2.2.2.2.1 e3.2.2.2.2.2.2.1 e3.2.2.2.2.2.2.2.1 e3.2.2.2.2.2.2.2.2.1 e3.2.2.2.2.2.2.2.2.2
  exact ⟨_, ⟨l', k, T', rfl, g'⟩, fun p hp => by rw [h]; exact hp⟩
theorem remE1 {ob : Value} {ck : Obj} (hvs : vs.length ≤ 100) (hth : ∀ v ∈ vs, Th ((CELL, ck) :: rest) v) (hob : Th ((CELL, ck) :: rest) ob) (hin : vs.contains ob = false) :
    CtrE w 52 [.ref x, ob] (canon ROWS SETS TH rl sl tv kr ks kt hsh r rs rn x dx t l vs n r2 rs2 rn2 y dy t2 l2 vs2 n2 ((CELL, ck) :: rest)) 5 30 (.type "KeyError") (fun news' => news' = canon ROWS SETS TH rl sl tv kr ks kt hsh r rs rn x dx t l vs n r2 rs2 rn2 y dy t2 l2 vs2 n2 ((CELL, ck) :: rest)) := by
  exact CtrE.same (remE w x dx l hsh t n vs ob ((r, W.listOf rs.toArray rn) :: (y, instObj 76 dy) :: (dy, dataObj hsh t2 l2) :: (l2, W.listOf vs2.toArray n2) :: (r2, W.listOf rs2.toArray rn2) :: (ROWS, W.listOf rl.toArray kr) :: (SETS, W.listOf sl.toArray ks) :: (TH, W.listOf tv.toArray kt) :: (CELL, ck) :: rest) hvs
    (fun v hv => (hth v hv).mono fun p hp => by simp only [List.mem_cons] at hp ⊢; grind) (hob.mono fun p hp => by simp only [List.mem_cons] at hp ⊢; grind) hin) (fun p hp => hp) (fun n' h => ⟨_, rfl, fun p hp => by rw [h]; exact hp⟩)
theorem clr1 {ck : Obj} (hvs : vs.length ≤ 100) (g : Tags T x dx l r y dy l2 r2 ROWS SETS TH CELL rest) :
    Ctr w 59 [.ref x] (canon ROWS SETS TH rl sl tv kr ks kt hsh r rs rn x dx t l vs n r2 rs2 rn2 y dy t2 l2 vs2 n2 ((CELL, ck) :: rest)) 5 30 (fun _ news' => ∃ n', news' = canon ROWS SETS TH rl sl tv kr ks kt hsh r rs rn x dx t l [] n' r2 rs2 rn2 y dy t2 l2 vs2 n2 ((CELL, ck) :: rest)) := by
  refine Ctr.same (clrC w x dx l hsh t n vs ((r, W.listOf rs.toArray rn) :: (y, instObj 76 dy) :: (dy, dataObj hsh t2 l2) :: (l2, W.listOf vs2.toArray n2) :: (r2, W.listOf rs2.toArray rn2) :: (ROWS, W.listOf rl.toArray kr) :: (SETS, W.listOf sl.toArray ks) :: (TH, W.listOf tv.toArray kt) :: (CELL, ck) :: rest) hvs
    (tag_ne g.x g.l (by decide)) (tag_ne g.dx g.l (by decide))
    (by
      simp only [List.forall_mem_cons]
      exact ⟨tag_ne g.r g.l (by decide), tag_ne g.y g.l (by decide), tag_ne g.dy g.l (by decide), tag_ne g.l2 g.l (by decide), tag_ne g.r2 g.l (by decide), tag_ne g.ro g.l (by decide), tag_ne g.se g.l (by decide), tag_ne g.th g.l (by decide), tag_ne g.ce g.l (by decide), tag_all g.re g.l (by decide)⟩)) (fun p hp => hp) (fun r' n' ⟨k, h⟩ => ⟨_, ⟨k, rfl⟩, fun p hp => by rw [h]; exact hp⟩)
end
def neInt (pk : Int) (v : Value) : Bool := match v with | .int k _ => k != pk | _ => true
theorem ints_mem {vs : List Value} {ns : List Int} (h : IntsAre vs ns) {v : Value} (hv : v ∈ vs) : ∃ k t, v = .int k t := by
  induction h with
  | nil => cases hv
  | cons _ _ _ ih => 
    rcases List.mem_cons.mp hv with rfl | hv
    · exact ⟨_, _, rfl⟩
    · exact ih hv
theorem ints_filter {vs : List Value} {ns : List Int} (pk : Int) (h : IntsAre vs ns) : IntsAre (vs.filter (neInt pk)) (ns.filter (· != pk)) := by
  induction h with
  | nil => exact .nil
  | cons k t _ ih =>
    by_cases e : k = pk
    · subst e
      rw [List.filter_cons_of_neg (by simp [neInt]), List.filter_cons_of_neg (by simp)]
      exact ih
    · rw [List.filter_cons_of_pos (by simp [neInt, e]), List.filter_cons_of_pos (by simp [e])]
      exact .cons k t ih
theorem Row.del {R : List Int} {rs : List Value} (pk : Int) (h : Row R rs) : Row (R.filter (· != pk)) (rs.filter (neInt pk)) :=
  ⟨ints_filter pk h.isI, fun k hk => h.rng k (List.mem_filter.mp hk).1, h.nd.filter _⟩
theorem things_del {tv : List Value} (htv : tv.length = 7) (hnd : tv.Nodup) {k : Int} (hk : 0 ≤ k ∧ k < 7) : ∀ {R : List Int}, (∀ a ∈ R, 0 ≤ a ∧ a < 7) → (R.map (thing tv)).filter (fun v => !decide (v = tv.getD k.toNat Value.none)) = (R.filter (· != k)).map (thing tv)
  | [], _ => rfl
  | a :: r, h => by
    have ih := things_del htv hnd hk (R := r) fun b hb => h b (List.mem_cons_of_mem _ hb)
    have ha := h a List.mem_cons_self
    have e := pk_eq htv hnd ha hk
    have e' : (!decide (thing tv a = tv.getD k.toNat Value.none)) = (a != k) := by
      show (!decide (Mine.pk tv a = Mine.pk tv k)) = (a != k)
      rw [e]; rfl
    rw [List.map_cons, List.filter_cons, List.filter_cons, e', ih]
    by_cases q : (a != k) = true
    · rw [if_pos q, if_pos q, List.map_cons]
    · rw [if_neg q, if_neg q]
local macro_rules | `(tactic| k_ne) => `(tactic| (refine neN ?_; (try dsimp only); exact tag_ne (by assumption) (by assumption) (by decide)))
local macro_rules | `(tactic| k_all) => `(tactic| assumption)
local macro_rules | `(tactic| walk_at "subscriptTail") => `(tactic| (k_here; (with_reducible show wpAny _ _ (subscriptTail _ _ (Value.ref _) (Value.int _ _)) _ _ _); k_dflt (first
  | (refine' item_of ?hl ?h0 ?hhi ?hz ?_ ?hs; (case hl => exact News.isList (by k_asm) (by k_mem)); (case hs => with_unfolding_all rfl); (case h0 => omega); (case hhi => (try simp only [List.length_map]); omega); (case hz => (try simp only [List.length_map]); omega)))))
local macro_rules | `(tactic| walk_at "call ref") => `(tactic| (k_here; (with_reducible show wpAny _ _ (call (Value.ref 52) _) _ _ _); k_dflt (first
  | (refine' Ctr.use (rem1 ?c1 ?c2 ?c3 ?c4 ?c5) ?k1 ?k2 ?k3 ?k4 ?k5 ?k6 ?k7 ?k8 ?_; (case k4 => assumption); (case c4 => assumption); (case c1 => first | assumption | omega | (simp only [List.length_map]; omega)); (case c2 => assumption); (case c3 => assumption); (case c5 => rw [contains_pk (by assumption) (by assumption) ⟨by assumption, by assumption⟩ (Row.rng (by assumption))]; assumption); (case k1 => k_asm); (case k2 => k_asm); (case k3 => k_asm); (case k5 => k_asm); (case k6 => exact rfl); (case k7 => ktr_room); (case k8 => ktr_units); intro r' n' h' tk' hp' F' N'; obtain ⟨l', k', T', hn', g'⟩ := hp'; subst hn'; delta canon at N'; obtain ⟨j1, j2, j3, j4, j5, j6, j7, j8, j9, j10, j11, j12, -⟩ := id g')
  | (refine' CtrE.use (remE1 ?c1 ?c2 ?c3 ?c5) ?k1 ?k2 ?k3 ?k4 ?k5 ?k6 ?k7 ?k8 ?_; (case k4 => assumption); (case c1 => first | assumption | omega | (simp only [List.length_map]; omega)); (case c2 => assumption); (case c3 => assumption); (case c5 => rw [contains_pk (by assumption) (by assumption) ⟨by assumption, by assumption⟩ (Row.rng (by assumption))]; assumption); (case k1 => k_asm); (case k2 => k_asm); (case k3 => k_asm); (case k5 => k_asm); (case k6 => exact rfl); (case k7 => ktr_room); (case k8 => ktr_units); intro e' n' g' h' tk' hn' F' U' R'; subst hn'; refine Stop.out ?_))))
local macro_rules | `(tactic| walk_at "compareOp NotIn int ref") => `(tactic| (k_here; k_dflt (refine notin_list_ints (News.isList (by k_asm) (by k_mem)) (by assumption) ?_)))
local macro_rules | `(tactic| walk_at "compareOp In int ref") => `(tactic| (k_here; k_dflt (refine in_list_ints (News.isList (by k_asm) (by k_mem)) (by assumption) ?_)))
local macro_rules | `(tactic| walk_at "exec Try") => `(tactic| (k_here; (with_reducible show wpAny _ _ (exec (Stmt.Try _ (_ :: _) _ [] _) _) _ _ _); refine wpAny_Try_except ?_))
local macro_rules | `(tactic| walk_at "eval ListComp") => `(tactic| (k_here; (with_reducible show wpAny _ _ (eval (PySem.Expr.ListComp _ [PySem.Comprehension.mk _ _ (_ :: _) _] _ _) _) _ _ _); k_dflt (refine LCt.ListComp_T (F₀ := by k_asm) (by with_unfolding_all rfl) (by decide) (by rfl) (by decide) (by rfl) ?_)))
set_option maxHeartbeats 4000000 in
theorem st_rem (w : World) (h₀ : Heap) (L fa : Addr) (cd : Value) (p : Program) (loose : List Str) (mean : ExcName → Option Value) (mg mb : Str → Option Value) (s : Shared) (Q : Flow → Shared → Prop) (E : Value → Shared → Prop)
    (ROWS SETS TH SCR x y dx dy : Addr) (tv : List Value) (ks kt : Nat) (hsh : Int) (t t2 : Tok) (rest : List (Addr × Obj)) (o : Bool) (wh pk mo : Int) (hpk0 : 0 ≤ pk) (hpk7 : pk < 7)
    (htv : tv.length = 7) (hnd : tv.Nodup) (hth : ∀ v ∈ tv, Th rest v)
    (K : Below callerA h₀ [] h₀) (X : (hd.heap_39 w.params).In h₀) (T : Top p loose mean mg mb h₀)
    (M : Mid h₀ L tv ROWS SETS TH SCR x y dx dy ks kt hsh t t2 rest o wh pk mo s.heap)
    (hQ : ∀ h' tk', Mid h₀ L tv ROWS SETS TH SCR x y dx dy ks kt hsh t t2 rest o wh pk mo h' → Q .next { s with heap := h', toks := tk' }) :
    wpAny (model prg w) (callerA.deeper (lawEnv L fa cd)) (exec (lawSt 7) (lawEnv L fa cd)) Q E s := by
  conv in lawSt 7 => whnf
  delta lawEnv
  generalize hlsc : lawScope = lsc
  conv at hlsc => lhs; whnf
  subst hlsc
  obtain ⟨m, l, l2, r, r2, kr, n, n2, rn, rn2, R, R2, rs, rs2, ck, tab, tg, tm, tw, ti, tp, F, N, hm, hR, hR2, hck, htab, g⟩ := M
  have hF := F
  rw [map_norm hm] at F
  have hlen := hR.len
  have hrs := hR.isI
  have hrs2 := hR2.isI
  have hrl := hrs.length
  have hth' : ∀ v ∈ tv, Th ((L + 1, ck) :: (tab ++ rest)) v := fun v hv => (hth v hv).mono fun p hp => by simp [hp]
  have hthv := hR.things htv hth'
  have hob := hth' _ (pk_mem htv ⟨hpk0, hpk7⟩)
  have hN := N
  have hoffR := tag_all g.re g.ro (by decide)
  obtain ⟨g1, g2, g3, g4, g5, g6, g7, g8, g9, g10, g11, g12, -⟩ := id g
  delta canon at N
  cases o
  case false =>
    simp only [if_true, if_false, Bool.false_eq_true] at F N
    k_steps
    · refine LCt.CompSrcT.ledger (by rfl) (by k_asm) (by k_asm) (by k_mem) (by rw [List.size_toArray, PySem.sizeLine_eq]; omega) ?_
      intro g''
      refine comp_filter (neInt pk) (fun v => v) ?_ ?_
      · intro v I oI C oC D m₂ ys h tk E' hv hC hx F' N' off ne
        obtain ⟨kv, tv', rfl⟩ := ints_mem hrs hv
        k_steps
        · refine LCg.CompEnd.intro (by k_asm) (by k_asm) _ (fun p hp => hp) off ?_ ⟨rfl, rfl⟩
          exact Or.inr ⟨_, by k_mem, rfl, _, rfl⟩
        · refine LCg.CompEnd.intro (by k_asm) (by k_asm) _ (fun p hp => hp) off ?_ rfl
          exact Or.inr ⟨_, by k_mem, rfl, _, rfl⟩
      · intro D h tk F' N' off
        simp only [LCg.Off1] at off
        dsimp only
        rw [List.map_id'] at N'
        have offD := off.2.2.2.2
        k_steps
        (rename Fr _ _ _ _ => kF); (rename News _ _ _ _ => kN); (rename Tags _ _ _ _ _ _ _ _ _ _ _ _ _ _ => gg)
        obtain ⟨e1, e2, e3, e4, e5, e6, e7, e8, e9, e10, e11, e12, e13⟩ := off
        obtain ⟨tg', g'⟩ := gg.newr e1 e2 e3 e5 e6 e7 e8 e9 e10 e11 e12 (off1_mem e13)
        rw [things_del htv hnd ⟨hpk0, hpk7⟩ hR.rng] at kN
        exact hQ _ _ ⟨_, _, l2, _, r2, kr, _, n2, _, rn2, R.filter (· != pk), R2, _, rs2, ck, tab, tg', tm, tw, ti, tp, kF, cb_drop kN (by delta canon; (repeat (refine List.forall_mem_cons.mpr ⟨by k_mem, ?_⟩)); intro p hp; (repeat (first | exact hp | refine List.mem_cons_of_mem _ ?_))), ⟨rfl, rfl, rfl, rfl, rfl, rfl, rfl, rfl⟩, hR.del pk, hR2, hck, htab, g'⟩
    · refine ⟨?_⟩
      rename_i e' g' h' tk' F' U' R'
      refine caught_ev K rfl F' U' R' ?_ ?_
      · intro h₅ E' F₅ he
        exact test_KeyError F₅ X T he (by k_is) rfl rfl
      · intro h₆ F₆ N₆
        simp only [canon] at N₆
        k_steps
        (rename Fr _ _ _ _ => kF); (rename News _ _ _ _ => kN); (rename IntsAre _ (R ++ []) => hI); (rename And _ _ => lD)
        obtain ⟨e0, e1, e2, e3, e4, e5, e6, e7, e8, e9, e10, e11, e12, e13⟩ := lD
        obtain ⟨tg', g'⟩ := g.newr (Nat.ne_of_lt e1) (Nat.ne_of_lt e2) (Nat.ne_of_lt e3) (Nat.ne_of_lt e5) (Nat.ne_of_lt e6) (Nat.ne_of_lt e7) (Nat.ne_of_lt e8) (Nat.ne_of_lt e9) (Nat.ne_of_lt e10) (Nat.ne_of_lt e11) (Nat.ne_of_lt e12) (fun q hq => Nat.ne_of_lt (allLt_ne e13 q hq))
        rw [List.append_nil] at hI
        exact hQ _ _ ⟨_, l, l2, _, r2, kr, _, n2, _, rn2, R, R2, _, rs2, ck, tab, tg', tm, tw, ti, tp, kF, cb_drop kN (by delta canon; (repeat (refine List.forall_mem_cons.mpr ⟨by k_mem, ?_⟩)); intro p hp; (repeat (first | exact hp | refine List.mem_cons_of_mem _ ?_))), ⟨rfl, rfl, rfl, rfl, rfl, rfl, rfl, rfl⟩, ⟨hI, hR.rng, hR.nd⟩, hR2, hck, htab, g'⟩
    · exact hQ _ _ ⟨m, l, l2, r, r2, kr, n, n2, rn, rn2, R, R2, rs, rs2, ck, tab, tg, tm, tw, ti, tp, hF, hN, hm, hR, hR2, hck, htab, g⟩
  case true =>
    simp only [if_true, if_false, Bool.false_eq_true] at F N
    k_steps
    · refine LCt.CompSrcT.ledger (by rfl) (by k_asm) (by k_asm) (by k_mem) (by rw [List.size_toArray, PySem.sizeLine_eq]; omega) ?_
      intro g''
      refine comp_filter (neInt pk) (fun v => v) ?_ ?_
      · intro v I oI C oC D m₂ ys h tk E' hv hC hx F' N' off ne
        obtain ⟨kv, tv', rfl⟩ := ints_mem hrs hv
        k_steps
        · refine LCg.CompEnd.intro (by k_asm) (by k_asm) _ (fun p hp => hp) off ?_ ⟨rfl, rfl⟩
          exact Or.inr ⟨_, by k_mem, rfl, _, rfl⟩
        · refine LCg.CompEnd.intro (by k_asm) (by k_asm) _ (fun p hp => hp) off ?_ rfl
          exact Or.inr ⟨_, by k_mem, rfl, _, rfl⟩
      · intro D h tk F' N' off
        simp only [LCg.Off1] at off
        dsimp only
        rw [List.map_id'] at N'
        have offD := off.2.2.2.2
        k_steps
        (rename Fr _ _ _ _ => kF); (rename News _ _ _ _ => kN); (rename Tags _ _ _ _ _ _ _ _ _ _ _ _ _ _ => gg)
        obtain ⟨e1, e2, e3, e4, e5, e6, e7, e8, e9, e10, e11, e12, e13⟩ := off
        obtain ⟨tg', g'⟩ := gg.newr e1 e2 e3 e5 e6 e7 e8 e9 e10 e11 e12 (off1_mem e13)
        rw [things_del htv hnd ⟨hpk0, hpk7⟩ hR.rng] at kN
        exact hQ _ _ ⟨_, _, l2, _, r2, kr, _, n2, _, rn2, R.filter (· != pk), R2, _, rs2, ck, tab, tg', tm, tw, ti, tp, kF, cb_drop kN (by delta canon; (repeat (refine List.forall_mem_cons.mpr ⟨by k_mem, ?_⟩)); intro p hp; (repeat (first | exact hp | refine List.mem_cons_of_mem _ ?_))), ⟨rfl, rfl, rfl, rfl, rfl, rfl, rfl, rfl⟩, hR.del pk, hR2, hck, htab, g'⟩
    · refine ⟨?_⟩
      rename_i e' g' h' tk' F' U' R'
      refine caught_ev K rfl F' U' R' ?_ ?_
      · intro h₅ E' F₅ he
        exact test_KeyError F₅ X T he (by k_is) rfl rfl
      · intro h₆ F₆ N₆
        simp only [canon] at N₆
        k_steps
        (rename Fr _ _ _ _ => kF); (rename News _ _ _ _ => kN); (rename IntsAre _ (R ++ []) => hI); (rename And _ _ => lD)
        obtain ⟨e0, e1, e2, e3, e4, e5, e6, e7, e8, e9, e10, e11, e12, e13⟩ := lD
        obtain ⟨tg', g'⟩ := g.newr (Nat.ne_of_lt e1) (Nat.ne_of_lt e2) (Nat.ne_of_lt e3) (Nat.ne_of_lt e5) (Nat.ne_of_lt e6) (Nat.ne_of_lt e7) (Nat.ne_of_lt e8) (Nat.ne_of_lt e9) (Nat.ne_of_lt e10) (Nat.ne_of_lt e11) (Nat.ne_of_lt e12) (fun q hq => Nat.ne_of_lt (allLt_ne e13 q hq))
        rw [List.append_nil] at hI
        exact hQ _ _ ⟨_, l, l2, _, r2, kr, _, n2, _, rn2, R, R2, _, rs2, ck, tab, tg', tm, tw, ti, tp, kF, cb_drop kN (by delta canon; (repeat (refine List.forall_mem_cons.mpr ⟨by k_mem, ?_⟩)); intro p hp; (repeat (first | exact hp | refine List.mem_cons_of_mem _ ?_))), ⟨rfl, rfl, rfl, rfl, rfl, rfl, rfl, rfl⟩, ⟨hI, hR.rng, hR.nd⟩, hR2, hck, htab, g'⟩
    · exact hQ _ _ ⟨m, l, l2, r, r2, kr, n, n2, rn, rn2, R, R2, rs, rs2, ck, tab, tg, tm, tw, ti, tp, hF, hN, hm, hR, hR2, hck, htab, g⟩
end
theorem againT13 {M : Model} {A : Around} {Q : Unit → Shared → Prop} {E : Value → Shared → Prop} {s : Shared} (h : wpAny M A (pure ()) Q E s) : wpAny M A (pure ()) Q E s := by
  w_top off
  first | (walk1; fail) | exact h
section
local macro_rules | `(tactic| k_ne) => `(tactic| (refine neN ?_; (try dsimp only); exact tag_ne (by assumption) (by assumption) (by decide)))
local macro_rules | `(tactic| k_all) => `(tactic| assumption)
local macro_rules | `(tactic| walk_at "subscriptTail") => `(tactic| (k_here; (with_reducible show wpAny _ _ (subscriptTail _ _ (Value.ref _) (Value.int _ _)) _ _ _); k_dflt (first
  | (refine' item_of ?hl ?h0 ?hhi ?hz ?_ ?hs; (case hl => exact News.isList (by k_asm) (by k_mem)); (case hs => with_unfolding_all rfl); (case h0 => omega); (case hhi => (try simp only [List.length_map]); omega); (case hz => (try simp only [List.length_map]); omega)))))
local macro_rules | `(tactic| walk_at "call ref") => `(tactic| (k_here; (with_reducible show wpAny _ _ (call (Value.ref 59) _) _ _ _); k_dflt (
  (refine' Ctr.use (clr1 ?c1 ?c4) ?k1 ?k2 ?k3 ?k4 ?k5 ?k6 ?k7 ?k8 ?_; (case k4 => assumption); (case c4 => assumption); (case c1 => first | assumption | omega | (simp only [List.length_map]; omega)); (case k1 => k_asm); (case k2 => k_asm); (case k3 => k_asm); (case k5 => k_asm); (case k6 => exact rfl); (case k7 => ktr_room); (case k8 => ktr_units); intro r' n' h' tk' hp' F' N'; obtain ⟨k', hn'⟩ := hp'; subst hn'; delta canon at N'))))
set_option maxHeartbeats 4000000 in
theorem st_clr (w : World) (h₀ : Heap) (L fa : Addr) (cd : Value) (p : Program) (loose : List Str) (mean : ExcName → Option Value) (mg mb : Str → Option Value) (s : Shared) (Q : Flow → Shared → Prop) (E : Value → Shared → Prop)
    (ROWS SETS TH SCR x y dx dy : Addr) (tv : List Value) (ks kt : Nat) (hsh : Int) (t t2 : Tok) (rest : List (Addr × Obj)) (o : Bool) (wh pk mo : Int) (hpk0 : 0 ≤ pk) (hpk7 : pk < 7)
    (htv : tv.length = 7) (hnd : tv.Nodup) (hth : ∀ v ∈ tv, Th rest v)
    (K : Below callerA h₀ [] h₀) (X : (hd.heap_39 w.params).In h₀) (T : Top p loose mean mg mb h₀)
    (M : Mid h₀ L tv ROWS SETS TH SCR x y dx dy ks kt hsh t t2 rest o wh pk mo s.heap)
    (hQ : ∀ h' tk', Mid h₀ L tv ROWS SETS TH SCR x y dx dy ks kt hsh t t2 rest o wh pk mo h' → Q .next { s with heap := h', toks := tk' }) :
    wpAny (model prg w) (callerA.deeper (lawEnv L fa cd)) (exec (lawSt 8) (lawEnv L fa cd)) Q E s := by
  conv in lawSt 8 => whnf
  delta lawEnv
  generalize hlsc : lawScope = lsc
  conv at hlsc => lhs; whnf
  subst hlsc
  obtain ⟨m, l, l2, r, r2, kr, n, n2, rn, rn2, R, R2, rs, rs2, ck, tab, tg, tm, tw, ti, tp, F, N, hm, hR, hR2, hck, htab, g⟩ := M
  have hF := F
  rw [map_norm hm] at F
  have hlen := hR.len
  have hrs := hR.isI
  have hrs2 := hR2.isI
  have hrl := hrs.length
  have hth' : ∀ v ∈ tv, Th ((L + 1, ck) :: (tab ++ rest)) v := fun v hv => (hth v hv).mono fun p hp => by simp [hp]
  have hthv := hR.things htv hth'
  have hob := hth' _ (pk_mem htv ⟨hpk0, hpk7⟩)
  have hN := N
  have hoffR := tag_all g.re g.ro (by decide)
  obtain ⟨g1, g2, g3, g4, g5, g6, g7, g8, g9, g10, g11, g12, -⟩ := id g
  delta canon at N
  cases o
  case false =>
    simp only [if_true, if_false, Bool.false_eq_true] at F N
    k_steps
    · (rename Fr _ _ _ _ => kF); (rename News _ _ _ _ => kN); (rename And _ _ => lD)
      obtain ⟨e1, e2, e3, e4, e5, e6, e7, e8, e9, e10, e11, e12, e13⟩ := lD
      obtain ⟨tg', g'⟩ := g.newr (Nat.ne_of_lt e1) (Nat.ne_of_lt e2) (Nat.ne_of_lt e3) (Nat.ne_of_lt e5) (Nat.ne_of_lt e6) (Nat.ne_of_lt e7) (Nat.ne_of_lt e8) (Nat.ne_of_lt e9) (Nat.ne_of_lt e10) (Nat.ne_of_lt e11) (Nat.ne_of_lt e12) (fun q hq => Nat.ne_of_lt (allLt_ne e13 q hq))
      exact hQ _ _ ⟨_, l, l2, _, r2, kr, _, n2, _, rn2, [], R2, [], rs2, ck, tab, tg', tm, tw, ti, tp, kF, cb_drop kN (by delta canon; (repeat (refine List.forall_mem_cons.mpr ⟨by k_mem, ?_⟩)); intro p hp; (repeat (first | exact hp | refine List.mem_cons_of_mem _ ?_))), ⟨rfl, rfl, rfl, rfl, rfl, rfl, rfl, rfl⟩, ⟨.nil, by simp, by simp⟩, hR2, hck, htab, g'⟩
    · exact hQ _ _ ⟨m, l, l2, r, r2, kr, n, n2, rn, rn2, R, R2, rs, rs2, ck, tab, tg, tm, tw, ti, tp, hF, hN, hm, hR, hR2, hck, htab, g⟩
    · exact hQ _ _ ⟨m, l, l2, r, r2, kr, n, n2, rn, rn2, R, R2, rs, rs2, ck, tab, tg, tm, tw, ti, tp, hF, hN, hm, hR, hR2, hck, htab, g⟩
  case true =>
    simp only [if_true, if_false, Bool.false_eq_true] at F N
    k_steps
    · (rename Fr _ _ _ _ => kF); (rename News _ _ _ _ => kN); (rename And _ _ => lD)
      obtain ⟨e1, e2, e3, e4, e5, e6, e7, e8, e9, e10, e11, e12, e13⟩ := lD
      obtain ⟨tg', g'⟩ := g.newr (Nat.ne_of_lt e1) (Nat.ne_of_lt e2) (Nat.ne_of_lt e3) (Nat.ne_of_lt e5) (Nat.ne_of_lt e6) (Nat.ne_of_lt e7) (Nat.ne_of_lt e8) (Nat.ne_of_lt e9) (Nat.ne_of_lt e10) (Nat.ne_of_lt e11) (Nat.ne_of_lt e12) (fun q hq => Nat.ne_of_lt (allLt_ne e13 q hq))
      exact hQ _ _ ⟨_, l, l2, _, r2, kr, _, n2, _, rn2, [], R2, [], rs2, ck, tab, tg', tm, tw, ti, tp, kF, cb_drop kN (by delta canon; (repeat (refine List.forall_mem_cons.mpr ⟨by k_mem, ?_⟩)); intro p hp; (repeat (first | exact hp | refine List.mem_cons_of_mem _ ?_))), ⟨rfl, rfl, rfl, rfl, rfl, rfl, rfl, rfl⟩, ⟨.nil, by simp, by simp⟩, hR2, hck, htab, g'⟩
    · exact hQ _ _ ⟨m, l, l2, r, r2, kr, n, n2, rn, rn2, R, R2, rs, rs2, ck, tab, tg, tm, tw, ti, tp, hF, hN, hm, hR, hR2, hck, htab, g⟩
    · exact hQ _ _ ⟨m, l, l2, r, r2, kr, n, n2, rn, rn2, R, R2, rs, rs2, ck, tab, tg, tm, tw, ti, tp, hF, hN, hm, hR, hR2, hck, htab, g⟩
local macro_rules | `(tactic| walk_at "call ref") => `(tactic| (k_here; (with_reducible show wpAny _ _ (call (Prod.fst (Value.ref 73, _)) _) _ _ _); (try dsimp only [List.nil_append, List.append_nil]); k_dflt (refine' Ctr.use (awl _ _ _ _ _ _ _ _ _ ?c1) ?k1 ?k2 ?k3 ?k4 ?k5 ?k6 ?k7 ?k8 ?_; (case k1 => k_asm); (case k2 => k_asm); (case k3 => k_asm); (case k4 => first | k_asm | exact news_rot (by k_asm)); (case k5 => k_asm); (case k6 => exact rfl); (case k7 => ktr_room); (case k8 => ktr_units); (case c1 => first | assumption | omega | (simp only [List.length_map]; omega))); intro r' n' h' tk' hp' F' N'; obtain ⟨D', c', hr', hn', lD'⟩ := hp'; subst hr'; subst hn'; (try simp only [AllLt] at lD')))
local macro_rules | `(tactic| walk_at "call builtin:list.clear") => `(tactic| (k_here; (try dsimp only); first | (exfalso; omega) | (k_dflt (refine' clear_any ?k1 ?k2 ?e ?U ?z ?_; (case k1 => k_asm); (case k2 => k_asm); (case U => k_upd); (case e => rfl); (case z => (try simp only [List.length_map]); rw [PySem.sizeLine_eq]; omega)); intro h' F' N')))
local macro_rules | `(tactic| walk_at "call builtin:list.reverse") => `(tactic| (k_here; (try dsimp only); first | (exfalso; omega) | (k_dflt (refine' reverse_any ?k1 ?k2 ?U ?z ?_; (case k1 => k_asm); (case k2 => k_asm); (case U => k_upd); (case z => (try simp only [List.length_map]); rw [PySem.sizeLine_eq]; omega)); intro h' F' N')))
set_option maxHeartbeats 4000000 in
theorem st_told (w : World) (h₀ : Heap) (L fa : Addr) (cd : Value) (p : Program) (loose : List Str) (mean : ExcName → Option Value) (mg mb : Str → Option Value) (s : Shared) (Q : Flow → Shared → Prop) (E : Value → Shared → Prop)
    (ROWS SETS TH SCR x y dx dy : Addr) (tv : List Value) (ks kt : Nat) (hsh : Int) (t t2 : Tok) (rest : List (Addr × Obj)) (o : Bool) (wh pk mo : Int) (hpk0 : 0 ≤ pk) (hpk7 : pk < 7)
    (htv : tv.length = 7) (hnd : tv.Nodup) (hth : ∀ v ∈ tv, Th rest v)
    (K : Below callerA h₀ [] h₀) (X : (hd.heap_39 w.params).In h₀) (T : Top p loose mean mg mb h₀)
    (M : Mid h₀ L tv ROWS SETS TH SCR x y dx dy ks kt hsh t t2 rest o wh pk mo s.heap)
    (hQ : ∀ h' tk', Mid h₀ L tv ROWS SETS TH SCR x y dx dy ks kt hsh t t2 rest o wh pk mo h' → Q .next { s with heap := h', toks := tk' }) :
    wpAny (model prg w) (callerA.deeper (lawEnv L fa cd)) (exec (lawSt 10) (lawEnv L fa cd)) Q E s := by
  conv in lawSt 10 => whnf
  delta lawEnv
  generalize hlsc : lawScope = lsc
  conv at hlsc => lhs; whnf
  subst hlsc
  obtain ⟨m, l, l2, r, r2, kr, n, n2, rn, rn2, R, R2, rs, rs2, ck, tab, tg, tm, tw, ti, tp, F, N, hm, hR, hR2, hck, htab, g⟩ := M
  have hF := F
  rw [map_norm hm] at F
  have hlen := hR.len
  have hrs := hR.isI
  have hrs2 := hR2.isI
  have hrl := hrs.length
  have hth' : ∀ v ∈ tv, Th ((L + 1, ck) :: (tab ++ rest)) v := fun v hv => (hth v hv).mono fun p hp => by simp [hp]
  have hthv := hR.things htv hth'
  have hob := hth' _ (pk_mem htv ⟨hpk0, hpk7⟩)
  have hN := N
  have hoffR := tag_all g.re g.ro (by decide)
  obtain ⟨g1, g2, g3, g4, g5, g6, g7, g8, g9, g10, g11, g12, -⟩ := id g
  delta canon at N
  cases o
  case false =>
    simp only [if_true, if_false, Bool.false_eq_true] at F N
    k_steps
    all_goals first
      | (exact hQ _ _ ⟨m, l, l2, r, r2, kr, n, n2, rn, rn2, R, R2, rs, rs2, ck, tab, tg, tm, tw, ti, tp, hF, hN, hm, hR, hR2, hck, htab, g⟩; done)
      | ((rename Fr _ _ _ _ => kF); (rename News _ _ _ _ => kN)
         exact hQ _ _ ⟨_, l, l2, r, r2, kr, _, n2, _, rn2, R, R2, rs, rs2, ck, tab, tg, tm, tw, ti, tp, kF, cb_drop kN (by delta canon; (repeat (refine List.forall_mem_cons.mpr ⟨by k_mem, ?_⟩)); intro p hp; (repeat (first | exact hp | refine List.mem_cons_of_mem _ ?_))), ⟨rfl, rfl, rfl, rfl, rfl, rfl, rfl, rfl⟩, hR, hR2, hck, htab, g⟩)
  case true =>
    simp only [if_true, if_false, Bool.false_eq_true] at F N
    k_steps
    all_goals first
      | (exact hQ _ _ ⟨m, l, l2, r, r2, kr, n, n2, rn, rn2, R, R2, rs, rs2, ck, tab, tg, tm, tw, ti, tp, hF, hN, hm, hR, hR2, hck, htab, g⟩; done)
      | ((rename Fr _ _ _ _ => kF); (rename News _ _ _ _ => kN)
         exact hQ _ _ ⟨_, l, l2, r, r2, kr, _, n2, _, rn2, R, R2, rs, rs2, ck, tab, tg, tm, tw, ti, tp, kF, cb_drop kN (by delta canon; (repeat (refine List.forall_mem_cons.mpr ⟨by k_mem, ?_⟩)); intro p hp; (repeat (first | exact hp | refine List.mem_cons_of_mem _ ?_))), ⟨rfl, rfl, rfl, rfl, rfl, rfl, rfl, rfl⟩, hR, hR2, hck, htab, g⟩)
end
theorem againT14 {M : Model} {A : Around} {Q : Unit → Shared → Prop} {E : Value → Shared → Prop} {s : Shared} (h : wpAny M A (pure ()) Q E s) : wpAny M A (pure ()) Q E s := by
  w_top off
  first | (walk1; fail) | exact h
section
section
variable {w : World} {ROWS SETS TH x y dx dy l l2 r r2 fw c' c1 c2 D sn : Addr} {fo oc o1 o2 dO tb : Obj} {rl sl tv : List Value} {kr ks kt n n2 rn rn2 k : Nat} {hsh : Int} {t t2 : Tok} {vs vs2 : List Value} {rs rs2 : List Value} {rest : List (Addr × Obj)} {CELL : Addr} {ck : Obj} {stop : Int}
theorem mapC1 (hvs : vs.length ≤ 50) (hth : ∀ v ∈ vs, Th rest v) (hW : WalkOk w fw fo c' oc c1 o1 c2 o2 sn stop) (hns : ¬ (0 < stop ∧ stop < ((vs.filter nn).length : Int)))
    (hof : ∀ q ∈ (fw, fo) :: (c', oc) :: (c2, o2) :: (c1, o1) :: (102, tb) :: (D, dO) :: canon ROWS SETS TH rl sl tv kr ks kt hsh r rs rn x dx t l vs n r2 rs2 rn2 y dy t2 l2 vs2 n2 ((CELL, ck) :: rest), @Ne Nat q.1 sn) :
    Ctr w 66 [.ref x, .ref fw] ((sn, W.listOf ([] : List Value).toArray k) :: (fw, fo) :: (c', oc) :: (c2, o2) :: (c1, o1) :: (102, tb) :: (D, dO) :: canon ROWS SETS TH rl sl tv kr ks kt hsh r rs rn x dx t l vs n r2 rs2 rn2 y dy t2 l2 vs2 n2 ((CELL, ck) :: rest)) 20 100
      (fun _ news' => ∃ k', news' = ((sn, W.listOf (vs.filter nn).toArray k') :: (fw, fo) :: (c', oc) :: (c2, o2) :: (c1, o1) :: (102, tb) :: (D, dO) :: canon ROWS SETS TH rl sl tv kr ks kt hsh r rs rn x dx t l vs n r2 rs2 rn2 y dy t2 l2 vs2 n2 ((CELL, ck) :: rest))) := by
  simp only [canon, List.forall_mem_cons] at hof
  obtain ⟨e1, e2, e3, e4, e5, e6, e7, e8, e9, e10, e11, e12, e13, e14, e15, e16, e17, e18, e19⟩ := hof
  refine Ctr.same (mapC w x dx l hsh t n vs sn k fw fo c' oc c1 o1 c2 o2 stop ((102, tb) :: (D, dO) :: (r, W.listOf rs.toArray rn) :: (y, instObj 76 dy) :: (dy, dataObj hsh t2 l2) :: (l2, W.listOf vs2.toArray n2) :: (r2, W.listOf rs2.toArray rn2) :: (ROWS, W.listOf rl.toArray kr) :: (SETS, W.listOf sl.toArray ks) :: (TH, W.listOf tv.toArray kt) :: (CELL, ck) :: rest) hvs
    (fun v hv => (hth v hv).mono fun p hp => by simp [hp]) hW hns e1 e2 e4 e3 e7 e8 e9 ?_) ?_ ?_
  · simp only [List.forall_mem_cons]
    exact ⟨e5, e6, e10, e11, e12, e13, e14, e15, e16, e17, e18, e19⟩
  · intro p hp
    simp only [List.mem_cons] at hp ⊢
    grind
  · rintro r' n' ⟨k', h⟩
    refine ⟨_, ⟨k', rfl⟩, fun p hp => ?_⟩
    rw [h]
    simp only [List.mem_cons] at hp ⊢
    grind
theorem mapE1 (hvs : vs.length ≤ 50) (hth : ∀ v ∈ vs, Th rest v) (hW : WalkOk w fw fo c' oc c1 o1 c2 o2 sn stop) (hs0 : 0 < stop) (hs1 : stop < ((vs.filter nn).length : Int))
    (hof : ∀ q ∈ (fw, fo) :: (c', oc) :: (c2, o2) :: (c1, o1) :: (102, tb) :: (D, dO) :: canon ROWS SETS TH rl sl tv kr ks kt hsh r rs rn x dx t l vs n r2 rs2 rn2 y dy t2 l2 vs2 n2 ((CELL, ck) :: rest), @Ne Nat q.1 sn) :
    CtrE w 66 [.ref x, .ref fw] ((sn, W.listOf ([] : List Value).toArray k) :: (fw, fo) :: (c', oc) :: (c2, o2) :: (c1, o1) :: (102, tb) :: (D, dO) :: canon ROWS SETS TH rl sl tv kr ks kt hsh r rs rn x dx t l vs n r2 rs2 rn2 y dy t2 l2 vs2 n2 ((CELL, ck) :: rest)) 25 150 (.ref 97)
      (fun news' => ∃ k', news' = ((sn, W.listOf ((vs.filter nn).take stop.toNat).toArray k') :: (fw, fo) :: (c', oc) :: (c2, o2) :: (c1, o1) :: (102, tb) :: (D, dO) :: canon ROWS SETS TH rl sl tv kr ks kt hsh r rs rn x dx t l vs n r2 rs2 rn2 y dy t2 l2 vs2 n2 ((CELL, ck) :: rest))) := by
  simp only [canon, List.forall_mem_cons] at hof
  obtain ⟨e1, e2, e3, e4, e5, e6, e7, e8, e9, e10, e11, e12, e13, e14, e15, e16, e17, e18, e19⟩ := hof
  refine CtrE.same (mapE w x dx l hsh t n vs sn k fw fo c' oc c1 o1 c2 o2 stop ((102, tb) :: (D, dO) :: (r, W.listOf rs.toArray rn) :: (y, instObj 76 dy) :: (dy, dataObj hsh t2 l2) :: (l2, W.listOf vs2.toArray n2) :: (r2, W.listOf rs2.toArray rn2) :: (ROWS, W.listOf rl.toArray kr) :: (SETS, W.listOf sl.toArray ks) :: (TH, W.listOf tv.toArray kt) :: (CELL, ck) :: rest) hvs
    (fun v hv => (hth v hv).mono fun p hp => by simp [hp]) hW hs0 hs1 e1 e2 e4 e3 e7 e8 e9 ?_) ?_ ?_
  · simp only [List.forall_mem_cons]
    exact ⟨e5, e6, e10, e11, e12, e13, e14, e15, e16, e17, e18, e19⟩
  · intro p hp
    simp only [List.mem_cons] at hp ⊢
    grind
  · rintro n' ⟨k', h⟩
    refine ⟨_, ⟨k', rfl⟩, fun p hp => ?_⟩
    rw [h]
    simp only [List.mem_cons] at hp ⊢
    grind
end
theorem tag_off {T : Nat → Nat} {a b i : Nat} (ha : Tag T a i) (hb : 20 ≤ T b) (hi : Nat.ble 20 i = false) : @Ne Nat a b := by
  rintro rfl
  rw [ha.eq] at hb
  rw [Nat.ble_eq_true_of_le hb] at hi
  cases hi
theorem things_nn {tv : List Value} (htv : tv.length = 7) (hnd : tv.Nodup) (h0 : tv.getD 0 .none = .none) {R : List Int} (hR : ∀ a ∈ R, 0 ≤ a ∧ a < 7) : (R.map (thing tv)).filter nn = (R.filter (· != 0)).map (thing tv) := by
  have h := things_del htv hnd (k := 0) ⟨by omega, by omega⟩ hR
  rw [show (0 : Int).toNat = 0 from rfl, h0] at h
  exact h
end
theorem againT15 {M : Model} {A : Around} {Q : Unit → Shared → Prop} {E : Value → Shared → Prop} {s : Shared} (h : wpAny M A (pure ()) Q E s) : wpAny M A (pure ()) Q E s := by
  w_top off
  first | (walk1; fail) | exact h
section
theorem Tags.newc {T : Nat → Nat} {x dx l r y dy l2 r2 ROWS SETS TH CELL : Nat} {rest : List (Addr × Obj)} {c' : Addr} {oc tb t0 : Obj} (h : Tags T x dx l r y dy l2 r2 ROWS SETS TH CELL ([(102, t0)] ++ rest)) (e1 : @Ne Nat x c') (e2 : @Ne Nat dx c') (e3 : @Ne Nat l c') (e4 : @Ne Nat r c') (e5 : @Ne Nat y c') (e6 : @Ne Nat dy c') (e7 : @Ne Nat l2 c') (e8 : @Ne Nat r2 c') (e9 : @Ne Nat ROWS c') (e10 : @Ne Nat SETS c') (e11 : @Ne Nat TH c') (e12 : @Ne Nat CELL c') :
    ∃ T', Tags T' x dx l r y dy l2 r2 ROWS SETS TH CELL ([(c', oc), (102, tb)] ++ rest) := by
  refine ⟨fun a => if a = c' then 20 else T a, ⟨?_⟩, ⟨?_⟩, ⟨?_⟩, ⟨?_⟩, ⟨?_⟩, ⟨?_⟩, ⟨?_⟩, ⟨?_⟩, ⟨?_⟩, ⟨?_⟩, ⟨?_⟩, ⟨?_⟩, ?_⟩
  · simp [e1, h.x.eq]
  · simp [e2, h.dx.eq]
  · simp [e3, h.l.eq]
  · simp [e4, h.r.eq]
  · simp [e5, h.y.eq]
  · simp [e6, h.dy.eq]
  · simp [e7, h.l2.eq]
  · simp [e8, h.r2.eq]
  · simp [e9, h.ro.eq]
  · simp [e10, h.se.eq]
  · simp [e11, h.th.eq]
  · simp [e12, h.ce.eq]
  · intro q hq
    show 20 ≤ (if q.1 = c' then 20 else T q.1)
    split
    · exact Nat.le_refl _
    · rename_i hne
      simp only [List.cons_append, List.nil_append, List.mem_cons] at hq
      rcases hq with rfl | rfl | hq
      · exact absurd rfl hne
      · exact h.re (102, t0) (by simp)
      · exact h.re q (by simp [hq])
local macro_rules | `(tactic| k_ne) => `(tactic| (refine neN ?_; (try dsimp only); exact tag_ne (by assumption) (by assumption) (by decide)))
local macro_rules | `(tactic| k_all) => `(tactic| assumption)
local macro_rules | `(tactic| walk_at "subscriptTail") => `(tactic| (k_here; (with_reducible show wpAny _ _ (subscriptTail _ _ (Value.ref _) (Value.int _ _)) _ _ _); k_dflt (first
  | (refine' item_int_of ?hi ?hl ?h0 ?hhi ?hz ?_ ?hs; (case hl => exact News.isList (by k_asm) (by k_mem)); (case hi => assumption); (case hs => with_unfolding_all rfl); (case h0 => omega); (case hhi => omega); (case hz => omega); intro t')
  | (refine' item_of ?hl ?h0 ?hhi ?hz ?_ ?hs; (case hl => exact News.isList (by k_asm) (by k_mem)); (case hs => with_unfolding_all rfl); (case h0 => omega); (case hhi => (try simp only [List.length_map]); omega); (case hz => (try simp only [List.length_map]); omega)))))
local macro_rules | `(tactic| walk_at "exec Try") => `(tactic| (k_here; (with_reducible show wpAny _ _ (exec (Stmt.Try _ (_ :: _) _ [] _) _) _ _ _); refine wpAny_Try_except ?_))
local macro_rules | `(tactic| walk_at "eval ListComp") => `(tactic| (k_here; (with_reducible show wpAny _ _ (eval (PySem.Expr.ListComp _ [PySem.Comprehension.mk _ _ (_ :: _) _] _ _) _) _ _ _); k_dflt (refine LCt.ListComp_T (F₀ := by k_asm) (by with_unfolding_all rfl) (by decide) (by rfl) (by decide) (by rfl) ?_)))
local macro_rules | `(tactic| walk_at "call builtin:len") => `(tactic| (k_here; (with_reducible show wpAny _ _ (call (Value.builtin "len") [Value.ref _]) _ _ _); k_dflt (refine' len_of ?k1 ?k2 ?_; (case k1 => exact News.isList (by k_asm) (by k_mem)); (case k2 => first | omega | (simp only [List.length_map]; omega)); k_whole); (try simp only [List.length_map])))
local macro_rules | `(tactic| walk_at "call ref") => `(tactic| (k_here; (with_reducible show wpAny _ _ (call (Value.ref 107) _) _ _ _); refine Stop.out ?_))
local macro_rules | `(tactic| walk_at "call ref") => `(tactic| (k_here; (with_reducible show wpAny _ _ (call (Value.ref 66) _) _ _ _); refine Stop.out ?_))
local macro_rules | `(tactic| walk_at "compareOp IsNot") => `(tactic| (refine Stop.out ?_))
local macro_rules | `(tactic| walk_at "compareOp IsNot ref ref") => `(tactic| (refine Stop.out ?_))
local macro_rules | `(tactic| walk_at "pyIter ref") => `(tactic| (k_here; refine Stop.out ?_))
local macro_rules | `(tactic| walk_at "UnrEnd") => `(tactic| (refine Stop.out ?_))
local macro_rules | `(tactic| walk_at "call type:range") => `(tactic| (k_here; k_dflt (refine' range1_rows ?F ?N ?_; (case F => k_asm); (case N => k_asm)); intro h' tk' t1 u1 v1 R' F' N' K'))
local macro_rules | `(tactic| walk_at "exec Assign cons ListComp") => `(tactic| (k_here; k_dflt (refine LCt.Assign_ListComp_T (F₀ := by k_asm) (by rfl) (by with_unfolding_all rfl) (by with_unfolding_all rfl) (by decide) (by rfl) (by decide) (by rfl) (by rfl) (by rfl) ?_)))
local macro_rules | `(tactic| walk_at "exec For Name Call cons nil") => `(tactic| (k_here; (rename Fr _ _ _ _ => lF'); (with_unfolding_all refine' For_invVF lF' ?k1 ?k2 ?_ (hE := PassesOwn.never); (case k1 => exact rfl); (case k2 => exact rfl); k_whole)))
/-- the ledger within a turn, by whether the closure's code is made already -/
def TabIs (b : Bool) (tab : List (Addr × Obj)) : Prop := match b with | false => tab = [(102, tabObj #[])] | true => ∃ c' oc, tab = [(c', oc), (102, tabObj #[rawInt 42, rawInt 4, .ref c'])] ∧ CodeOk oc
def MidS (b : Bool) (h₀ : Heap) (L : Addr) (tv : List Value) (ROWS SETS TH SCR x y dx dy : Addr) (ks kt : Nat) (hsh : Int) (t t2 : Tok) (rest : List (Addr × Obj)) (o : Bool) (wh pk mo : Int) (h : Heap) : Prop :=
  ∃ (m : Str → Option Value) (l l2 r r2 : Addr) (kr n n2 rn rn2 : Nat) (R R2 : List Int) (rs rs2 : List Value) (ck : Obj) (tab : List (Addr × Obj)) (tg : Nat → Nat) (tm tw ti tp : Tok),
    Fr h₀ L h m ∧ News h₀ L h (canon ROWS SETS TH (if o then [.ref r2, .ref r] else [.ref r, .ref r2]) (if o then [.ref y, .ref x] else [.ref x, .ref y]) tv kr ks kt hsh r rs rn x dx t l (R.map (thing tv)) n r2 rs2 rn2 y dy t2 l2 (R2.map (thing tv)) n2 ((L + 1, ck) :: (tab ++ rest))) ∧
    (m (Str.ofString "one") = some (.ref x) ∧ m (Str.ofString "more") = some (.int mo tm) ∧ m (Str.ofString "what") = some (.int wh tw) ∧ m (Str.ofString "index") = some (.int (if o then 1 else 0) ti) ∧
      m (Str.ofString "rows") = some (.ref ROWS) ∧ m (Str.ofString "sets") = some (.ref SETS) ∧ m (Str.ofString "things") = some (.ref TH) ∧ m (Str.ofString "script") = some (.ref SCR)) ∧
    Row R rs ∧ Row R2 rs2 ∧ ck.data = .cell (some (.int pk tp)) ∧ TabIs b tab ∧ Tags tg x dx l r y dy l2 r2 ROWS SETS TH (L + 1) (tab ++ rest)
theorem Mid.split {h₀ : Heap} {L : Addr} {tv : List Value} {ROWS SETS TH SCR x y dx dy : Addr} {ks kt : Nat} {hsh : Int} {t t2 : Tok} {rest : List (Addr × Obj)} {o : Bool} {wh pk mo : Int} {h : Heap} (M : Mid h₀ L tv ROWS SETS TH SCR x y dx dy ks kt hsh t t2 rest o wh pk mo h) :
    ∃ b, MidS b h₀ L tv ROWS SETS TH SCR x y dx dy ks kt hsh t t2 rest o wh pk mo h := by
  obtain ⟨m, l, l2, r, r2, kr, n, n2, rn, rn2, R, R2, rs, rs2, ck, tab, tg, tm, tw, ti, tp, F, N, hm, hR, hR2, hck, htab, g⟩ := M
  rcases htab with ht | ht
  · exact ⟨false, m, l, l2, r, r2, kr, n, n2, rn, rn2, R, R2, rs, rs2, ck, tab, tg, tm, tw, ti, tp, F, N, hm, hR, hR2, hck, ht, g⟩
  · exact ⟨true, m, l, l2, r, r2, kr, n, n2, rn, rn2, R, R2, rs, rs2, ck, tab, tg, tm, tw, ti, tp, F, N, hm, hR, hR2, hck, ht, g⟩
set_option maxHeartbeats 4000000 in
theorem st_map1 (w : World) (h₀ : Heap) (L fa : Addr) (cd : Value) (p : Program) (loose : List Str) (mean : ExcName → Option Value) (mg mb : Str → Option Value) (s : Shared) (Q : Flow → Shared → Prop) (E : Value → Shared → Prop)
    (ROWS SETS TH SCR x y dx dy : Addr) (tv : List Value) (ks kt : Nat) (hsh : Int) (t t2 : Tok) (rest : List (Addr × Obj)) (wh pk mo : Int) (hpk0 : 0 ≤ pk) (hpk7 : pk < 7)
    (htv : tv.length = 7) (hnd : tv.Nodup) (htv0 : tv.getD 0 .none = .none) (h102 : ∀ q ∈ rest, @Ne Nat q.1 102) (hth : ∀ v ∈ tv, Th rest v)
    (K : Below callerA h₀ [] h₀) (X : (hd.heap_39 w.params).In h₀) (T : Top p loose mean mg mb h₀)
    (M : MidS false h₀ L tv ROWS SETS TH SCR x y dx dy ks kt hsh t t2 rest false wh pk mo s.heap)
    (hQ : ∀ h' tk', Mid h₀ L tv ROWS SETS TH SCR x y dx dy ks kt hsh t t2 rest false wh pk mo h' → Q .next { s with heap := h', toks := tk' }) :
    wpAny (model prg w) (callerA.deeper (lawEnv L fa cd)) (exec (lawSt 9) (lawEnv L fa cd)) Q E s := by
  conv in lawSt 9 => whnf
  delta lawEnv
  generalize hlsc : lawScope = lsc
  conv at hlsc => lhs; whnf
  subst hlsc
  obtain ⟨m, l, l2, r, r2, kr, n, n2, rn, rn2, R, R2, rs, rs2, ck, tab, tg, tm, tw, ti, tp, F, N, hm, hR, hR2, hck, htab, g⟩ := M
  have hF := F
  rw [map_norm hm] at F
  have hlen := hR.len
  have hrs := hR.isI
  have hrs2 := hR2.isI
  have hrl := hrs.length
  have hth' : ∀ v ∈ tv, Th ((L + 1, ck) :: (tab ++ rest)) v := fun v hv => (hth v hv).mono fun p hp => by simp [hp]
  have hthv := hR.things htv hth'
  have hob := hth' _ (pk_mem htv ⟨hpk0, hpk7⟩)
  have hN := N
  have hoffR := tag_all g.re g.ro (by decide)
  obtain ⟨g1, g2, g3, g4, g5, g6, g7, g8, g9, g10, g11, g12, -⟩ := id g
  delta canon at N
  have hdl : (rs.filter (neInt 0)).length = (R.filter (· != 0)).length := (hR.del 0).isI.length
  have hdl2 : (R.filter (· != 0)).length ≤ R.length := List.length_filter_le _ _
  refine wpAny_mono (E := fun _ _ => False) ?_ (fun _ _ z => z) (fun _ _ z => z.elim)
  have hdue := (hR.del 0).isI
  obtain rfl := htab
  have ht102 : 20 ≤ tg 102 := g.re (102, tabObj #[]) (by simp)
  simp only [if_true, if_false, Bool.false_eq_true, List.cons_append, List.nil_append] at F N
  k_steps
  · rename_i wh3 tkA sn hA lS hB hC FX NX
    refine LCt.CompSrcT.ledger (by rfl) (by k_asm) (by k_asm) (by k_mem) (by rw [List.size_toArray, PySem.sizeLine_eq]; omega) ?_
    intro g''
    refine comp_filter (neInt 0) (fun v => v) ?_ ?_
    · intro v I oI C oC D m₂ ys h tk E' hv hC hx F' N' off ne
      obtain ⟨kv, tv', rfl⟩ := ints_mem hrs hv
      k_steps
      · refine LCg.CompEnd.intro (by k_asm) (by k_asm) _ (fun p hp => hp) off ?_ ⟨rfl, rfl⟩
        exact Or.inr ⟨_, by k_mem, rfl, _, rfl⟩
      · refine LCg.CompEnd.intro (by k_asm) (by k_asm) _ (fun p hp => hp) off ?_ rfl
        exact Or.inr ⟨_, by k_mem, rfl, _, rfl⟩
    · intro D h tk F' N' off
      simp only [LCg.Off1] at off
      obtain ⟨u1, u2, u3, u4, u5, u6, u7, u8, u9, u10, u11, u12, u13, u14, u15⟩ := off
      dsimp only
      rw [List.map_id'] at N'
      k_steps
      · refine ⟨?_⟩
        (rename News _ _ _ _ => kN)
        have hN2 : News _ _ _ ((102, tabObj #[]) :: (D, LCg.lst (rs.filter (neInt 0))) :: (sn, W.listOf ([] : List Value).toArray 0) :: canon ROWS SETS TH [.ref r, .ref r2] [.ref x, .ref y] tv kr ks kt hsh r rs rn x dx t l (R.map (thing tv)) n r2 rs2 rn2 y dy t2 l2 (R2.map (thing tv)) n2 ((L + 1, ck) :: rest)) := cb_drop kN (by (try delta canon); (try simp only [List.cons_append, List.nil_append]); (repeat (refine List.forall_mem_cons.mpr ⟨by k_mem, ?_⟩)); intro p hp; (repeat (first | exact hp | refine List.mem_cons_of_mem _ ?_)))
        have hof2 : ∀ q ∈ (D, LCg.lst (rs.filter (neInt 0))) :: (sn, W.listOf ([] : List Value).toArray 0) :: canon ROWS SETS TH [.ref r, .ref r2] [.ref x, .ref y] tv kr ks kt hsh r rs rn x dx t l (R.map (thing tv)) n r2 rs2 rn2 y dy t2 l2 (R2.map (thing tv)) n2 ((L + 1, ck) :: rest), @Ne Nat q.1 102 := (by
          simp only [canon, List.forall_mem_cons]
          refine ⟨Ne.symm u14, by omega, tag_off g1 ht102 (by decide), tag_off g2 ht102 (by decide), tag_off g3 ht102 (by decide), tag_off g4 ht102 (by decide), tag_off g5 ht102 (by decide), tag_off g6 ht102 (by decide), tag_off g7 ht102 (by decide), tag_off g8 ht102 (by decide), tag_off g9 ht102 (by decide), tag_off g10 ht102 (by decide), tag_off g11 ht102 (by decide), tag_off g12 ht102 (by decide), h102⟩)
        refine' Ctr.use (walkerC w sn (mo.fmod 5) _ _ hof2) ?k1 ?k2 ?k3 ?k4 ?k5 ?k6 ?k7 ?k8 ?_; (case k4 => exact hN2); (case k1 => k_asm); (case k2 => k_asm); (case k3 => k_asm); (case k5 => k_asm); (case k6 => exact rfl); (case k7 => ktr_room); (case k8 => ktr_units)
        rintro r' n' h' tk' ⟨fw, fo, c', oc, c1, o1, c2, o2, rfl, rfl, hco, hW, q1, q2, q3, q4, q5⟩ F' N'
        (simp only [canon, AllLt] at q5; simp only [canon] at N')
        obtain ⟨kc, od, fd, sl, hfo⟩ := hW.fn
        subst hfo
        k_steps
        refine ⟨?_⟩
        (rename News _ _ _ _ => kN)
        have hN3 : News _ _ _ ((sn, W.listOf ([] : List Value).toArray 0) :: (fw, ⟨kc, od, .func fd, sl⟩) :: (c', oc) :: (c2, o2) :: (c1, o1) :: (102, tabObj #[rawInt 42, rawInt 4, .ref c']) :: (D, LCg.lst (rs.filter (neInt 0))) :: canon ROWS SETS TH [.ref r, .ref r2] [.ref x, .ref y] tv kr ks kt hsh r rs rn x dx t l (R.map (thing tv)) n r2 rs2 rn2 y dy t2 l2 (R2.map (thing tv)) n2 ((L + 1, ck) :: rest)) := cb_drop kN (by (try delta canon); (try simp only [List.cons_append, List.nil_append]); (repeat (refine List.forall_mem_cons.mpr ⟨by k_mem, ?_⟩)); intro p hp; (repeat (first | exact hp | refine List.mem_cons_of_mem _ ?_)))
        have hof3 : ∀ q ∈ (fw, (⟨kc, od, .func fd, sl⟩ : Obj)) :: (c', oc) :: (c2, o2) :: (c1, o1) :: (102, tabObj #[rawInt 42, rawInt 4, .ref c']) :: (D, LCg.lst (rs.filter (neInt 0))) :: canon ROWS SETS TH [.ref r, .ref r2] [.ref x, .ref y] tv kr ks kt hsh r rs rn x dx t l (R.map (thing tv)) n r2 rs2 rn2 y dy t2 l2 (R2.map (thing tv)) n2 ((L + 1, ck) :: rest), @Ne Nat q.1 sn := (by
          simp only [canon, List.forall_mem_cons]
          obtain ⟨s1, s2, s3, s4, s5, s6, s7, s8, s9, s10, s11, s12, s13, s14⟩ := lS
          have q6 : @LT.lt Nat _ sn c1 := q5.2.1
          clear q5
          refine ⟨by omega, by omega, by omega, by omega, by omega, Ne.symm u1, Nat.ne_of_lt s1, Nat.ne_of_lt s2, Nat.ne_of_lt s3, Nat.ne_of_lt s4, Nat.ne_of_lt s5, Nat.ne_of_lt s6, Nat.ne_of_lt s7, Nat.ne_of_lt s8, Nat.ne_of_lt s9, Nat.ne_of_lt s10, Nat.ne_of_lt s11, Nat.ne_of_lt s12, fun q hq => Nat.ne_of_lt (allLt_ne s14 q hq)⟩)
        have hthM := hR.things htv hth
        have enn := things_nn htv hnd htv0 hR.rng
        rcases Classical.em (0 < mo.fmod 5 ∧ mo.fmod 5 < ((R.filter (· != 0)).length : Int)) with hr | hr
        · refine' CtrE.use (mapE1 ?c1 hthM hW hr.1 ?c2 hof3) ?k1 ?k2 ?k3 ?k4 ?k5 ?k6 ?k7 ?k8 ?_; (case k4 => exact hN3); (case c1 => rw [List.length_map]; omega); (case c2 => rw [enn, List.length_map]; exact hr.2); (case k1 => k_asm); (case k2 => k_asm); (case k3 => k_asm); (case k5 => k_asm); (case k6 => exact rfl); (case k7 => ktr_room); (case k8 => ktr_units)
          rintro e' n' g' h' tk' ⟨k', rfl⟩ F' U' R'
          k_steps
          refine caught_ev K rfl F' U' R' ?_ ?_
          · intro h₅ E' F₅ he
            exact test_own F₅ X T he (ownE (Frag.In.keeps X (Fr.keep F₅))) (by k_is) rfl rfl (by decide)
          · intro h₆ F₆ N₆
            simp only [canon] at N₆
            rw [enn, ← List.map_take] at N₆
            have hSr : ∀ k ∈ ((R.filter (· != 0)).take (mo.fmod 5).toNat), 0 ≤ k ∧ k < 7 := fun k hk => hR.rng k (List.mem_filter.mp (List.mem_of_mem_take hk)).1
            have hSl : (((R.filter (· != 0)).take (mo.fmod 5).toNat)).length ≤ 7 := by (have h1 := hdl2; have h2 := hlen; (try rw [List.length_take]); omega)
            k_steps
            · exfalso
              (rename IntsAre _ (List.take (mo.fmod 5).toNat _) => hIt)
              have hIl := hIt.length
              omega
            · refine ⟨?_⟩
              (rename IntsAre _ (List.take (mo.fmod 5).toNat _) => hIt)
              (rename Fr _ _ _ _ => kF); (rename News _ _ _ _ => kN); (rename IsRange _ _ _ _ _ _ _ _ => kR)
              k_dflt (refine iter_rangeUnr (n := (((R.filter (· != 0)).take (mo.fmod 5).toNat)).length) (by rfl) kR (small_one (by decide) (by decide) (by omega) (by omega)) (by rw [rangeSize_one]; split <;> omega) kF kN ?_)
              intro I hI2
              refine range_still ?_ ?_
              · intro i hi t' h' tk' F' N'
                have hi' : (0 + (i : Int)).toNat < (((R.filter (· != 0)).take (mo.fmod 5).toNat)).length := by omega
                have hb := hSr ((((R.filter (· != 0)).take (mo.fmod 5).toNat)).getD (0 + (i : Int)).toNat 0) (by simp only [List.getD, List.getElem?_eq_getElem hi', Option.getD_some]; exact List.getElem_mem _)
                k_steps
                refine ⟨?_⟩
                have e1 : ((((R.filter (· != 0)).take (mo.fmod 5).toNat)).map (thing tv)).getD (0 + (i : Int)).toNat .none = tv.getD ((((R.filter (· != 0)).take (mo.fmod 5).toNat)).getD (0 + (i : Int)).toNat 0).toNat .none := by
                  simp only [List.getD, List.getElem?_map, List.getElem?_eq_getElem hi', Option.map_some, Option.getD_some]
                rw [e1]
                have ht : Th rest (tv.getD ((((R.filter (· != 0)).take (mo.fmod 5).toNat)).getD (0 + (i : Int)).toNat 0).toNat .none) := hth _ (pk_mem htv hb)
                refine isNot_th (by k_asm) (ht.mono (fun p hp => by simp [hp])) (ht.mono (fun p hp => by simp [hp])) ?_
                simp only [decide_true, Bool.not_true]
                k_steps
                refine ⟨?_⟩
                (rename Fr _ _ _ _ => kF2); (rename News _ _ _ _ => kN2)
                exact still_end kF2 kN2 hI2
              · intro u h' tk' F' N'
                dsimp only
                k_steps
                (rename Fr _ _ _ _ => kF2); (rename News _ _ _ _ => kN2)
                obtain ⟨z1, z2, z3, z4, z5, z6, z7, z8, z9, z10, z11, z12, z13, z14, -⟩ := q5
                obtain ⟨tg', g'⟩ := g.newc (c' := c') (oc := oc) (tb := tabObj #[rawInt 42, rawInt 4, .ref c']) (by omega) (by omega) (by omega) (by omega) (by omega) (by omega) (by omega) (by omega) (by omega) (by omega) (by omega) (by omega)
                exact hQ _ _ ⟨_, l, l2, r, r2, kr, _, n2, _, rn2, R, R2, rs, rs2, ck, [(c', oc), (102, tabObj #[rawInt 42, rawInt 4, .ref c'])], tg', tm, tw, ti, tp, kF2, cb_drop kN2 (by (try delta canon); (try simp only [List.cons_append, List.nil_append]); (repeat (refine List.forall_mem_cons.mpr ⟨by k_mem, ?_⟩)); intro p hp; (repeat (first | exact hp | refine List.mem_cons_of_mem _ ?_))), ⟨rfl, rfl, rfl, rfl, rfl, rfl, rfl, rfl⟩, hR, hR2, hck, .inr ⟨_, _, rfl, hco⟩, g'⟩
        · refine' Ctr.use (mapC1 ?c1 hthM hW ?c2 hof3) ?k1 ?k2 ?k3 ?k4 ?k5 ?k6 ?k7 ?k8 ?_; (case k4 => exact hN3); (case c1 => rw [List.length_map]; omega); (case c2 => rw [enn, List.length_map]; exact hr); (case k1 => k_asm); (case k2 => k_asm); (case k3 => k_asm); (case k5 => k_asm); (case k6 => exact rfl); (case k7 => ktr_room); (case k8 => ktr_units)
          rintro r' n' h' tk' ⟨k', rfl⟩ F' N'
          simp only [canon] at N'
          rw [enn] at N'
          have hSr : ∀ k ∈ (R.filter (· != 0)), 0 ≤ k ∧ k < 7 := fun k hk => hR.rng k (List.mem_filter.mp hk).1
          have hSl : ((R.filter (· != 0))).length ≤ 7 := by (have h1 := hdl2; have h2 := hlen; (try rw [List.length_take]); omega)
          k_steps
          · exfalso
            skip
            have hIl := hdue.length
            omega
          · refine ⟨?_⟩
            skip
            (rename Fr _ _ _ _ => kF); (rename News _ _ _ _ => kN); (rename IsRange _ _ _ _ _ _ _ _ => kR)
            k_dflt (refine iter_rangeUnr (n := ((R.filter (· != 0))).length) (by rfl) kR (small_one (by decide) (by decide) (by omega) (by omega)) (by rw [rangeSize_one]; split <;> omega) kF kN ?_)
            intro I hI2
            refine range_still ?_ ?_
            · intro i hi t' h' tk' F' N'
              have hi' : (0 + (i : Int)).toNat < ((R.filter (· != 0))).length := by omega
              have hb := hSr (((R.filter (· != 0))).getD (0 + (i : Int)).toNat 0) (by simp only [List.getD, List.getElem?_eq_getElem hi', Option.getD_some]; exact List.getElem_mem _)
              k_steps
              refine ⟨?_⟩
              have e1 : (((R.filter (· != 0))).map (thing tv)).getD (0 + (i : Int)).toNat .none = tv.getD (((R.filter (· != 0))).getD (0 + (i : Int)).toNat 0).toNat .none := by
                simp only [List.getD, List.getElem?_map, List.getElem?_eq_getElem hi', Option.map_some, Option.getD_some]
              rw [e1]
              have ht : Th rest (tv.getD (((R.filter (· != 0))).getD (0 + (i : Int)).toNat 0).toNat .none) := hth _ (pk_mem htv hb)
              refine isNot_th (by k_asm) (ht.mono (fun p hp => by simp [hp])) (ht.mono (fun p hp => by simp [hp])) ?_
              simp only [decide_true, Bool.not_true]
              k_steps
              refine ⟨?_⟩
              (rename Fr _ _ _ _ => kF2); (rename News _ _ _ _ => kN2)
              exact still_end kF2 kN2 hI2
            · intro u h' tk' F' N'
              dsimp only
              k_steps
              (rename Fr _ _ _ _ => kF2); (rename News _ _ _ _ => kN2)
              obtain ⟨z1, z2, z3, z4, z5, z6, z7, z8, z9, z10, z11, z12, z13, z14, -⟩ := q5
              obtain ⟨tg', g'⟩ := g.newc (c' := c') (oc := oc) (tb := tabObj #[rawInt 42, rawInt 4, .ref c']) (by omega) (by omega) (by omega) (by omega) (by omega) (by omega) (by omega) (by omega) (by omega) (by omega) (by omega) (by omega)
              exact hQ _ _ ⟨_, l, l2, r, r2, kr, _, n2, _, rn2, R, R2, rs, rs2, ck, [(c', oc), (102, tabObj #[rawInt 42, rawInt 4, .ref c'])], tg', tm, tw, ti, tp, kF2, cb_drop kN2 (by (try delta canon); (try simp only [List.cons_append, List.nil_append]); (repeat (refine List.forall_mem_cons.mpr ⟨by k_mem, ?_⟩)); intro p hp; (repeat (first | exact hp | refine List.mem_cons_of_mem _ ?_))), ⟨rfl, rfl, rfl, rfl, rfl, rfl, rfl, rfl⟩, hR, hR2, hck, .inr ⟨_, _, rfl, hco⟩, g'⟩
      · refine ⟨?_⟩
        (rename News _ _ _ _ => kN)
        have hN2 : News _ _ _ ((102, tabObj #[]) :: (D, LCg.lst (rs.filter (neInt 0))) :: (sn, W.listOf ([] : List Value).toArray 0) :: canon ROWS SETS TH [.ref r, .ref r2] [.ref x, .ref y] tv kr ks kt hsh r rs rn x dx t l (R.map (thing tv)) n r2 rs2 rn2 y dy t2 l2 (R2.map (thing tv)) n2 ((L + 1, ck) :: rest)) := cb_drop kN (by (try delta canon); (try simp only [List.cons_append, List.nil_append]); (repeat (refine List.forall_mem_cons.mpr ⟨by k_mem, ?_⟩)); intro p hp; (repeat (first | exact hp | refine List.mem_cons_of_mem _ ?_)))
        have hof2 : ∀ q ∈ (D, LCg.lst (rs.filter (neInt 0))) :: (sn, W.listOf ([] : List Value).toArray 0) :: canon ROWS SETS TH [.ref r, .ref r2] [.ref x, .ref y] tv kr ks kt hsh r rs rn x dx t l (R.map (thing tv)) n r2 rs2 rn2 y dy t2 l2 (R2.map (thing tv)) n2 ((L + 1, ck) :: rest), @Ne Nat q.1 102 := (by
          simp only [canon, List.forall_mem_cons]
          refine ⟨Ne.symm u14, by omega, tag_off g1 ht102 (by decide), tag_off g2 ht102 (by decide), tag_off g3 ht102 (by decide), tag_off g4 ht102 (by decide), tag_off g5 ht102 (by decide), tag_off g6 ht102 (by decide), tag_off g7 ht102 (by decide), tag_off g8 ht102 (by decide), tag_off g9 ht102 (by decide), tag_off g10 ht102 (by decide), tag_off g11 ht102 (by decide), tag_off g12 ht102 (by decide), h102⟩)
        refine' Ctr.use (walkerC w sn (mo.fmod 5) _ _ hof2) ?k1 ?k2 ?k3 ?k4 ?k5 ?k6 ?k7 ?k8 ?_; (case k4 => exact hN2); (case k1 => k_asm); (case k2 => k_asm); (case k3 => k_asm); (case k5 => k_asm); (case k6 => exact rfl); (case k7 => ktr_room); (case k8 => ktr_units)
        rintro r' n' h' tk' ⟨fw, fo, c', oc, c1, o1, c2, o2, rfl, rfl, hco, hW, q1, q2, q3, q4, q5⟩ F' N'
        (simp only [canon, AllLt] at q5; simp only [canon] at N')
        obtain ⟨kc, od, fd, sl, hfo⟩ := hW.fn
        subst hfo
        k_steps
        refine ⟨?_⟩
        (rename News _ _ _ _ => kN)
        have hN3 : News _ _ _ ((sn, W.listOf ([] : List Value).toArray 0) :: (fw, ⟨kc, od, .func fd, sl⟩) :: (c', oc) :: (c2, o2) :: (c1, o1) :: (102, tabObj #[rawInt 42, rawInt 4, .ref c']) :: (D, LCg.lst (rs.filter (neInt 0))) :: canon ROWS SETS TH [.ref r, .ref r2] [.ref x, .ref y] tv kr ks kt hsh r rs rn x dx t l (R.map (thing tv)) n r2 rs2 rn2 y dy t2 l2 (R2.map (thing tv)) n2 ((L + 1, ck) :: rest)) := cb_drop kN (by (try delta canon); (try simp only [List.cons_append, List.nil_append]); (repeat (refine List.forall_mem_cons.mpr ⟨by k_mem, ?_⟩)); intro p hp; (repeat (first | exact hp | refine List.mem_cons_of_mem _ ?_)))
        have hof3 : ∀ q ∈ (fw, (⟨kc, od, .func fd, sl⟩ : Obj)) :: (c', oc) :: (c2, o2) :: (c1, o1) :: (102, tabObj #[rawInt 42, rawInt 4, .ref c']) :: (D, LCg.lst (rs.filter (neInt 0))) :: canon ROWS SETS TH [.ref r, .ref r2] [.ref x, .ref y] tv kr ks kt hsh r rs rn x dx t l (R.map (thing tv)) n r2 rs2 rn2 y dy t2 l2 (R2.map (thing tv)) n2 ((L + 1, ck) :: rest), @Ne Nat q.1 sn := (by
          simp only [canon, List.forall_mem_cons]
          obtain ⟨s1, s2, s3, s4, s5, s6, s7, s8, s9, s10, s11, s12, s13, s14⟩ := lS
          have q6 : @LT.lt Nat _ sn c1 := q5.2.1
          clear q5
          refine ⟨by omega, by omega, by omega, by omega, by omega, Ne.symm u1, Nat.ne_of_lt s1, Nat.ne_of_lt s2, Nat.ne_of_lt s3, Nat.ne_of_lt s4, Nat.ne_of_lt s5, Nat.ne_of_lt s6, Nat.ne_of_lt s7, Nat.ne_of_lt s8, Nat.ne_of_lt s9, Nat.ne_of_lt s10, Nat.ne_of_lt s11, Nat.ne_of_lt s12, fun q hq => Nat.ne_of_lt (allLt_ne s14 q hq)⟩)
        have hthM := hR.things htv hth
        have enn := things_nn htv hnd htv0 hR.rng
        rcases Classical.em (0 < mo.fmod 5 ∧ mo.fmod 5 < ((R.filter (· != 0)).length : Int)) with hr | hr
        · exact absurd hr.1 (by assumption)
        · refine' Ctr.use (mapC1 ?c1 hthM hW ?c2 hof3) ?k1 ?k2 ?k3 ?k4 ?k5 ?k6 ?k7 ?k8 ?_; (case k4 => exact hN3); (case c1 => rw [List.length_map]; omega); (case c2 => rw [enn, List.length_map]; exact hr); (case k1 => k_asm); (case k2 => k_asm); (case k3 => k_asm); (case k5 => k_asm); (case k6 => exact rfl); (case k7 => ktr_room); (case k8 => ktr_units)
          rintro r' n' h' tk' ⟨k', rfl⟩ F' N'
          simp only [canon] at N'
          rw [enn] at N'
          have hSr : ∀ k ∈ (R.filter (· != 0)), 0 ≤ k ∧ k < 7 := fun k hk => hR.rng k (List.mem_filter.mp hk).1
          have hSl : ((R.filter (· != 0))).length ≤ 7 := by (have h1 := hdl2; have h2 := hlen; (try rw [List.length_take]); omega)
          k_steps
          · exfalso
            skip
            have hIl := hdue.length
            omega
          · refine ⟨?_⟩
            skip
            (rename Fr _ _ _ _ => kF); (rename News _ _ _ _ => kN); (rename IsRange _ _ _ _ _ _ _ _ => kR)
            k_dflt (refine iter_rangeUnr (n := ((R.filter (· != 0))).length) (by rfl) kR (small_one (by decide) (by decide) (by omega) (by omega)) (by rw [rangeSize_one]; split <;> omega) kF kN ?_)
            intro I hI2
            refine range_still ?_ ?_
            · intro i hi t' h' tk' F' N'
              have hi' : (0 + (i : Int)).toNat < ((R.filter (· != 0))).length := by omega
              have hb := hSr (((R.filter (· != 0))).getD (0 + (i : Int)).toNat 0) (by simp only [List.getD, List.getElem?_eq_getElem hi', Option.getD_some]; exact List.getElem_mem _)
              k_steps
              refine ⟨?_⟩
              have e1 : (((R.filter (· != 0))).map (thing tv)).getD (0 + (i : Int)).toNat .none = tv.getD (((R.filter (· != 0))).getD (0 + (i : Int)).toNat 0).toNat .none := by
                simp only [List.getD, List.getElem?_map, List.getElem?_eq_getElem hi', Option.map_some, Option.getD_some]
              rw [e1]
              have ht : Th rest (tv.getD (((R.filter (· != 0))).getD (0 + (i : Int)).toNat 0).toNat .none) := hth _ (pk_mem htv hb)
              refine isNot_th (by k_asm) (ht.mono (fun p hp => by simp [hp])) (ht.mono (fun p hp => by simp [hp])) ?_
              simp only [decide_true, Bool.not_true]
              k_steps
              refine ⟨?_⟩
              (rename Fr _ _ _ _ => kF2); (rename News _ _ _ _ => kN2)
              exact still_end kF2 kN2 hI2
            · intro u h' tk' F' N'
              dsimp only
              k_steps
              (rename Fr _ _ _ _ => kF2); (rename News _ _ _ _ => kN2)
              obtain ⟨z1, z2, z3, z4, z5, z6, z7, z8, z9, z10, z11, z12, z13, z14, -⟩ := q5
              obtain ⟨tg', g'⟩ := g.newc (c' := c') (oc := oc) (tb := tabObj #[rawInt 42, rawInt 4, .ref c']) (by omega) (by omega) (by omega) (by omega) (by omega) (by omega) (by omega) (by omega) (by omega) (by omega) (by omega) (by omega)
              exact hQ _ _ ⟨_, l, l2, r, r2, kr, _, n2, _, rn2, R, R2, rs, rs2, ck, [(c', oc), (102, tabObj #[rawInt 42, rawInt 4, .ref c'])], tg', tm, tw, ti, tp, kF2, cb_drop kN2 (by (try delta canon); (try simp only [List.cons_append, List.nil_append]); (repeat (refine List.forall_mem_cons.mpr ⟨by k_mem, ?_⟩)); intro p hp; (repeat (first | exact hp | refine List.mem_cons_of_mem _ ?_))), ⟨rfl, rfl, rfl, rfl, rfl, rfl, rfl, rfl⟩, hR, hR2, hck, .inr ⟨_, _, rfl, hco⟩, g'⟩
  · exact hQ _ _ ⟨m, l, l2, r, r2, kr, n, n2, rn, rn2, R, R2, rs, rs2, ck, _, tg, tm, tw, ti, tp, hF, hN, hm, hR, hR2, hck, .inl rfl, g⟩
set_option maxHeartbeats 4000000 in
theorem st_map2 (w : World) (h₀ : Heap) (L fa : Addr) (cd : Value) (p : Program) (loose : List Str) (mean : ExcName → Option Value) (mg mb : Str → Option Value) (s : Shared) (Q : Flow → Shared → Prop) (E : Value → Shared → Prop)
    (ROWS SETS TH SCR x y dx dy : Addr) (tv : List Value) (ks kt : Nat) (hsh : Int) (t t2 : Tok) (rest : List (Addr × Obj)) (wh pk mo : Int) (hpk0 : 0 ≤ pk) (hpk7 : pk < 7)
    (htv : tv.length = 7) (hnd : tv.Nodup) (htv0 : tv.getD 0 .none = .none) (h102 : ∀ q ∈ rest, @Ne Nat q.1 102) (hth : ∀ v ∈ tv, Th rest v)
    (K : Below callerA h₀ [] h₀) (X : (hd.heap_39 w.params).In h₀) (T : Top p loose mean mg mb h₀)
    (M : MidS false h₀ L tv ROWS SETS TH SCR x y dx dy ks kt hsh t t2 rest true wh pk mo s.heap)
    (hQ : ∀ h' tk', Mid h₀ L tv ROWS SETS TH SCR x y dx dy ks kt hsh t t2 rest true wh pk mo h' → Q .next { s with heap := h', toks := tk' }) :
    wpAny (model prg w) (callerA.deeper (lawEnv L fa cd)) (exec (lawSt 9) (lawEnv L fa cd)) Q E s := by
  conv in lawSt 9 => whnf
  delta lawEnv
  generalize hlsc : lawScope = lsc
  conv at hlsc => lhs; whnf
  subst hlsc
  obtain ⟨m, l, l2, r, r2, kr, n, n2, rn, rn2, R, R2, rs, rs2, ck, tab, tg, tm, tw, ti, tp, F, N, hm, hR, hR2, hck, htab, g⟩ := M
  have hF := F
  rw [map_norm hm] at F
  have hlen := hR.len
  have hrs := hR.isI
  have hrs2 := hR2.isI
  have hrl := hrs.length
  have hth' : ∀ v ∈ tv, Th ((L + 1, ck) :: (tab ++ rest)) v := fun v hv => (hth v hv).mono fun p hp => by simp [hp]
  have hthv := hR.things htv hth'
  have hob := hth' _ (pk_mem htv ⟨hpk0, hpk7⟩)
  have hN := N
  have hoffR := tag_all g.re g.ro (by decide)
  obtain ⟨g1, g2, g3, g4, g5, g6, g7, g8, g9, g10, g11, g12, -⟩ := id g
  delta canon at N
  have hdl : (rs.filter (neInt 0)).length = (R.filter (· != 0)).length := (hR.del 0).isI.length
  have hdl2 : (R.filter (· != 0)).length ≤ R.length := List.length_filter_le _ _
  refine wpAny_mono (E := fun _ _ => False) ?_ (fun _ _ z => z) (fun _ _ z => z.elim)
  have hdue := (hR.del 0).isI
  obtain rfl := htab
  have ht102 : 20 ≤ tg 102 := g.re (102, tabObj #[]) (by simp)
  simp only [if_true, if_false, Bool.false_eq_true, List.cons_append, List.nil_append] at F N
  k_steps
  · rename_i wh3 tkA sn hA lS hB hC FX NX
    refine LCt.CompSrcT.ledger (by rfl) (by k_asm) (by k_asm) (by k_mem) (by rw [List.size_toArray, PySem.sizeLine_eq]; omega) ?_
    intro g''
    refine comp_filter (neInt 0) (fun v => v) ?_ ?_
    · intro v I oI C oC D m₂ ys h tk E' hv hC hx F' N' off ne
      obtain ⟨kv, tv', rfl⟩ := ints_mem hrs hv
      k_steps
      · refine LCg.CompEnd.intro (by k_asm) (by k_asm) _ (fun p hp => hp) off ?_ ⟨rfl, rfl⟩
        exact Or.inr ⟨_, by k_mem, rfl, _, rfl⟩
      · refine LCg.CompEnd.intro (by k_asm) (by k_asm) _ (fun p hp => hp) off ?_ rfl
        exact Or.inr ⟨_, by k_mem, rfl, _, rfl⟩
    · intro D h tk F' N' off
      simp only [LCg.Off1] at off
      obtain ⟨u1, u2, u3, u4, u5, u6, u7, u8, u9, u10, u11, u12, u13, u14, u15⟩ := off
      dsimp only
      rw [List.map_id'] at N'
      k_steps
      · refine ⟨?_⟩
        (rename News _ _ _ _ => kN)
        have hN2 : News _ _ _ ((102, tabObj #[]) :: (D, LCg.lst (rs.filter (neInt 0))) :: (sn, W.listOf ([] : List Value).toArray 0) :: canon ROWS SETS TH [.ref r2, .ref r] [.ref y, .ref x] tv kr ks kt hsh r rs rn x dx t l (R.map (thing tv)) n r2 rs2 rn2 y dy t2 l2 (R2.map (thing tv)) n2 ((L + 1, ck) :: rest)) := cb_drop kN (by (try delta canon); (try simp only [List.cons_append, List.nil_append]); (repeat (refine List.forall_mem_cons.mpr ⟨by k_mem, ?_⟩)); intro p hp; (repeat (first | exact hp | refine List.mem_cons_of_mem _ ?_)))
        have hof2 : ∀ q ∈ (D, LCg.lst (rs.filter (neInt 0))) :: (sn, W.listOf ([] : List Value).toArray 0) :: canon ROWS SETS TH [.ref r2, .ref r] [.ref y, .ref x] tv kr ks kt hsh r rs rn x dx t l (R.map (thing tv)) n r2 rs2 rn2 y dy t2 l2 (R2.map (thing tv)) n2 ((L + 1, ck) :: rest), @Ne Nat q.1 102 := (by
          simp only [canon, List.forall_mem_cons]
          refine ⟨Ne.symm u14, by omega, tag_off g1 ht102 (by decide), tag_off g2 ht102 (by decide), tag_off g3 ht102 (by decide), tag_off g4 ht102 (by decide), tag_off g5 ht102 (by decide), tag_off g6 ht102 (by decide), tag_off g7 ht102 (by decide), tag_off g8 ht102 (by decide), tag_off g9 ht102 (by decide), tag_off g10 ht102 (by decide), tag_off g11 ht102 (by decide), tag_off g12 ht102 (by decide), h102⟩)
        refine' Ctr.use (walkerC w sn (mo.fmod 5) _ _ hof2) ?k1 ?k2 ?k3 ?k4 ?k5 ?k6 ?k7 ?k8 ?_; (case k4 => exact hN2); (case k1 => k_asm); (case k2 => k_asm); (case k3 => k_asm); (case k5 => k_asm); (case k6 => exact rfl); (case k7 => ktr_room); (case k8 => ktr_units)
        rintro r' n' h' tk' ⟨fw, fo, c', oc, c1, o1, c2, o2, rfl, rfl, hco, hW, q1, q2, q3, q4, q5⟩ F' N'
        (simp only [canon, AllLt] at q5; simp only [canon] at N')
        obtain ⟨kc, od, fd, sl, hfo⟩ := hW.fn
        subst hfo
        k_steps
        refine ⟨?_⟩
        (rename News _ _ _ _ => kN)
        have hN3 : News _ _ _ ((sn, W.listOf ([] : List Value).toArray 0) :: (fw, ⟨kc, od, .func fd, sl⟩) :: (c', oc) :: (c2, o2) :: (c1, o1) :: (102, tabObj #[rawInt 42, rawInt 4, .ref c']) :: (D, LCg.lst (rs.filter (neInt 0))) :: canon ROWS SETS TH [.ref r2, .ref r] [.ref y, .ref x] tv kr ks kt hsh r rs rn x dx t l (R.map (thing tv)) n r2 rs2 rn2 y dy t2 l2 (R2.map (thing tv)) n2 ((L + 1, ck) :: rest)) := cb_drop kN (by (try delta canon); (try simp only [List.cons_append, List.nil_append]); (repeat (refine List.forall_mem_cons.mpr ⟨by k_mem, ?_⟩)); intro p hp; (repeat (first | exact hp | refine List.mem_cons_of_mem _ ?_)))
        have hof3 : ∀ q ∈ (fw, (⟨kc, od, .func fd, sl⟩ : Obj)) :: (c', oc) :: (c2, o2) :: (c1, o1) :: (102, tabObj #[rawInt 42, rawInt 4, .ref c']) :: (D, LCg.lst (rs.filter (neInt 0))) :: canon ROWS SETS TH [.ref r2, .ref r] [.ref y, .ref x] tv kr ks kt hsh r rs rn x dx t l (R.map (thing tv)) n r2 rs2 rn2 y dy t2 l2 (R2.map (thing tv)) n2 ((L + 1, ck) :: rest), @Ne Nat q.1 sn := (by
          simp only [canon, List.forall_mem_cons]
          obtain ⟨s1, s2, s3, s4, s5, s6, s7, s8, s9, s10, s11, s12, s13, s14⟩ := lS
          have q6 : @LT.lt Nat _ sn c1 := q5.2.1
          clear q5
          refine ⟨by omega, by omega, by omega, by omega, by omega, Ne.symm u1, Nat.ne_of_lt s1, Nat.ne_of_lt s2, Nat.ne_of_lt s3, Nat.ne_of_lt s4, Nat.ne_of_lt s5, Nat.ne_of_lt s6, Nat.ne_of_lt s7, Nat.ne_of_lt s8, Nat.ne_of_lt s9, Nat.ne_of_lt s10, Nat.ne_of_lt s11, Nat.ne_of_lt s12, fun q hq => Nat.ne_of_lt (allLt_ne s14 q hq)⟩)
        have hthM := hR.things htv hth
        have enn := things_nn htv hnd htv0 hR.rng
        rcases Classical.em (0 < mo.fmod 5 ∧ mo.fmod 5 < ((R.filter (· != 0)).length : Int)) with hr | hr
        · refine' CtrE.use (mapE1 ?c1 hthM hW hr.1 ?c2 hof3) ?k1 ?k2 ?k3 ?k4 ?k5 ?k6 ?k7 ?k8 ?_; (case k4 => exact hN3); (case c1 => rw [List.length_map]; omega); (case c2 => rw [enn, List.length_map]; exact hr.2); (case k1 => k_asm); (case k2 => k_asm); (case k3 => k_asm); (case k5 => k_asm); (case k6 => exact rfl); (case k7 => ktr_room); (case k8 => ktr_units)
          rintro e' n' g' h' tk' ⟨k', rfl⟩ F' U' R'
          k_steps
          refine caught_ev K rfl F' U' R' ?_ ?_
          · intro h₅ E' F₅ he
            exact test_own F₅ X T he (ownE (Frag.In.keeps X (Fr.keep F₅))) (by k_is) rfl rfl (by decide)
          · intro h₆ F₆ N₆
            simp only [canon] at N₆
            rw [enn, ← List.map_take] at N₆
            have hSr : ∀ k ∈ ((R.filter (· != 0)).take (mo.fmod 5).toNat), 0 ≤ k ∧ k < 7 := fun k hk => hR.rng k (List.mem_filter.mp (List.mem_of_mem_take hk)).1
            have hSl : (((R.filter (· != 0)).take (mo.fmod 5).toNat)).length ≤ 7 := by (have h1 := hdl2; have h2 := hlen; (try rw [List.length_take]); omega)
            k_steps
            · exfalso
              (rename IntsAre _ (List.take (mo.fmod 5).toNat _) => hIt)
              have hIl := hIt.length
              omega
            · refine ⟨?_⟩
              (rename IntsAre _ (List.take (mo.fmod 5).toNat _) => hIt)
              (rename Fr _ _ _ _ => kF); (rename News _ _ _ _ => kN); (rename IsRange _ _ _ _ _ _ _ _ => kR)
              k_dflt (refine iter_rangeUnr (n := (((R.filter (· != 0)).take (mo.fmod 5).toNat)).length) (by rfl) kR (small_one (by decide) (by decide) (by omega) (by omega)) (by rw [rangeSize_one]; split <;> omega) kF kN ?_)
              intro I hI2
              refine range_still ?_ ?_
              · intro i hi t' h' tk' F' N'
                have hi' : (0 + (i : Int)).toNat < (((R.filter (· != 0)).take (mo.fmod 5).toNat)).length := by omega
                have hb := hSr ((((R.filter (· != 0)).take (mo.fmod 5).toNat)).getD (0 + (i : Int)).toNat 0) (by simp only [List.getD, List.getElem?_eq_getElem hi', Option.getD_some]; exact List.getElem_mem _)
                k_steps
                refine ⟨?_⟩
                have e1 : ((((R.filter (· != 0)).take (mo.fmod 5).toNat)).map (thing tv)).getD (0 + (i : Int)).toNat .none = tv.getD ((((R.filter (· != 0)).take (mo.fmod 5).toNat)).getD (0 + (i : Int)).toNat 0).toNat .none := by
                  simp only [List.getD, List.getElem?_map, List.getElem?_eq_getElem hi', Option.map_some, Option.getD_some]
                rw [e1]
                have ht : Th rest (tv.getD ((((R.filter (· != 0)).take (mo.fmod 5).toNat)).getD (0 + (i : Int)).toNat 0).toNat .none) := hth _ (pk_mem htv hb)
                refine isNot_th (by k_asm) (ht.mono (fun p hp => by simp [hp])) (ht.mono (fun p hp => by simp [hp])) ?_
                simp only [decide_true, Bool.not_true]
                k_steps
                refine ⟨?_⟩
                (rename Fr _ _ _ _ => kF2); (rename News _ _ _ _ => kN2)
                exact still_end kF2 kN2 hI2
              · intro u h' tk' F' N'
                dsimp only
                k_steps
                (rename Fr _ _ _ _ => kF2); (rename News _ _ _ _ => kN2)
                obtain ⟨z1, z2, z3, z4, z5, z6, z7, z8, z9, z10, z11, z12, z13, z14, -⟩ := q5
                obtain ⟨tg', g'⟩ := g.newc (c' := c') (oc := oc) (tb := tabObj #[rawInt 42, rawInt 4, .ref c']) (by omega) (by omega) (by omega) (by omega) (by omega) (by omega) (by omega) (by omega) (by omega) (by omega) (by omega) (by omega)
                exact hQ _ _ ⟨_, l, l2, r, r2, kr, _, n2, _, rn2, R, R2, rs, rs2, ck, [(c', oc), (102, tabObj #[rawInt 42, rawInt 4, .ref c'])], tg', tm, tw, ti, tp, kF2, cb_drop kN2 (by (try delta canon); (try simp only [List.cons_append, List.nil_append]); (repeat (refine List.forall_mem_cons.mpr ⟨by k_mem, ?_⟩)); intro p hp; (repeat (first | exact hp | refine List.mem_cons_of_mem _ ?_))), ⟨rfl, rfl, rfl, rfl, rfl, rfl, rfl, rfl⟩, hR, hR2, hck, .inr ⟨_, _, rfl, hco⟩, g'⟩
        · refine' Ctr.use (mapC1 ?c1 hthM hW ?c2 hof3) ?k1 ?k2 ?k3 ?k4 ?k5 ?k6 ?k7 ?k8 ?_; (case k4 => exact hN3); (case c1 => rw [List.length_map]; omega); (case c2 => rw [enn, List.length_map]; exact hr); (case k1 => k_asm); (case k2 => k_asm); (case k3 => k_asm); (case k5 => k_asm); (case k6 => exact rfl); (case k7 => ktr_room); (case k8 => ktr_units)
          rintro r' n' h' tk' ⟨k', rfl⟩ F' N'
          simp only [canon] at N'
          rw [enn] at N'
          have hSr : ∀ k ∈ (R.filter (· != 0)), 0 ≤ k ∧ k < 7 := fun k hk => hR.rng k (List.mem_filter.mp hk).1
          have hSl : ((R.filter (· != 0))).length ≤ 7 := by (have h1 := hdl2; have h2 := hlen; (try rw [List.length_take]); omega)
          k_steps
          · exfalso
            skip
            have hIl := hdue.length
            omega
          · refine ⟨?_⟩
            skip
            (rename Fr _ _ _ _ => kF); (rename News _ _ _ _ => kN); (rename IsRange _ _ _ _ _ _ _ _ => kR)
            k_dflt (refine iter_rangeUnr (n := ((R.filter (· != 0))).length) (by rfl) kR (small_one (by decide) (by decide) (by omega) (by omega)) (by rw [rangeSize_one]; split <;> omega) kF kN ?_)
            intro I hI2
            refine range_still ?_ ?_
            · intro i hi t' h' tk' F' N'
              have hi' : (0 + (i : Int)).toNat < ((R.filter (· != 0))).length := by omega
              have hb := hSr (((R.filter (· != 0))).getD (0 + (i : Int)).toNat 0) (by simp only [List.getD, List.getElem?_eq_getElem hi', Option.getD_some]; exact List.getElem_mem _)
              k_steps
              refine ⟨?_⟩
              have e1 : (((R.filter (· != 0))).map (thing tv)).getD (0 + (i : Int)).toNat .none = tv.getD (((R.filter (· != 0))).getD (0 + (i : Int)).toNat 0).toNat .none := by
                simp only [List.getD, List.getElem?_map, List.getElem?_eq_getElem hi', Option.map_some, Option.getD_some]
              rw [e1]
              have ht : Th rest (tv.getD (((R.filter (· != 0))).getD (0 + (i : Int)).toNat 0).toNat .none) := hth _ (pk_mem htv hb)
              refine isNot_th (by k_asm) (ht.mono (fun p hp => by simp [hp])) (ht.mono (fun p hp => by simp [hp])) ?_
              simp only [decide_true, Bool.not_true]
              k_steps
              refine ⟨?_⟩
              (rename Fr _ _ _ _ => kF2); (rename News _ _ _ _ => kN2)
              exact still_end kF2 kN2 hI2
            · intro u h' tk' F' N'
              dsimp only
              k_steps
              (rename Fr _ _ _ _ => kF2); (rename News _ _ _ _ => kN2)
              obtain ⟨z1, z2, z3, z4, z5, z6, z7, z8, z9, z10, z11, z12, z13, z14, -⟩ := q5
              obtain ⟨tg', g'⟩ := g.newc (c' := c') (oc := oc) (tb := tabObj #[rawInt 42, rawInt 4, .ref c']) (by omega) (by omega) (by omega) (by omega) (by omega) (by omega) (by omega) (by omega) (by omega) (by omega) (by omega) (by omega)
              exact hQ _ _ ⟨_, l, l2, r, r2, kr, _, n2, _, rn2, R, R2, rs, rs2, ck, [(c', oc), (102, tabObj #[rawInt 42, rawInt 4, .ref c'])], tg', tm, tw, ti, tp, kF2, cb_drop kN2 (by (try delta canon); (try simp only [List.cons_append, List.nil_append]); (repeat (refine List.forall_mem_cons.mpr ⟨by k_mem, ?_⟩)); intro p hp; (repeat (first | exact hp | refine List.mem_cons_of_mem _ ?_))), ⟨rfl, rfl, rfl, rfl, rfl, rfl, rfl, rfl⟩, hR, hR2, hck, .inr ⟨_, _, rfl, hco⟩, g'⟩
      · refine ⟨?_⟩
        (rename News _ _ _ _ => kN)
        have hN2 : News _ _ _ ((102, tabObj #[]) :: (D, LCg.lst (rs.filter (neInt 0))) :: (sn, W.listOf ([] : List Value).toArray 0) :: canon ROWS SETS TH [.ref r2, .ref r] [.ref y, .ref x] tv kr ks kt hsh r rs rn x dx t l (R.map (thing tv)) n r2 rs2 rn2 y dy t2 l2 (R2.map (thing tv)) n2 ((L + 1, ck) :: rest)) := cb_drop kN (by (try delta canon); (try simp only [List.cons_append, List.nil_append]); (repeat (refine List.forall_mem_cons.mpr ⟨by k_mem, ?_⟩)); intro p hp; (repeat (first | exact hp | refine List.mem_cons_of_mem _ ?_)))
        have hof2 : ∀ q ∈ (D, LCg.lst (rs.filter (neInt 0))) :: (sn, W.listOf ([] : List Value).toArray 0) :: canon ROWS SETS TH [.ref r2, .ref r] [.ref y, .ref x] tv kr ks kt hsh r rs rn x dx t l (R.map (thing tv)) n r2 rs2 rn2 y dy t2 l2 (R2.map (thing tv)) n2 ((L + 1, ck) :: rest), @Ne Nat q.1 102 := (by
          simp only [canon, List.forall_mem_cons]
          refine ⟨Ne.symm u14, by omega, tag_off g1 ht102 (by decide), tag_off g2 ht102 (by decide), tag_off g3 ht102 (by decide), tag_off g4 ht102 (by decide), tag_off g5 ht102 (by decide), tag_off g6 ht102 (by decide), tag_off g7 ht102 (by decide), tag_off g8 ht102 (by decide), tag_off g9 ht102 (by decide), tag_off g10 ht102 (by decide), tag_off g11 ht102 (by decide), tag_off g12 ht102 (by decide), h102⟩)
        refine' Ctr.use (walkerC w sn (mo.fmod 5) _ _ hof2) ?k1 ?k2 ?k3 ?k4 ?k5 ?k6 ?k7 ?k8 ?_; (case k4 => exact hN2); (case k1 => k_asm); (case k2 => k_asm); (case k3 => k_asm); (case k5 => k_asm); (case k6 => exact rfl); (case k7 => ktr_room); (case k8 => ktr_units)
        rintro r' n' h' tk' ⟨fw, fo, c', oc, c1, o1, c2, o2, rfl, rfl, hco, hW, q1, q2, q3, q4, q5⟩ F' N'
        (simp only [canon, AllLt] at q5; simp only [canon] at N')
        obtain ⟨kc, od, fd, sl, hfo⟩ := hW.fn
        subst hfo
        k_steps
        refine ⟨?_⟩
        (rename News _ _ _ _ => kN)
        have hN3 : News _ _ _ ((sn, W.listOf ([] : List Value).toArray 0) :: (fw, ⟨kc, od, .func fd, sl⟩) :: (c', oc) :: (c2, o2) :: (c1, o1) :: (102, tabObj #[rawInt 42, rawInt 4, .ref c']) :: (D, LCg.lst (rs.filter (neInt 0))) :: canon ROWS SETS TH [.ref r2, .ref r] [.ref y, .ref x] tv kr ks kt hsh r rs rn x dx t l (R.map (thing tv)) n r2 rs2 rn2 y dy t2 l2 (R2.map (thing tv)) n2 ((L + 1, ck) :: rest)) := cb_drop kN (by (try delta canon); (try simp only [List.cons_append, List.nil_append]); (repeat (refine List.forall_mem_cons.mpr ⟨by k_mem, ?_⟩)); intro p hp; (repeat (first | exact hp | refine List.mem_cons_of_mem _ ?_)))
        have hof3 : ∀ q ∈ (fw, (⟨kc, od, .func fd, sl⟩ : Obj)) :: (c', oc) :: (c2, o2) :: (c1, o1) :: (102, tabObj #[rawInt 42, rawInt 4, .ref c']) :: (D, LCg.lst (rs.filter (neInt 0))) :: canon ROWS SETS TH [.ref r2, .ref r] [.ref y, .ref x] tv kr ks kt hsh r rs rn x dx t l (R.map (thing tv)) n r2 rs2 rn2 y dy t2 l2 (R2.map (thing tv)) n2 ((L + 1, ck) :: rest), @Ne Nat q.1 sn := (by
          simp only [canon, List.forall_mem_cons]
          obtain ⟨s1, s2, s3, s4, s5, s6, s7, s8, s9, s10, s11, s12, s13, s14⟩ := lS
          have q6 : @LT.lt Nat _ sn c1 := q5.2.1
          clear q5
          refine ⟨by omega, by omega, by omega, by omega, by omega, Ne.symm u1, Nat.ne_of_lt s1, Nat.ne_of_lt s2, Nat.ne_of_lt s3, Nat.ne_of_lt s4, Nat.ne_of_lt s5, Nat.ne_of_lt s6, Nat.ne_of_lt s7, Nat.ne_of_lt s8, Nat.ne_of_lt s9, Nat.ne_of_lt s10, Nat.ne_of_lt s11, Nat.ne_of_lt s12, fun q hq => Nat.ne_of_lt (allLt_ne s14 q hq)⟩)
        have hthM := hR.things htv hth
        have enn := things_nn htv hnd htv0 hR.rng
        rcases Classical.em (0 < mo.fmod 5 ∧ mo.fmod 5 < ((R.filter (· != 0)).length : Int)) with hr | hr
        · exact absurd hr.1 (by assumption)
        · refine' Ctr.use (mapC1 ?c1 hthM hW ?c2 hof3) ?k1 ?k2 ?k3 ?k4 ?k5 ?k6 ?k7 ?k8 ?_; (case k4 => exact hN3); (case c1 => rw [List.length_map]; omega); (case c2 => rw [enn, List.length_map]; exact hr); (case k1 => k_asm); (case k2 => k_asm); (case k3 => k_asm); (case k5 => k_asm); (case k6 => exact rfl); (case k7 => ktr_room); (case k8 => ktr_units)
          rintro r' n' h' tk' ⟨k', rfl⟩ F' N'
          simp only [canon] at N'
          rw [enn] at N'
          have hSr : ∀ k ∈ (R.filter (· != 0)), 0 ≤ k ∧ k < 7 := fun k hk => hR.rng k (List.mem_filter.mp hk).1
          have hSl : ((R.filter (· != 0))).length ≤ 7 := by (have h1 := hdl2; have h2 := hlen; (try rw [List.length_take]); omega)
          k_steps
          · exfalso
            skip
            have hIl := hdue.length
            omega
          · refine ⟨?_⟩
            skip
            (rename Fr _ _ _ _ => kF); (rename News _ _ _ _ => kN); (rename IsRange _ _ _ _ _ _ _ _ => kR)
            k_dflt (refine iter_rangeUnr (n := ((R.filter (· != 0))).length) (by rfl) kR (small_one (by decide) (by decide) (by omega) (by omega)) (by rw [rangeSize_one]; split <;> omega) kF kN ?_)
            intro I hI2
            refine range_still ?_ ?_
            · intro i hi t' h' tk' F' N'
              have hi' : (0 + (i : Int)).toNat < ((R.filter (· != 0))).length := by omega
              have hb := hSr (((R.filter (· != 0))).getD (0 + (i : Int)).toNat 0) (by simp only [List.getD, List.getElem?_eq_getElem hi', Option.getD_some]; exact List.getElem_mem _)
              k_steps
              refine ⟨?_⟩
              have e1 : (((R.filter (· != 0))).map (thing tv)).getD (0 + (i : Int)).toNat .none = tv.getD (((R.filter (· != 0))).getD (0 + (i : Int)).toNat 0).toNat .none := by
                simp only [List.getD, List.getElem?_map, List.getElem?_eq_getElem hi', Option.map_some, Option.getD_some]
              rw [e1]
              have ht : Th rest (tv.getD (((R.filter (· != 0))).getD (0 + (i : Int)).toNat 0).toNat .none) := hth _ (pk_mem htv hb)
              refine isNot_th (by k_asm) (ht.mono (fun p hp => by simp [hp])) (ht.mono (fun p hp => by simp [hp])) ?_
              simp only [decide_true, Bool.not_true]
              k_steps
              refine ⟨?_⟩
              (rename Fr _ _ _ _ => kF2); (rename News _ _ _ _ => kN2)
              exact still_end kF2 kN2 hI2
            · intro u h' tk' F' N'
              dsimp only
              k_steps
              (rename Fr _ _ _ _ => kF2); (rename News _ _ _ _ => kN2)
              obtain ⟨z1, z2, z3, z4, z5, z6, z7, z8, z9, z10, z11, z12, z13, z14, -⟩ := q5
              obtain ⟨tg', g'⟩ := g.newc (c' := c') (oc := oc) (tb := tabObj #[rawInt 42, rawInt 4, .ref c']) (by omega) (by omega) (by omega) (by omega) (by omega) (by omega) (by omega) (by omega) (by omega) (by omega) (by omega) (by omega)
              exact hQ _ _ ⟨_, l, l2, r, r2, kr, _, n2, _, rn2, R, R2, rs, rs2, ck, [(c', oc), (102, tabObj #[rawInt 42, rawInt 4, .ref c'])], tg', tm, tw, ti, tp, kF2, cb_drop kN2 (by (try delta canon); (try simp only [List.cons_append, List.nil_append]); (repeat (refine List.forall_mem_cons.mpr ⟨by k_mem, ?_⟩)); intro p hp; (repeat (first | exact hp | refine List.mem_cons_of_mem _ ?_))), ⟨rfl, rfl, rfl, rfl, rfl, rfl, rfl, rfl⟩, hR, hR2, hck, .inr ⟨_, _, rfl, hco⟩, g'⟩
  · exact hQ _ _ ⟨m, l, l2, r, r2, kr, n, n2, rn, rn2, R, R2, rs, rs2, ck, _, tg, tm, tw, ti, tp, hF, hN, hm, hR, hR2, hck, .inl rfl, g⟩
set_option maxHeartbeats 4000000 in
theorem st_map3 (w : World) (h₀ : Heap) (L fa : Addr) (cd : Value) (p : Program) (loose : List Str) (mean : ExcName → Option Value) (mg mb : Str → Option Value) (s : Shared) (Q : Flow → Shared → Prop) (E : Value → Shared → Prop)
    (ROWS SETS TH SCR x y dx dy : Addr) (tv : List Value) (ks kt : Nat) (hsh : Int) (t t2 : Tok) (rest : List (Addr × Obj)) (wh pk mo : Int) (hpk0 : 0 ≤ pk) (hpk7 : pk < 7)
    (htv : tv.length = 7) (hnd : tv.Nodup) (htv0 : tv.getD 0 .none = .none) (h102 : ∀ q ∈ rest, @Ne Nat q.1 102) (hth : ∀ v ∈ tv, Th rest v)
    (K : Below callerA h₀ [] h₀) (X : (hd.heap_39 w.params).In h₀) (T : Top p loose mean mg mb h₀)
    (M : MidS true h₀ L tv ROWS SETS TH SCR x y dx dy ks kt hsh t t2 rest false wh pk mo s.heap)
    (hQ : ∀ h' tk', Mid h₀ L tv ROWS SETS TH SCR x y dx dy ks kt hsh t t2 rest false wh pk mo h' → Q .next { s with heap := h', toks := tk' }) :
    wpAny (model prg w) (callerA.deeper (lawEnv L fa cd)) (exec (lawSt 9) (lawEnv L fa cd)) Q E s := by
  conv in lawSt 9 => whnf
  delta lawEnv
  generalize hlsc : lawScope = lsc
  conv at hlsc => lhs; whnf
  subst hlsc
  obtain ⟨m, l, l2, r, r2, kr, n, n2, rn, rn2, R, R2, rs, rs2, ck, tab, tg, tm, tw, ti, tp, F, N, hm, hR, hR2, hck, htab, g⟩ := M
  have hF := F
  rw [map_norm hm] at F
  have hlen := hR.len
  have hrs := hR.isI
  have hrs2 := hR2.isI
  have hrl := hrs.length
  have hth' : ∀ v ∈ tv, Th ((L + 1, ck) :: (tab ++ rest)) v := fun v hv => (hth v hv).mono fun p hp => by simp [hp]
  have hthv := hR.things htv hth'
  have hob := hth' _ (pk_mem htv ⟨hpk0, hpk7⟩)
  have hN := N
  have hoffR := tag_all g.re g.ro (by decide)
  obtain ⟨g1, g2, g3, g4, g5, g6, g7, g8, g9, g10, g11, g12, -⟩ := id g
  delta canon at N
  have hdl : (rs.filter (neInt 0)).length = (R.filter (· != 0)).length := (hR.del 0).isI.length
  have hdl2 : (R.filter (· != 0)).length ≤ R.length := List.length_filter_le _ _
  refine wpAny_mono (E := fun _ _ => False) ?_ (fun _ _ z => z) (fun _ _ z => z.elim)
  have hdue := (hR.del 0).isI
  obtain ⟨c', oc, rfl, hco⟩ := htab
  simp only [if_true, if_false, Bool.false_eq_true, List.cons_append, List.nil_append] at F N
  k_steps
  · rename_i wh3 tkA sn hA lS hB hC FX NX
    refine LCt.CompSrcT.ledger (by rfl) (by k_asm) (by k_asm) (by k_mem) (by rw [List.size_toArray, PySem.sizeLine_eq]; omega) ?_
    intro g''
    refine comp_filter (neInt 0) (fun v => v) ?_ ?_
    · intro v I oI C oC D m₂ ys h tk E' hv hC hx F' N' off ne
      obtain ⟨kv, tv', rfl⟩ := ints_mem hrs hv
      k_steps
      · refine LCg.CompEnd.intro (by k_asm) (by k_asm) _ (fun p hp => hp) off ?_ ⟨rfl, rfl⟩
        exact Or.inr ⟨_, by k_mem, rfl, _, rfl⟩
      · refine LCg.CompEnd.intro (by k_asm) (by k_asm) _ (fun p hp => hp) off ?_ rfl
        exact Or.inr ⟨_, by k_mem, rfl, _, rfl⟩
    · intro D h tk F' N' off
      simp only [LCg.Off1] at off
      obtain ⟨u1, u2, u3, u4, u5, u6, u7, u8, u9, u10, u11, u12, u13, uc, u14, u15⟩ := off
      dsimp only
      rw [List.map_id'] at N'
      k_steps
      · refine ⟨?_⟩
        (rename News _ _ _ _ => kN)
        have hN2 : News _ _ _ ((c', oc) :: (102, tabObj #[rawInt 42, rawInt 4, .ref c']) :: (D, LCg.lst (rs.filter (neInt 0))) :: (sn, W.listOf ([] : List Value).toArray 0) :: canon ROWS SETS TH [.ref r, .ref r2] [.ref x, .ref y] tv kr ks kt hsh r rs rn x dx t l (R.map (thing tv)) n r2 rs2 rn2 y dy t2 l2 (R2.map (thing tv)) n2 ((L + 1, ck) :: rest)) := cb_drop kN (by (try delta canon); (try simp only [List.cons_append, List.nil_append]); (repeat (refine List.forall_mem_cons.mpr ⟨by k_mem, ?_⟩)); intro p hp; (repeat (first | exact hp | refine List.mem_cons_of_mem _ ?_)))
        refine' Ctr.use (walkerC2 w sn (mo.fmod 5) _ c' oc _ hco) ?k1 ?k2 ?k3 ?k4 ?k5 ?k6 ?k7 ?k8 ?_; (case k4 => exact hN2); (case k1 => k_asm); (case k2 => k_asm); (case k3 => k_asm); (case k5 => k_asm); (case k6 => exact rfl); (case k7 => ktr_room); (case k8 => ktr_units)
        rintro r' n' h' tk' ⟨fw, fo, c1, o1, c2, o2, rfl, rfl, hW, q1, q2, q3, q4, q5⟩ F' N'
        (simp only [canon, AllLt] at q5; simp only [canon] at N')
        obtain ⟨kc, od, fd, sl, hfo⟩ := hW.fn
        subst hfo
        k_steps
        refine ⟨?_⟩
        (rename News _ _ _ _ => kN)
        have hN3 : News _ _ _ ((sn, W.listOf ([] : List Value).toArray 0) :: (fw, ⟨kc, od, .func fd, sl⟩) :: (c', oc) :: (c2, o2) :: (c1, o1) :: (102, tabObj #[rawInt 42, rawInt 4, .ref c']) :: (D, LCg.lst (rs.filter (neInt 0))) :: canon ROWS SETS TH [.ref r, .ref r2] [.ref x, .ref y] tv kr ks kt hsh r rs rn x dx t l (R.map (thing tv)) n r2 rs2 rn2 y dy t2 l2 (R2.map (thing tv)) n2 ((L + 1, ck) :: rest)) := cb_drop kN (by (try delta canon); (try simp only [List.cons_append, List.nil_append]); (repeat (refine List.forall_mem_cons.mpr ⟨by k_mem, ?_⟩)); intro p hp; (repeat (first | exact hp | refine List.mem_cons_of_mem _ ?_)))
        have hof3 : ∀ q ∈ (fw, (⟨kc, od, .func fd, sl⟩ : Obj)) :: (c', oc) :: (c2, o2) :: (c1, o1) :: (102, tabObj #[rawInt 42, rawInt 4, .ref c']) :: (D, LCg.lst (rs.filter (neInt 0))) :: canon ROWS SETS TH [.ref r, .ref r2] [.ref x, .ref y] tv kr ks kt hsh r rs rn x dx t l (R.map (thing tv)) n r2 rs2 rn2 y dy t2 l2 (R2.map (thing tv)) n2 ((L + 1, ck) :: rest), @Ne Nat q.1 sn := (by
          simp only [canon, List.forall_mem_cons]
          obtain ⟨s1, s2, s3, s4, s5, s6, s7, s8, s9, s10, s11, s12, sc, s13, s14⟩ := lS
          have q6 : @LT.lt Nat _ sn c1 := q5.2.1
          clear q5
          refine ⟨by omega, by omega, by omega, by omega, by omega, Ne.symm u1, Nat.ne_of_lt s1, Nat.ne_of_lt s2, Nat.ne_of_lt s3, Nat.ne_of_lt s4, Nat.ne_of_lt s5, Nat.ne_of_lt s6, Nat.ne_of_lt s7, Nat.ne_of_lt s8, Nat.ne_of_lt s9, Nat.ne_of_lt s10, Nat.ne_of_lt s11, Nat.ne_of_lt s12, fun q hq => Nat.ne_of_lt (allLt_ne s14 q hq)⟩)
        have hthM := hR.things htv hth
        have enn := things_nn htv hnd htv0 hR.rng
        rcases Classical.em (0 < mo.fmod 5 ∧ mo.fmod 5 < ((R.filter (· != 0)).length : Int)) with hr | hr
        · refine' CtrE.use (mapE1 ?c1 hthM hW hr.1 ?c2 hof3) ?k1 ?k2 ?k3 ?k4 ?k5 ?k6 ?k7 ?k8 ?_; (case k4 => exact hN3); (case c1 => rw [List.length_map]; omega); (case c2 => rw [enn, List.length_map]; exact hr.2); (case k1 => k_asm); (case k2 => k_asm); (case k3 => k_asm); (case k5 => k_asm); (case k6 => exact rfl); (case k7 => ktr_room); (case k8 => ktr_units)
          rintro e' n' g' h' tk' ⟨k', rfl⟩ F' U' R'
          k_steps
          refine caught_ev K rfl F' U' R' ?_ ?_
          · intro h₅ E' F₅ he
            exact test_own F₅ X T he (ownE (Frag.In.keeps X (Fr.keep F₅))) (by k_is) rfl rfl (by decide)
          · intro h₆ F₆ N₆
            simp only [canon] at N₆
            rw [enn, ← List.map_take] at N₆
            have hSr : ∀ k ∈ ((R.filter (· != 0)).take (mo.fmod 5).toNat), 0 ≤ k ∧ k < 7 := fun k hk => hR.rng k (List.mem_filter.mp (List.mem_of_mem_take hk)).1
            have hSl : (((R.filter (· != 0)).take (mo.fmod 5).toNat)).length ≤ 7 := by (have h1 := hdl2; have h2 := hlen; (try rw [List.length_take]); omega)
            k_steps
            · exfalso
              (rename IntsAre _ (List.take (mo.fmod 5).toNat _) => hIt)
              have hIl := hIt.length
              omega
            · refine ⟨?_⟩
              (rename IntsAre _ (List.take (mo.fmod 5).toNat _) => hIt)
              (rename Fr _ _ _ _ => kF); (rename News _ _ _ _ => kN); (rename IsRange _ _ _ _ _ _ _ _ => kR)
              k_dflt (refine iter_rangeUnr (n := (((R.filter (· != 0)).take (mo.fmod 5).toNat)).length) (by rfl) kR (small_one (by decide) (by decide) (by omega) (by omega)) (by rw [rangeSize_one]; split <;> omega) kF kN ?_)
              intro I hI2
              refine range_still ?_ ?_
              · intro i hi t' h' tk' F' N'
                have hi' : (0 + (i : Int)).toNat < (((R.filter (· != 0)).take (mo.fmod 5).toNat)).length := by omega
                have hb := hSr ((((R.filter (· != 0)).take (mo.fmod 5).toNat)).getD (0 + (i : Int)).toNat 0) (by simp only [List.getD, List.getElem?_eq_getElem hi', Option.getD_some]; exact List.getElem_mem _)
                k_steps
                refine ⟨?_⟩
                have e1 : ((((R.filter (· != 0)).take (mo.fmod 5).toNat)).map (thing tv)).getD (0 + (i : Int)).toNat .none = tv.getD ((((R.filter (· != 0)).take (mo.fmod 5).toNat)).getD (0 + (i : Int)).toNat 0).toNat .none := by
                  simp only [List.getD, List.getElem?_map, List.getElem?_eq_getElem hi', Option.map_some, Option.getD_some]
                rw [e1]
                have ht : Th rest (tv.getD ((((R.filter (· != 0)).take (mo.fmod 5).toNat)).getD (0 + (i : Int)).toNat 0).toNat .none) := hth _ (pk_mem htv hb)
                refine isNot_th (by k_asm) (ht.mono (fun p hp => by simp [hp])) (ht.mono (fun p hp => by simp [hp])) ?_
                simp only [decide_true, Bool.not_true]
                k_steps
                refine ⟨?_⟩
                (rename Fr _ _ _ _ => kF2); (rename News _ _ _ _ => kN2)
                exact still_end kF2 kN2 hI2
              · intro u h' tk' F' N'
                dsimp only
                k_steps
                (rename Fr _ _ _ _ => kF2); (rename News _ _ _ _ => kN2)
                obtain ⟨tg', g'⟩ : ∃ tg', Tags tg' x dx l r y dy l2 r2 ROWS SETS TH (L + 1) ([(c', oc), (102, tabObj #[rawInt 42, rawInt 4, .ref c'])] ++ rest) := ⟨tg, g⟩
                exact hQ _ _ ⟨_, l, l2, r, r2, kr, _, n2, _, rn2, R, R2, rs, rs2, ck, [(c', oc), (102, tabObj #[rawInt 42, rawInt 4, .ref c'])], tg', tm, tw, ti, tp, kF2, cb_drop kN2 (by (try delta canon); (try simp only [List.cons_append, List.nil_append]); (repeat (refine List.forall_mem_cons.mpr ⟨by k_mem, ?_⟩)); intro p hp; (repeat (first | exact hp | refine List.mem_cons_of_mem _ ?_))), ⟨rfl, rfl, rfl, rfl, rfl, rfl, rfl, rfl⟩, hR, hR2, hck, .inr ⟨_, _, rfl, hco⟩, g'⟩
        · refine' Ctr.use (mapC1 ?c1 hthM hW ?c2 hof3) ?k1 ?k2 ?k3 ?k4 ?k5 ?k6 ?k7 ?k8 ?_; (case k4 => exact hN3); (case c1 => rw [List.length_map]; omega); (case c2 => rw [enn, List.length_map]; exact hr); (case k1 => k_asm); (case k2 => k_asm); (case k3 => k_asm); (case k5 => k_asm); (case k6 => exact rfl); (case k7 => ktr_room); (case k8 => ktr_units)
          rintro r' n' h' tk' ⟨k', rfl⟩ F' N'
          simp only [canon] at N'
          rw [enn] at N'
          have hSr : ∀ k ∈ (R.filter (· != 0)), 0 ≤ k ∧ k < 7 := fun k hk => hR.rng k (List.mem_filter.mp hk).1
          have hSl : ((R.filter (· != 0))).length ≤ 7 := by (have h1 := hdl2; have h2 := hlen; (try rw [List.length_take]); omega)
          k_steps
          · exfalso
            skip
            have hIl := hdue.length
            omega
          · refine ⟨?_⟩
            skip
            (rename Fr _ _ _ _ => kF); (rename News _ _ _ _ => kN); (rename IsRange _ _ _ _ _ _ _ _ => kR)
            k_dflt (refine iter_rangeUnr (n := ((R.filter (· != 0))).length) (by rfl) kR (small_one (by decide) (by decide) (by omega) (by omega)) (by rw [rangeSize_one]; split <;> omega) kF kN ?_)
            intro I hI2
            refine range_still ?_ ?_
            · intro i hi t' h' tk' F' N'
              have hi' : (0 + (i : Int)).toNat < ((R.filter (· != 0))).length := by omega
              have hb := hSr (((R.filter (· != 0))).getD (0 + (i : Int)).toNat 0) (by simp only [List.getD, List.getElem?_eq_getElem hi', Option.getD_some]; exact List.getElem_mem _)
              k_steps
              refine ⟨?_⟩
              have e1 : (((R.filter (· != 0))).map (thing tv)).getD (0 + (i : Int)).toNat .none = tv.getD (((R.filter (· != 0))).getD (0 + (i : Int)).toNat 0).toNat .none := by
                simp only [List.getD, List.getElem?_map, List.getElem?_eq_getElem hi', Option.map_some, Option.getD_some]
              rw [e1]
              have ht : Th rest (tv.getD (((R.filter (· != 0))).getD (0 + (i : Int)).toNat 0).toNat .none) := hth _ (pk_mem htv hb)
              refine isNot_th (by k_asm) (ht.mono (fun p hp => by simp [hp])) (ht.mono (fun p hp => by simp [hp])) ?_
              simp only [decide_true, Bool.not_true]
              k_steps
              refine ⟨?_⟩
              (rename Fr _ _ _ _ => kF2); (rename News _ _ _ _ => kN2)
              exact still_end kF2 kN2 hI2
            · intro u h' tk' F' N'
              dsimp only
              k_steps
              (rename Fr _ _ _ _ => kF2); (rename News _ _ _ _ => kN2)
              obtain ⟨tg', g'⟩ : ∃ tg', Tags tg' x dx l r y dy l2 r2 ROWS SETS TH (L + 1) ([(c', oc), (102, tabObj #[rawInt 42, rawInt 4, .ref c'])] ++ rest) := ⟨tg, g⟩
              exact hQ _ _ ⟨_, l, l2, r, r2, kr, _, n2, _, rn2, R, R2, rs, rs2, ck, [(c', oc), (102, tabObj #[rawInt 42, rawInt 4, .ref c'])], tg', tm, tw, ti, tp, kF2, cb_drop kN2 (by (try delta canon); (try simp only [List.cons_append, List.nil_append]); (repeat (refine List.forall_mem_cons.mpr ⟨by k_mem, ?_⟩)); intro p hp; (repeat (first | exact hp | refine List.mem_cons_of_mem _ ?_))), ⟨rfl, rfl, rfl, rfl, rfl, rfl, rfl, rfl⟩, hR, hR2, hck, .inr ⟨_, _, rfl, hco⟩, g'⟩
      · refine ⟨?_⟩
        (rename News _ _ _ _ => kN)
        have hN2 : News _ _ _ ((c', oc) :: (102, tabObj #[rawInt 42, rawInt 4, .ref c']) :: (D, LCg.lst (rs.filter (neInt 0))) :: (sn, W.listOf ([] : List Value).toArray 0) :: canon ROWS SETS TH [.ref r, .ref r2] [.ref x, .ref y] tv kr ks kt hsh r rs rn x dx t l (R.map (thing tv)) n r2 rs2 rn2 y dy t2 l2 (R2.map (thing tv)) n2 ((L + 1, ck) :: rest)) := cb_drop kN (by (try delta canon); (try simp only [List.cons_append, List.nil_append]); (repeat (refine List.forall_mem_cons.mpr ⟨by k_mem, ?_⟩)); intro p hp; (repeat (first | exact hp | refine List.mem_cons_of_mem _ ?_)))
        refine' Ctr.use (walkerC2 w sn (mo.fmod 5) _ c' oc _ hco) ?k1 ?k2 ?k3 ?k4 ?k5 ?k6 ?k7 ?k8 ?_; (case k4 => exact hN2); (case k1 => k_asm); (case k2 => k_asm); (case k3 => k_asm); (case k5 => k_asm); (case k6 => exact rfl); (case k7 => ktr_room); (case k8 => ktr_units)
        rintro r' n' h' tk' ⟨fw, fo, c1, o1, c2, o2, rfl, rfl, hW, q1, q2, q3, q4, q5⟩ F' N'
        (simp only [canon, AllLt] at q5; simp only [canon] at N')
        obtain ⟨kc, od, fd, sl, hfo⟩ := hW.fn
        subst hfo
        k_steps
        refine ⟨?_⟩
        (rename News _ _ _ _ => kN)
        have hN3 : News _ _ _ ((sn, W.listOf ([] : List Value).toArray 0) :: (fw, ⟨kc, od, .func fd, sl⟩) :: (c', oc) :: (c2, o2) :: (c1, o1) :: (102, tabObj #[rawInt 42, rawInt 4, .ref c']) :: (D, LCg.lst (rs.filter (neInt 0))) :: canon ROWS SETS TH [.ref r, .ref r2] [.ref x, .ref y] tv kr ks kt hsh r rs rn x dx t l (R.map (thing tv)) n r2 rs2 rn2 y dy t2 l2 (R2.map (thing tv)) n2 ((L + 1, ck) :: rest)) := cb_drop kN (by (try delta canon); (try simp only [List.cons_append, List.nil_append]); (repeat (refine List.forall_mem_cons.mpr ⟨by k_mem, ?_⟩)); intro p hp; (repeat (first | exact hp | refine List.mem_cons_of_mem _ ?_)))
        have hof3 : ∀ q ∈ (fw, (⟨kc, od, .func fd, sl⟩ : Obj)) :: (c', oc) :: (c2, o2) :: (c1, o1) :: (102, tabObj #[rawInt 42, rawInt 4, .ref c']) :: (D, LCg.lst (rs.filter (neInt 0))) :: canon ROWS SETS TH [.ref r, .ref r2] [.ref x, .ref y] tv kr ks kt hsh r rs rn x dx t l (R.map (thing tv)) n r2 rs2 rn2 y dy t2 l2 (R2.map (thing tv)) n2 ((L + 1, ck) :: rest), @Ne Nat q.1 sn := (by
          simp only [canon, List.forall_mem_cons]
          obtain ⟨s1, s2, s3, s4, s5, s6, s7, s8, s9, s10, s11, s12, sc, s13, s14⟩ := lS
          have q6 : @LT.lt Nat _ sn c1 := q5.2.1
          clear q5
          refine ⟨by omega, by omega, by omega, by omega, by omega, Ne.symm u1, Nat.ne_of_lt s1, Nat.ne_of_lt s2, Nat.ne_of_lt s3, Nat.ne_of_lt s4, Nat.ne_of_lt s5, Nat.ne_of_lt s6, Nat.ne_of_lt s7, Nat.ne_of_lt s8, Nat.ne_of_lt s9, Nat.ne_of_lt s10, Nat.ne_of_lt s11, Nat.ne_of_lt s12, fun q hq => Nat.ne_of_lt (allLt_ne s14 q hq)⟩)
        have hthM := hR.things htv hth
        have enn := things_nn htv hnd htv0 hR.rng
        rcases Classical.em (0 < mo.fmod 5 ∧ mo.fmod 5 < ((R.filter (· != 0)).length : Int)) with hr | hr
        · exact absurd hr.1 (by assumption)
        · refine' Ctr.use (mapC1 ?c1 hthM hW ?c2 hof3) ?k1 ?k2 ?k3 ?k4 ?k5 ?k6 ?k7 ?k8 ?_; (case k4 => exact hN3); (case c1 => rw [List.length_map]; omega); (case c2 => rw [enn, List.length_map]; exact hr); (case k1 => k_asm); (case k2 => k_asm); (case k3 => k_asm); (case k5 => k_asm); (case k6 => exact rfl); (case k7 => ktr_room); (case k8 => ktr_units)
          rintro r' n' h' tk' ⟨k', rfl⟩ F' N'
          simp only [canon] at N'
          rw [enn] at N'
          have hSr : ∀ k ∈ (R.filter (· != 0)), 0 ≤ k ∧ k < 7 := fun k hk => hR.rng k (List.mem_filter.mp hk).1
          have hSl : ((R.filter (· != 0))).length ≤ 7 := by (have h1 := hdl2; have h2 := hlen; (try rw [List.length_take]); omega)
          k_steps
          · exfalso
            skip
            have hIl := hdue.length
            omega
          · refine ⟨?_⟩
            skip
            (rename Fr _ _ _ _ => kF); (rename News _ _ _ _ => kN); (rename IsRange _ _ _ _ _ _ _ _ => kR)
            k_dflt (refine iter_rangeUnr (n := ((R.filter (· != 0))).length) (by rfl) kR (small_one (by decide) (by decide) (by omega) (by omega)) (by rw [rangeSize_one]; split <;> omega) kF kN ?_)
            intro I hI2
            refine range_still ?_ ?_
            · intro i hi t' h' tk' F' N'
              have hi' : (0 + (i : Int)).toNat < ((R.filter (· != 0))).length := by omega
              have hb := hSr (((R.filter (· != 0))).getD (0 + (i : Int)).toNat 0) (by simp only [List.getD, List.getElem?_eq_getElem hi', Option.getD_some]; exact List.getElem_mem _)
              k_steps
              refine ⟨?_⟩
              have e1 : (((R.filter (· != 0))).map (thing tv)).getD (0 + (i : Int)).toNat .none = tv.getD (((R.filter (· != 0))).getD (0 + (i : Int)).toNat 0).toNat .none := by
                simp only [List.getD, List.getElem?_map, List.getElem?_eq_getElem hi', Option.map_some, Option.getD_some]
              rw [e1]
              have ht : Th rest (tv.getD (((R.filter (· != 0))).getD (0 + (i : Int)).toNat 0).toNat .none) := hth _ (pk_mem htv hb)
              refine isNot_th (by k_asm) (ht.mono (fun p hp => by simp [hp])) (ht.mono (fun p hp => by simp [hp])) ?_
              simp only [decide_true, Bool.not_true]
              k_steps
              refine ⟨?_⟩
              (rename Fr _ _ _ _ => kF2); (rename News _ _ _ _ => kN2)
              exact still_end kF2 kN2 hI2
            · intro u h' tk' F' N'
              dsimp only
              k_steps
              (rename Fr _ _ _ _ => kF2); (rename News _ _ _ _ => kN2)
              obtain ⟨tg', g'⟩ : ∃ tg', Tags tg' x dx l r y dy l2 r2 ROWS SETS TH (L + 1) ([(c', oc), (102, tabObj #[rawInt 42, rawInt 4, .ref c'])] ++ rest) := ⟨tg, g⟩
              exact hQ _ _ ⟨_, l, l2, r, r2, kr, _, n2, _, rn2, R, R2, rs, rs2, ck, [(c', oc), (102, tabObj #[rawInt 42, rawInt 4, .ref c'])], tg', tm, tw, ti, tp, kF2, cb_drop kN2 (by (try delta canon); (try simp only [List.cons_append, List.nil_append]); (repeat (refine List.forall_mem_cons.mpr ⟨by k_mem, ?_⟩)); intro p hp; (repeat (first | exact hp | refine List.mem_cons_of_mem _ ?_))), ⟨rfl, rfl, rfl, rfl, rfl, rfl, rfl, rfl⟩, hR, hR2, hck, .inr ⟨_, _, rfl, hco⟩, g'⟩
  · exact hQ _ _ ⟨m, l, l2, r, r2, kr, n, n2, rn, rn2, R, R2, rs, rs2, ck, _, tg, tm, tw, ti, tp, hF, hN, hm, hR, hR2, hck, .inr ⟨_, _, rfl, hco⟩, g⟩
set_option maxHeartbeats 4000000 in
theorem st_map4 (w : World) (h₀ : Heap) (L fa : Addr) (cd : Value) (p : Program) (loose : List Str) (mean : ExcName → Option Value) (mg mb : Str → Option Value) (s : Shared) (Q : Flow → Shared → Prop) (E : Value → Shared → Prop)
    (ROWS SETS TH SCR x y dx dy : Addr) (tv : List Value) (ks kt : Nat) (hsh : Int) (t t2 : Tok) (rest : List (Addr × Obj)) (wh pk mo : Int) (hpk0 : 0 ≤ pk) (hpk7 : pk < 7)
    (htv : tv.length = 7) (hnd : tv.Nodup) (htv0 : tv.getD 0 .none = .none) (h102 : ∀ q ∈ rest, @Ne Nat q.1 102) (hth : ∀ v ∈ tv, Th rest v)
    (K : Below callerA h₀ [] h₀) (X : (hd.heap_39 w.params).In h₀) (T : Top p loose mean mg mb h₀)
    (M : MidS true h₀ L tv ROWS SETS TH SCR x y dx dy ks kt hsh t t2 rest true wh pk mo s.heap)
    (hQ : ∀ h' tk', Mid h₀ L tv ROWS SETS TH SCR x y dx dy ks kt hsh t t2 rest true wh pk mo h' → Q .next { s with heap := h', toks := tk' }) :
    wpAny (model prg w) (callerA.deeper (lawEnv L fa cd)) (exec (lawSt 9) (lawEnv L fa cd)) Q E s := by
  conv in lawSt 9 => whnf
  delta lawEnv
  generalize hlsc : lawScope = lsc
  conv at hlsc => lhs; whnf
  subst hlsc
  obtain ⟨m, l, l2, r, r2, kr, n, n2, rn, rn2, R, R2, rs, rs2, ck, tab, tg, tm, tw, ti, tp, F, N, hm, hR, hR2, hck, htab, g⟩ := M
  have hF := F
  rw [map_norm hm] at F
  have hlen := hR.len
  have hrs := hR.isI
  have hrs2 := hR2.isI
  have hrl := hrs.length
  have hth' : ∀ v ∈ tv, Th ((L + 1, ck) :: (tab ++ rest)) v := fun v hv => (hth v hv).mono fun p hp => by simp [hp]
  have hthv := hR.things htv hth'
  have hob := hth' _ (pk_mem htv ⟨hpk0, hpk7⟩)
  have hN := N
  have hoffR := tag_all g.re g.ro (by decide)
  obtain ⟨g1, g2, g3, g4, g5, g6, g7, g8, g9, g10, g11, g12, -⟩ := id g
  delta canon at N
  have hdl : (rs.filter (neInt 0)).length = (R.filter (· != 0)).length := (hR.del 0).isI.length
  have hdl2 : (R.filter (· != 0)).length ≤ R.length := List.length_filter_le _ _
  refine wpAny_mono (E := fun _ _ => False) ?_ (fun _ _ z => z) (fun _ _ z => z.elim)
  have hdue := (hR.del 0).isI
  obtain ⟨c', oc, rfl, hco⟩ := htab
  simp only [if_true, if_false, Bool.false_eq_true, List.cons_append, List.nil_append] at F N
  k_steps
  · rename_i wh3 tkA sn hA lS hB hC FX NX
    refine LCt.CompSrcT.ledger (by rfl) (by k_asm) (by k_asm) (by k_mem) (by rw [List.size_toArray, PySem.sizeLine_eq]; omega) ?_
    intro g''
    refine comp_filter (neInt 0) (fun v => v) ?_ ?_
    · intro v I oI C oC D m₂ ys h tk E' hv hC hx F' N' off ne
      obtain ⟨kv, tv', rfl⟩ := ints_mem hrs hv
      k_steps
      · refine LCg.CompEnd.intro (by k_asm) (by k_asm) _ (fun p hp => hp) off ?_ ⟨rfl, rfl⟩
        exact Or.inr ⟨_, by k_mem, rfl, _, rfl⟩
      · refine LCg.CompEnd.intro (by k_asm) (by k_asm) _ (fun p hp => hp) off ?_ rfl
        exact Or.inr ⟨_, by k_mem, rfl, _, rfl⟩
    · intro D h tk F' N' off
      simp only [LCg.Off1] at off
      obtain ⟨u1, u2, u3, u4, u5, u6, u7, u8, u9, u10, u11, u12, u13, uc, u14, u15⟩ := off
      dsimp only
      rw [List.map_id'] at N'
      k_steps
      · refine ⟨?_⟩
        (rename News _ _ _ _ => kN)
        have hN2 : News _ _ _ ((c', oc) :: (102, tabObj #[rawInt 42, rawInt 4, .ref c']) :: (D, LCg.lst (rs.filter (neInt 0))) :: (sn, W.listOf ([] : List Value).toArray 0) :: canon ROWS SETS TH [.ref r2, .ref r] [.ref y, .ref x] tv kr ks kt hsh r rs rn x dx t l (R.map (thing tv)) n r2 rs2 rn2 y dy t2 l2 (R2.map (thing tv)) n2 ((L + 1, ck) :: rest)) := cb_drop kN (by (try delta canon); (try simp only [List.cons_append, List.nil_append]); (repeat (refine List.forall_mem_cons.mpr ⟨by k_mem, ?_⟩)); intro p hp; (repeat (first | exact hp | refine List.mem_cons_of_mem _ ?_)))
        refine' Ctr.use (walkerC2 w sn (mo.fmod 5) _ c' oc _ hco) ?k1 ?k2 ?k3 ?k4 ?k5 ?k6 ?k7 ?k8 ?_; (case k4 => exact hN2); (case k1 => k_asm); (case k2 => k_asm); (case k3 => k_asm); (case k5 => k_asm); (case k6 => exact rfl); (case k7 => ktr_room); (case k8 => ktr_units)
        rintro r' n' h' tk' ⟨fw, fo, c1, o1, c2, o2, rfl, rfl, hW, q1, q2, q3, q4, q5⟩ F' N'
        (simp only [canon, AllLt] at q5; simp only [canon] at N')
        obtain ⟨kc, od, fd, sl, hfo⟩ := hW.fn
        subst hfo
        k_steps
        refine ⟨?_⟩
        (rename News _ _ _ _ => kN)
        have hN3 : News _ _ _ ((sn, W.listOf ([] : List Value).toArray 0) :: (fw, ⟨kc, od, .func fd, sl⟩) :: (c', oc) :: (c2, o2) :: (c1, o1) :: (102, tabObj #[rawInt 42, rawInt 4, .ref c']) :: (D, LCg.lst (rs.filter (neInt 0))) :: canon ROWS SETS TH [.ref r2, .ref r] [.ref y, .ref x] tv kr ks kt hsh r rs rn x dx t l (R.map (thing tv)) n r2 rs2 rn2 y dy t2 l2 (R2.map (thing tv)) n2 ((L + 1, ck) :: rest)) := cb_drop kN (by (try delta canon); (try simp only [List.cons_append, List.nil_append]); (repeat (refine List.forall_mem_cons.mpr ⟨by k_mem, ?_⟩)); intro p hp; (repeat (first | exact hp | refine List.mem_cons_of_mem _ ?_)))
        have hof3 : ∀ q ∈ (fw, (⟨kc, od, .func fd, sl⟩ : Obj)) :: (c', oc) :: (c2, o2) :: (c1, o1) :: (102, tabObj #[rawInt 42, rawInt 4, .ref c']) :: (D, LCg.lst (rs.filter (neInt 0))) :: canon ROWS SETS TH [.ref r2, .ref r] [.ref y, .ref x] tv kr ks kt hsh r rs rn x dx t l (R.map (thing tv)) n r2 rs2 rn2 y dy t2 l2 (R2.map (thing tv)) n2 ((L + 1, ck) :: rest), @Ne Nat q.1 sn := (by
          simp only [canon, List.forall_mem_cons]
          obtain ⟨s1, s2, s3, s4, s5, s6, s7, s8, s9, s10, s11, s12, sc, s13, s14⟩ := lS
          have q6 : @LT.lt Nat _ sn c1 := q5.2.1
          clear q5
          refine ⟨by omega, by omega, by omega, by omega, by omega, Ne.symm u1, Nat.ne_of_lt s1, Nat.ne_of_lt s2, Nat.ne_of_lt s3, Nat.ne_of_lt s4, Nat.ne_of_lt s5, Nat.ne_of_lt s6, Nat.ne_of_lt s7, Nat.ne_of_lt s8, Nat.ne_of_lt s9, Nat.ne_of_lt s10, Nat.ne_of_lt s11, Nat.ne_of_lt s12, fun q hq => Nat.ne_of_lt (allLt_ne s14 q hq)⟩)
        have hthM := hR.things htv hth
        have enn := things_nn htv hnd htv0 hR.rng
        rcases Classical.em (0 < mo.fmod 5 ∧ mo.fmod 5 < ((R.filter (· != 0)).length : Int)) with hr | hr
        · refine' CtrE.use (mapE1 ?c1 hthM hW hr.1 ?c2 hof3) ?k1 ?k2 ?k3 ?k4 ?k5 ?k6 ?k7 ?k8 ?_; (case k4 => exact hN3); (case c1 => rw [List.length_map]; omega); (case c2 => rw [enn, List.length_map]; exact hr.2); (case k1 => k_asm); (case k2 => k_asm); (case k3 => k_asm); (case k5 => k_asm); (case k6 => exact rfl); (case k7 => ktr_room); (case k8 => ktr_units)
          rintro e' n' g' h' tk' ⟨k', rfl⟩ F' U' R'
          k_steps
          refine caught_ev K rfl F' U' R' ?_ ?_
          · intro h₅ E' F₅ he
            exact test_own F₅ X T he (ownE (Frag.In.keeps X (Fr.keep F₅))) (by k_is) rfl rfl (by decide)
          · intro h₆ F₆ N₆
            simp only [canon] at N₆
            rw [enn, ← List.map_take] at N₆
            have hSr : ∀ k ∈ ((R.filter (· != 0)).take (mo.fmod 5).toNat), 0 ≤ k ∧ k < 7 := fun k hk => hR.rng k (List.mem_filter.mp (List.mem_of_mem_take hk)).1
            have hSl : (((R.filter (· != 0)).take (mo.fmod 5).toNat)).length ≤ 7 := by (have h1 := hdl2; have h2 := hlen; (try rw [List.length_take]); omega)
            k_steps
            · exfalso
              (rename IntsAre _ (List.take (mo.fmod 5).toNat _) => hIt)
              have hIl := hIt.length
              omega
            · refine ⟨?_⟩
              (rename IntsAre _ (List.take (mo.fmod 5).toNat _) => hIt)
              (rename Fr _ _ _ _ => kF); (rename News _ _ _ _ => kN); (rename IsRange _ _ _ _ _ _ _ _ => kR)
              k_dflt (refine iter_rangeUnr (n := (((R.filter (· != 0)).take (mo.fmod 5).toNat)).length) (by rfl) kR (small_one (by decide) (by decide) (by omega) (by omega)) (by rw [rangeSize_one]; split <;> omega) kF kN ?_)
              intro I hI2
              refine range_still ?_ ?_
              · intro i hi t' h' tk' F' N'
                have hi' : (0 + (i : Int)).toNat < (((R.filter (· != 0)).take (mo.fmod 5).toNat)).length := by omega
                have hb := hSr ((((R.filter (· != 0)).take (mo.fmod 5).toNat)).getD (0 + (i : Int)).toNat 0) (by simp only [List.getD, List.getElem?_eq_getElem hi', Option.getD_some]; exact List.getElem_mem _)
                k_steps
                refine ⟨?_⟩
                have e1 : ((((R.filter (· != 0)).take (mo.fmod 5).toNat)).map (thing tv)).getD (0 + (i : Int)).toNat .none = tv.getD ((((R.filter (· != 0)).take (mo.fmod 5).toNat)).getD (0 + (i : Int)).toNat 0).toNat .none := by
                  simp only [List.getD, List.getElem?_map, List.getElem?_eq_getElem hi', Option.map_some, Option.getD_some]
                rw [e1]
                have ht : Th rest (tv.getD ((((R.filter (· != 0)).take (mo.fmod 5).toNat)).getD (0 + (i : Int)).toNat 0).toNat .none) := hth _ (pk_mem htv hb)
                refine isNot_th (by k_asm) (ht.mono (fun p hp => by simp [hp])) (ht.mono (fun p hp => by simp [hp])) ?_
                simp only [decide_true, Bool.not_true]
                k_steps
                refine ⟨?_⟩
                (rename Fr _ _ _ _ => kF2); (rename News _ _ _ _ => kN2)
                exact still_end kF2 kN2 hI2
              · intro u h' tk' F' N'
                dsimp only
                k_steps
                (rename Fr _ _ _ _ => kF2); (rename News _ _ _ _ => kN2)
                obtain ⟨tg', g'⟩ : ∃ tg', Tags tg' x dx l r y dy l2 r2 ROWS SETS TH (L + 1) ([(c', oc), (102, tabObj #[rawInt 42, rawInt 4, .ref c'])] ++ rest) := ⟨tg, g⟩
                exact hQ _ _ ⟨_, l, l2, r, r2, kr, _, n2, _, rn2, R, R2, rs, rs2, ck, [(c', oc), (102, tabObj #[rawInt 42, rawInt 4, .ref c'])], tg', tm, tw, ti, tp, kF2, cb_drop kN2 (by (try delta canon); (try simp only [List.cons_append, List.nil_append]); (repeat (refine List.forall_mem_cons.mpr ⟨by k_mem, ?_⟩)); intro p hp; (repeat (first | exact hp | refine List.mem_cons_of_mem _ ?_))), ⟨rfl, rfl, rfl, rfl, rfl, rfl, rfl, rfl⟩, hR, hR2, hck, .inr ⟨_, _, rfl, hco⟩, g'⟩
        · refine' Ctr.use (mapC1 ?c1 hthM hW ?c2 hof3) ?k1 ?k2 ?k3 ?k4 ?k5 ?k6 ?k7 ?k8 ?_; (case k4 => exact hN3); (case c1 => rw [List.length_map]; omega); (case c2 => rw [enn, List.length_map]; exact hr); (case k1 => k_asm); (case k2 => k_asm); (case k3 => k_asm); (case k5 => k_asm); (case k6 => exact rfl); (case k7 => ktr_room); (case k8 => ktr_units)
          rintro r' n' h' tk' ⟨k', rfl⟩ F' N'
          simp only [canon] at N'
          rw [enn] at N'
          have hSr : ∀ k ∈ (R.filter (· != 0)), 0 ≤ k ∧ k < 7 := fun k hk => hR.rng k (List.mem_filter.mp hk).1
          have hSl : ((R.filter (· != 0))).length ≤ 7 := by (have h1 := hdl2; have h2 := hlen; (try rw [List.length_take]); omega)
          k_steps
          · exfalso
            skip
            have hIl := hdue.length
            omega
          · refine ⟨?_⟩
            skip
            (rename Fr _ _ _ _ => kF); (rename News _ _ _ _ => kN); (rename IsRange _ _ _ _ _ _ _ _ => kR)
            k_dflt (refine iter_rangeUnr (n := ((R.filter (· != 0))).length) (by rfl) kR (small_one (by decide) (by decide) (by omega) (by omega)) (by rw [rangeSize_one]; split <;> omega) kF kN ?_)
            intro I hI2
            refine range_still ?_ ?_
            · intro i hi t' h' tk' F' N'
              have hi' : (0 + (i : Int)).toNat < ((R.filter (· != 0))).length := by omega
              have hb := hSr (((R.filter (· != 0))).getD (0 + (i : Int)).toNat 0) (by simp only [List.getD, List.getElem?_eq_getElem hi', Option.getD_some]; exact List.getElem_mem _)
              k_steps
              refine ⟨?_⟩
              have e1 : (((R.filter (· != 0))).map (thing tv)).getD (0 + (i : Int)).toNat .none = tv.getD (((R.filter (· != 0))).getD (0 + (i : Int)).toNat 0).toNat .none := by
                simp only [List.getD, List.getElem?_map, List.getElem?_eq_getElem hi', Option.map_some, Option.getD_some]
              rw [e1]
              have ht : Th rest (tv.getD (((R.filter (· != 0))).getD (0 + (i : Int)).toNat 0).toNat .none) := hth _ (pk_mem htv hb)
              refine isNot_th (by k_asm) (ht.mono (fun p hp => by simp [hp])) (ht.mono (fun p hp => by simp [hp])) ?_
              simp only [decide_true, Bool.not_true]
              k_steps
              refine ⟨?_⟩
              (rename Fr _ _ _ _ => kF2); (rename News _ _ _ _ => kN2)
              exact still_end kF2 kN2 hI2
            · intro u h' tk' F' N'
              dsimp only
              k_steps
              (rename Fr _ _ _ _ => kF2); (rename News _ _ _ _ => kN2)
              obtain ⟨tg', g'⟩ : ∃ tg', Tags tg' x dx l r y dy l2 r2 ROWS SETS TH (L + 1) ([(c', oc), (102, tabObj #[rawInt 42, rawInt 4, .ref c'])] ++ rest) := ⟨tg, g⟩
              exact hQ _ _ ⟨_, l, l2, r, r2, kr, _, n2, _, rn2, R, R2, rs, rs2, ck, [(c', oc), (102, tabObj #[rawInt 42, rawInt 4, .ref c'])], tg', tm, tw, ti, tp, kF2, cb_drop kN2 (by (try delta canon); (try simp only [List.cons_append, List.nil_append]); (repeat (refine List.forall_mem_cons.mpr ⟨by k_mem, ?_⟩)); intro p hp; (repeat (first | exact hp | refine List.mem_cons_of_mem _ ?_))), ⟨rfl, rfl, rfl, rfl, rfl, rfl, rfl, rfl⟩, hR, hR2, hck, .inr ⟨_, _, rfl, hco⟩, g'⟩
      · refine ⟨?_⟩
        (rename News _ _ _ _ => kN)
        have hN2 : News _ _ _ ((c', oc) :: (102, tabObj #[rawInt 42, rawInt 4, .ref c']) :: (D, LCg.lst (rs.filter (neInt 0))) :: (sn, W.listOf ([] : List Value).toArray 0) :: canon ROWS SETS TH [.ref r2, .ref r] [.ref y, .ref x] tv kr ks kt hsh r rs rn x dx t l (R.map (thing tv)) n r2 rs2 rn2 y dy t2 l2 (R2.map (thing tv)) n2 ((L + 1, ck) :: rest)) := cb_drop kN (by (try delta canon); (try simp only [List.cons_append, List.nil_append]); (repeat (refine List.forall_mem_cons.mpr ⟨by k_mem, ?_⟩)); intro p hp; (repeat (first | exact hp | refine List.mem_cons_of_mem _ ?_)))
        refine' Ctr.use (walkerC2 w sn (mo.fmod 5) _ c' oc _ hco) ?k1 ?k2 ?k3 ?k4 ?k5 ?k6 ?k7 ?k8 ?_; (case k4 => exact hN2); (case k1 => k_asm); (case k2 => k_asm); (case k3 => k_asm); (case k5 => k_asm); (case k6 => exact rfl); (case k7 => ktr_room); (case k8 => ktr_units)
        rintro r' n' h' tk' ⟨fw, fo, c1, o1, c2, o2, rfl, rfl, hW, q1, q2, q3, q4, q5⟩ F' N'
        (simp only [canon, AllLt] at q5; simp only [canon] at N')
        obtain ⟨kc, od, fd, sl, hfo⟩ := hW.fn
        subst hfo
        k_steps
        refine ⟨?_⟩
        (rename News _ _ _ _ => kN)
        have hN3 : News _ _ _ ((sn, W.listOf ([] : List Value).toArray 0) :: (fw, ⟨kc, od, .func fd, sl⟩) :: (c', oc) :: (c2, o2) :: (c1, o1) :: (102, tabObj #[rawInt 42, rawInt 4, .ref c']) :: (D, LCg.lst (rs.filter (neInt 0))) :: canon ROWS SETS TH [.ref r2, .ref r] [.ref y, .ref x] tv kr ks kt hsh r rs rn x dx t l (R.map (thing tv)) n r2 rs2 rn2 y dy t2 l2 (R2.map (thing tv)) n2 ((L + 1, ck) :: rest)) := cb_drop kN (by (try delta canon); (try simp only [List.cons_append, List.nil_append]); (repeat (refine List.forall_mem_cons.mpr ⟨by k_mem, ?_⟩)); intro p hp; (repeat (first | exact hp | refine List.mem_cons_of_mem _ ?_)))
        have hof3 : ∀ q ∈ (fw, (⟨kc, od, .func fd, sl⟩ : Obj)) :: (c', oc) :: (c2, o2) :: (c1, o1) :: (102, tabObj #[rawInt 42, rawInt 4, .ref c']) :: (D, LCg.lst (rs.filter (neInt 0))) :: canon ROWS SETS TH [.ref r2, .ref r] [.ref y, .ref x] tv kr ks kt hsh r rs rn x dx t l (R.map (thing tv)) n r2 rs2 rn2 y dy t2 l2 (R2.map (thing tv)) n2 ((L + 1, ck) :: rest), @Ne Nat q.1 sn := (by
          simp only [canon, List.forall_mem_cons]
          obtain ⟨s1, s2, s3, s4, s5, s6, s7, s8, s9, s10, s11, s12, sc, s13, s14⟩ := lS
          have q6 : @LT.lt Nat _ sn c1 := q5.2.1
          clear q5
          refine ⟨by omega, by omega, by omega, by omega, by omega, Ne.symm u1, Nat.ne_of_lt s1, Nat.ne_of_lt s2, Nat.ne_of_lt s3, Nat.ne_of_lt s4, Nat.ne_of_lt s5, Nat.ne_of_lt s6, Nat.ne_of_lt s7, Nat.ne_of_lt s8, Nat.ne_of_lt s9, Nat.ne_of_lt s10, Nat.ne_of_lt s11, Nat.ne_of_lt s12, fun q hq => Nat.ne_of_lt (allLt_ne s14 q hq)⟩)
        have hthM := hR.things htv hth
        have enn := things_nn htv hnd htv0 hR.rng
        rcases Classical.em (0 < mo.fmod 5 ∧ mo.fmod 5 < ((R.filter (· != 0)).length : Int)) with hr | hr
        · exact absurd hr.1 (by assumption)
        · refine' Ctr.use (mapC1 ?c1 hthM hW ?c2 hof3) ?k1 ?k2 ?k3 ?k4 ?k5 ?k6 ?k7 ?k8 ?_; (case k4 => exact hN3); (case c1 => rw [List.length_map]; omega); (case c2 => rw [enn, List.length_map]; exact hr); (case k1 => k_asm); (case k2 => k_asm); (case k3 => k_asm); (case k5 => k_asm); (case k6 => exact rfl); (case k7 => ktr_room); (case k8 => ktr_units)
          rintro r' n' h' tk' ⟨k', rfl⟩ F' N'
          simp only [canon] at N'
          rw [enn] at N'
          have hSr : ∀ k ∈ (R.filter (· != 0)), 0 ≤ k ∧ k < 7 := fun k hk => hR.rng k (List.mem_filter.mp hk).1
          have hSl : ((R.filter (· != 0))).length ≤ 7 := by (have h1 := hdl2; have h2 := hlen; (try rw [List.length_take]); omega)
          k_steps
          · exfalso
            skip
            have hIl := hdue.length
            omega
          · refine ⟨?_⟩
            skip
            (rename Fr _ _ _ _ => kF); (rename News _ _ _ _ => kN); (rename IsRange _ _ _ _ _ _ _ _ => kR)
            k_dflt (refine iter_rangeUnr (n := ((R.filter (· != 0))).length) (by rfl) kR (small_one (by decide) (by decide) (by omega) (by omega)) (by rw [rangeSize_one]; split <;> omega) kF kN ?_)
            intro I hI2
            refine range_still ?_ ?_
            · intro i hi t' h' tk' F' N'
              have hi' : (0 + (i : Int)).toNat < ((R.filter (· != 0))).length := by omega
              have hb := hSr (((R.filter (· != 0))).getD (0 + (i : Int)).toNat 0) (by simp only [List.getD, List.getElem?_eq_getElem hi', Option.getD_some]; exact List.getElem_mem _)
              k_steps
              refine ⟨?_⟩
              have e1 : (((R.filter (· != 0))).map (thing tv)).getD (0 + (i : Int)).toNat .none = tv.getD (((R.filter (· != 0))).getD (0 + (i : Int)).toNat 0).toNat .none := by
                simp only [List.getD, List.getElem?_map, List.getElem?_eq_getElem hi', Option.map_some, Option.getD_some]
              rw [e1]
              have ht : Th rest (tv.getD (((R.filter (· != 0))).getD (0 + (i : Int)).toNat 0).toNat .none) := hth _ (pk_mem htv hb)
              refine isNot_th (by k_asm) (ht.mono (fun p hp => by simp [hp])) (ht.mono (fun p hp => by simp [hp])) ?_
              simp only [decide_true, Bool.not_true]
              k_steps
              refine ⟨?_⟩
              (rename Fr _ _ _ _ => kF2); (rename News _ _ _ _ => kN2)
              exact still_end kF2 kN2 hI2
            · intro u h' tk' F' N'
              dsimp only
              k_steps
              (rename Fr _ _ _ _ => kF2); (rename News _ _ _ _ => kN2)
              obtain ⟨tg', g'⟩ : ∃ tg', Tags tg' x dx l r y dy l2 r2 ROWS SETS TH (L + 1) ([(c', oc), (102, tabObj #[rawInt 42, rawInt 4, .ref c'])] ++ rest) := ⟨tg, g⟩
              exact hQ _ _ ⟨_, l, l2, r, r2, kr, _, n2, _, rn2, R, R2, rs, rs2, ck, [(c', oc), (102, tabObj #[rawInt 42, rawInt 4, .ref c'])], tg', tm, tw, ti, tp, kF2, cb_drop kN2 (by (try delta canon); (try simp only [List.cons_append, List.nil_append]); (repeat (refine List.forall_mem_cons.mpr ⟨by k_mem, ?_⟩)); intro p hp; (repeat (first | exact hp | refine List.mem_cons_of_mem _ ?_))), ⟨rfl, rfl, rfl, rfl, rfl, rfl, rfl, rfl⟩, hR, hR2, hck, .inr ⟨_, _, rfl, hco⟩, g'⟩
  · exact hQ _ _ ⟨m, l, l2, r, r2, kr, n, n2, rn, rn2, R, R2, rs, rs2, ck, _, tg, tm, tw, ti, tp, hF, hN, hm, hR, hR2, hck, .inr ⟨_, _, rfl, hco⟩, g⟩
theorem st_map (w : World) (h₀ : Heap) (L fa : Addr) (cd : Value) (p : Program) (loose : List Str) (mean : ExcName → Option Value) (mg mb : Str → Option Value) (s : Shared) (Q : Flow → Shared → Prop) (E : Value → Shared → Prop)
    (ROWS SETS TH SCR x y dx dy : Addr) (tv : List Value) (ks kt : Nat) (hsh : Int) (t t2 : Tok) (rest : List (Addr × Obj)) (o : Bool) (wh pk mo : Int) (hpk0 : 0 ≤ pk) (hpk7 : pk < 7)
    (htv : tv.length = 7) (hnd : tv.Nodup) (htv0 : tv.getD 0 .none = .none) (h102 : ∀ q ∈ rest, @Ne Nat q.1 102) (hth : ∀ v ∈ tv, Th rest v)
    (K : Below callerA h₀ [] h₀) (X : (hd.heap_39 w.params).In h₀) (T : Top p loose mean mg mb h₀)
    (M : Mid h₀ L tv ROWS SETS TH SCR x y dx dy ks kt hsh t t2 rest o wh pk mo s.heap)
    (hQ : ∀ h' tk', Mid h₀ L tv ROWS SETS TH SCR x y dx dy ks kt hsh t t2 rest o wh pk mo h' → Q .next { s with heap := h', toks := tk' }) :
    wpAny (model prg w) (callerA.deeper (lawEnv L fa cd)) (exec (lawSt 9) (lawEnv L fa cd)) Q E s := by
  obtain ⟨b, M⟩ := M.split
  cases b <;> cases o
  · exact st_map1 w h₀ L fa cd p loose mean mg mb s Q E ROWS SETS TH SCR x y dx dy tv ks kt hsh t t2 rest wh pk mo hpk0 hpk7 htv hnd htv0 h102 hth K X T M hQ
  · exact st_map2 w h₀ L fa cd p loose mean mg mb s Q E ROWS SETS TH SCR x y dx dy tv ks kt hsh t t2 rest wh pk mo hpk0 hpk7 htv hnd htv0 h102 hth K X T M hQ
  · exact st_map3 w h₀ L fa cd p loose mean mg mb s Q E ROWS SETS TH SCR x y dx dy tv ks kt hsh t t2 rest wh pk mo hpk0 hpk7 htv hnd htv0 h102 hth K X T M hQ
  · exact st_map4 w h₀ L fa cd p loose mean mg mb s Q E ROWS SETS TH SCR x y dx dy tv ks kt hsh t t2 rest wh pk mo hpk0 hpk7 htv hnd htv0 h102 hth K X T M hQ
end
theorem againT16 {M : Model} {A : Around} {Q : Unit → Shared → Prop} {E : Value → Shared → Prop} {s : Shared} (h : wpAny M A (pure ()) Q E s) : wpAny M A (pure ()) Q E s := by
  w_top off
  first | (walk1; fail) | exact h
section
/-- between two turns -/
def Inv (h₀ : Heap) (L : Addr) (tv : List Value) (ROWS SETS TH SCR x y dx dy I : Addr) (ks kt : Nat) (hsh : Int) (t t2 : Tok) (tl : List (Addr × Obj)) (m : Str → Option Value) (news : List (Addr × Obj)) : Prop :=
  ∃ (l l2 r r2 : Addr) (kr n n2 rn rn2 : Nat) (R R2 : List Int) (rs rs2 : List Value) (ck : Obj) (cv : Option Value) (tab : List (Addr × Obj)) (tg : Nat → Nat),
    news = canon ROWS SETS TH [.ref r, .ref r2] [.ref x, .ref y] tv kr ks kt hsh r rs rn x dx t l (R.map (thing tv)) n r2 rs2 rn2 y dy t2 l2 (R2.map (thing tv)) n2 ((L + 1, ck) :: (tab ++ tl)) ∧
    (m (Str.ofString "rows") = some (.ref ROWS) ∧ m (Str.ofString "sets") = some (.ref SETS) ∧ m (Str.ofString "things") = some (.ref TH) ∧ m (Str.ofString "script") = some (.ref SCR)) ∧
    Row R rs ∧ Row R2 rs2 ∧ ck.data = .cell cv ∧ TabOk tab ∧ Tags tg x dx l r y dy l2 r2 ROWS SETS TH (L + 1) (tab ++ (I, tabObj #[]) :: tl)
theorem known_norm {m : Str → Option Value} {ROWS SETS TH SCR : Addr} (h : m (Str.ofString "rows") = some (.ref ROWS) ∧ m (Str.ofString "sets") = some (.ref SETS) ∧ m (Str.ofString "things") = some (.ref TH) ∧ m (Str.ofString "script") = some (.ref SCR)) :
    m = known ROWS SETS TH SCR m := by
  obtain ⟨h1, h2, h3, h4⟩ := h
  funext z
  unfold known
  repeat' split
  all_goals first | (subst_vars; assumption) | rfl
theorem fmod_two (a : Int) : a.fmod 2 = 0 ∨ a.fmod 2 = 1 := by
  rw [Int.fmod_eq_emod_of_nonneg a (by decide)]; omega
theorem fmod_seven (a : Int) : 0 ≤ a.fmod 7 ∧ a.fmod 7 < 7 := by
  rw [Int.fmod_eq_emod_of_nonneg a (by decide)]; omega
theorem Tags.obj {T : Nat → Nat} {x dx l r y dy l2 r2 ROWS SETS TH CELL : Nat} {tab tl : List (Addr × Obj)} {I : Addr} {o1 : Obj} (o2 : Obj) (h : Tags T x dx l r y dy l2 r2 ROWS SETS TH CELL (tab ++ (I, o1) :: tl)) : Tags T x dx l r y dy l2 r2 ROWS SETS TH CELL (tab ++ (I, o2) :: tl) :=
  ⟨h.x, h.dx, h.l, h.r, h.y, h.dy, h.l2, h.r2, h.ro, h.se, h.th, h.ce, fun q hq => by
    rcases List.mem_append.mp hq with hq | hq
    · exact h.re q (List.mem_append.mpr (.inl hq))
    · rcases List.mem_cons.mp hq with rfl | hq
      · exact h.re (I, o1) (List.mem_append.mpr (.inr (.head _)))
      · exact h.re q (List.mem_append.mpr (.inr (.tail _ hq)))⟩
theorem canon_I {ROWS SETS TH x y dx dy l l2 r r2 I CELL : Addr} {rl sl tv : List Value} {kr ks kt n n2 rn rn2 : Nat} {hsh : Int} {t t2 : Tok} {vs vs2 : List Value} {rs rs2 : List Value} {tab tl : List (Addr × Obj)} {ck it : Obj} :
    ∀ p ∈ canon ROWS SETS TH rl sl tv kr ks kt hsh r rs rn x dx t l vs n r2 rs2 rn2 y dy t2 l2 vs2 n2 ((CELL, ck) :: (tab ++ (I, it) :: tl)), p ∈ (I, it) :: canon ROWS SETS TH rl sl tv kr ks kt hsh r rs rn x dx t l vs n r2 rs2 rn2 y dy t2 l2 vs2 n2 ((CELL, ck) :: (tab ++ tl)) := fun p hp => by
  simp only [canon, List.mem_cons, List.mem_append] at hp ⊢
  grind
theorem canon_I' {ROWS SETS TH x y dx dy l l2 r r2 I CELL : Addr} {rl sl tv : List Value} {kr ks kt n n2 rn rn2 : Nat} {hsh : Int} {t t2 : Tok} {vs vs2 : List Value} {rs rs2 : List Value} {tab tl : List (Addr × Obj)} {ck it : Obj} :
    ∀ p ∈ (I, it) :: canon ROWS SETS TH rl sl tv kr ks kt hsh r rs rn x dx t l vs n r2 rs2 rn2 y dy t2 l2 vs2 n2 ((CELL, ck) :: (tab ++ tl)), p ∈ canon ROWS SETS TH rl sl tv kr ks kt hsh r rs rn x dx t l vs n r2 rs2 rn2 y dy t2 l2 vs2 n2 ((CELL, ck) :: (tab ++ (I, it) :: tl)) := fun p hp => by
  simp only [canon, List.mem_cons, List.mem_append] at hp ⊢
  grind
theorem Inv.off {h₀ h : Heap} {L ROWS SETS TH x y dx dy l l2 r r2 I CELL : Addr} {rl sl tv : List Value} {kr ks kt n n2 rn rn2 : Nat} {hsh : Int} {t t2 : Tok} {vs vs2 : List Value} {rs rs2 : List Value} {tab tl : List (Addr × Obj)} {ck it : Obj} {tg : Nat → Nat}
    (N : News h₀ L h (canon ROWS SETS TH rl sl tv kr ks kt hsh r rs rn x dx t l vs n r2 rs2 rn2 y dy t2 l2 vs2 n2 ((CELL, ck) :: (tab ++ (I, it) :: tl)))) (g : Tags tg x dx l r y dy l2 r2 ROWS SETS TH CELL (tab ++ (I, it) :: tl)) (htab : TabOk tab)
    (h102 : @Ne Nat I 102) (hl : ∀ q ∈ tl, @Ne Nat q.1 I) (hit : ∀ vs, it.data = .fields vs → ∀ z u, vs[1]? ≠ some (.str z u)) :
    ∀ q ∈ canon ROWS SETS TH rl sl tv kr ks kt hsh r rs rn x dx t l vs n r2 rs2 rn2 y dy t2 l2 vs2 n2 ((CELL, ck) :: (tab ++ tl)), @Ne Nat q.1 I := by
  have hI : 20 ≤ tg I := g.re (I, it) (by simp)
  simp only [canon, List.forall_mem_cons]
  refine ⟨tag_off g.x hI (by decide), tag_off g.dx hI (by decide), tag_off g.l hI (by decide), tag_off g.r hI (by decide), tag_off g.y hI (by decide), tag_off g.dy hI (by decide), tag_off g.l2 hI (by decide), tag_off g.r2 hI (by decide), tag_off g.ro hI (by decide), tag_off g.se hI (by decide), tag_off g.th hI (by decide), tag_off g.ce hI (by decide), ?_⟩
  intro q hq
  rcases List.mem_append.mp hq with hq | hq
  · rcases htab with rfl | ⟨c', oc, rfl, vs', u, hv, ht⟩
    · rw [List.mem_singleton.mp hq]; exact Ne.symm h102
    · simp only [List.mem_cons, List.not_mem_nil, or_false] at hq
      rcases hq with rfl | rfl
      · intro e
        have e' : c' = I := e
        subst e'
        have a1 := (N (c', oc) (by simp [canon])).1
        have a2 := (N (c', it) (by simp [canon])).1
        have a3 : oc = it := Option.some.inj (a1.symm.trans a2)
        subst a3
        exact hit _ hv _ _ ht
      · exact Ne.symm h102
  · exact hl q hq
local macro_rules | `(tactic| k_ne) => `(tactic| (refine neN ?_; (try dsimp only); exact tag_ne (by assumption) (by assumption) (by decide)))
local macro_rules | `(tactic| k_ne) => `(tactic| (refine neN ?_; (try dsimp only); assumption))
local macro_rules | `(tactic| k_all) => `(tactic| assumption)
local macro_rules | `(tactic| walk_at "subscriptTail") => `(tactic| (k_here; (with_reducible show wpAny _ _ (subscriptTail _ _ (Value.ref _) (Value.int (Int.fmod _ _) _)) _ _ _); refine Stop.out ?_))
local macro_rules | `(tactic| walk_at "exec If") => `(tactic| (k_here; refine Stop.out ?_))
set_option maxHeartbeats 4000000 in
theorem turn (w : World) (h₀ : Heap) (L fa : Addr) (cd : Value) (p : Program) (loose : List Str) (mean : ExcName → Option Value) (mg mb : Str → Option Value) (s : Shared) (Q : Flow → Shared → Prop) (E : Value → Shared → Prop)
    (ROWS SETS TH SCR x y dx dy I : Addr) (it : Obj) (tv : List Value) (ks kt : Nat) (hsh : Int) (t t2 : Tok) (tl : List (Addr × Obj)) (m : Str → Option Value) (news : List (Addr × Obj))
    (ws : List Value) (sc : List Int) (hsc : IntsAre ws sc) (hws : h₀.IsList SCR ws.toArray) (i : Nat) (hi : i < sc.length) (tp : Tok) (hlen : sc.length ≤ 63)
    (htv : tv.length = 7) (hnd : tv.Nodup) (htv0 : tv.getD 0 .none = .none) (hth : ∀ v ∈ tv, Th tl v) (h102 : ∀ q ∈ (I, it) :: tl, @Ne Nat q.1 102) (hIl : ∀ q ∈ tl, @Ne Nat q.1 I) (hit : ∀ vs, it.data = .fields vs → ∀ z u, vs[1]? ≠ some (.str z u))
    (K : Below callerA h₀ [] h₀) (X : (hd.heap_39 w.params).In h₀) (T : Top p loose mean mg mb h₀)
    (J : Inv h₀ L tv ROWS SETS TH SCR x y dx dy I ks kt hsh t t2 tl m news)
    (F : Fr h₀ L s.heap (fun z => if z = Str.ofString "place" then some (.int (0 + (i : Int)) tp) else m z))
    (N : News h₀ L s.heap ((I, it) :: news))
    (hQ : ∀ h' tk' m' news', Fr h₀ L h' m' → News h₀ L h' ((I, it) :: news') → (∀ q ∈ news', @Ne Nat q.1 I) → Inv h₀ L tv ROWS SETS TH SCR x y dx dy I ks kt hsh t t2 tl m' news' → Q .next { s with heap := h', toks := tk' }) :
    wpAny (model prg w) (callerA.deeper (lawEnv L fa cd)) (execs lawBody (lawEnv L fa cd)) Q E s := by
  conv in lawBody => whnf
  delta lawEnv
  generalize hlsc : lawScope = lsc
  conv at hlsc => lhs; whnf
  subst hlsc
  obtain ⟨l, l2, r, r2, kr, n, n2, rn, rn2, R, R2, rs, rs2, ck, cv, tab, tg, rfl, hm, hR, hR2, hck, htab, g⟩ := J
  rw [known_norm hm] at F
  delta known at F
  delta canon at N
  have hlen2 := hsc.length
  obtain ⟨g1, g2, g3, g4, g5, g6, g7, g8, g9, g10, g11, g12, -⟩ := id g
  have hIC : @Ne Nat I (L + 1) := Ne.symm (tag_off g.ce (g.re (I, tabObj #[]) (by simp)) (by decide))
  have hoC : ∀ q ∈ tab ++ tl, @Ne Nat q.1 (L + 1) := fun q hq => tag_all g.re g.ce (by decide) q (by
    rcases List.mem_append.mp hq with hq | hq
    · exact List.mem_append.mpr (.inl hq)
    · exact List.mem_append.mpr (.inr (.tail _ hq)))
  k_steps
  refine ⟨?_⟩
  (rename Fr _ _ _ _ => kF); (rename News _ _ _ _ => kN)
  have hpk := fmod_seven ((sc.getD (0 + (i : Int)).toNat 0).fdiv 12)
  have hth' : ∀ v ∈ tv, Th ((I, it) :: tl) v := fun v hv => (hth v hv).cons
  rcases fmod_two (sc.getD (0 + (i : Int)).toNat 0) with e | e
  · rw [e] at kF ⊢
    k_steps
    refine ⟨?_⟩
    (rename Fr _ _ _ _ => kF2); (rename News _ _ _ _ => kN2); (rename (_ = Data.cell (some _)) => hd')
    have M0 : Mid h₀ L tv ROWS SETS TH SCR x y dx dy ks kt hsh t t2 ((I, it) :: tl) false _ _ _ _ := ⟨_, l, l2, r, r2, kr, n, n2, rn, rn2, R, R2, rs, rs2, _, tab, tg, _, _, _, _, kF2, cb_drop kN2 canon_I, ⟨rfl, rfl, rfl, rfl, rfl, rfl, rfl, rfl⟩, hR, hR2, hd', htab, g.obj it⟩
    refine st_add w h₀ L fa cd p loose mean mg mb _ _ _ ROWS SETS TH SCR x y dx dy tv ks kt hsh t t2 ((I, it) :: tl) false _ _ _ hpk.1 hpk.2 htv hnd hth' K X T M0 ?_
    intro h1 k1 M1
    dsimp only
    refine wpAny_execs_cons ?_
    refine st_rem w h₀ L fa cd p loose mean mg mb _ _ _ ROWS SETS TH SCR x y dx dy tv ks kt hsh t t2 ((I, it) :: tl) false _ _ _ hpk.1 hpk.2 htv hnd hth' K X T M1 ?_
    intro h2 k2 M2
    dsimp only
    refine wpAny_execs_cons ?_
    refine st_clr w h₀ L fa cd p loose mean mg mb _ _ _ ROWS SETS TH SCR x y dx dy tv ks kt hsh t t2 ((I, it) :: tl) false _ _ _ hpk.1 hpk.2 htv hnd hth' K X T M2 ?_
    intro h3 k3 M3
    dsimp only
    refine wpAny_execs_cons ?_
    refine st_map w h₀ L fa cd p loose mean mg mb _ _ _ ROWS SETS TH SCR x y dx dy tv ks kt hsh t t2 ((I, it) :: tl) false _ _ _ hpk.1 hpk.2 htv hnd htv0 h102 hth' K X T M3 ?_
    intro h4 k4 M4
    dsimp only
    refine wpAny_execs_cons ?_
    refine st_told w h₀ L fa cd p loose mean mg mb _ _ _ ROWS SETS TH SCR x y dx dy tv ks kt hsh t t2 ((I, it) :: tl) false _ _ _ hpk.1 hpk.2 htv hnd hth' K X T M4 ?_
    intro h5 k5 M5
    dsimp only
    clear M0 M1 M2 M3 M4
    obtain ⟨m5, l, l2, r, r2, kr, n, n2, rn, rn2, R, R2, rs, rs2, ck, tab, tg, tm, tw, ti, tp, F5, N5, hm5, hR, hR2, hck, htab, g⟩ := M5
    rw [known_norm ⟨hm5.2.2.2.2.1, hm5.2.2.2.2.2.1, hm5.2.2.2.2.2.2.1, hm5.2.2.2.2.2.2.2⟩] at F5
    simp only [if_true, if_false, Bool.false_eq_true] at N5
    refine turn_end w h₀ L fa cd p loose mean mg mb _ _ _ ROWS SETS TH SCR x y dx dy l l2 r r2 _ _ tv kr ks kt n n2 rn rn2 hsh t t2 R R2 rs rs2 _ m5 (.inl ⟨rfl, rfl⟩) hR hR2 htv hnd (fun v hv => (hth v hv).mono fun q hq => by simp [hq]) K X T F5 N5 ?_
    intro h6 k6 F6 N6
    refine hQ h6 k6 _ _ F6 (fun p hp => N6 p (canon_I' p hp)) (Inv.off N6 g htab (h102 (I, it) (.head _)) hIl hit) ⟨l, l2, r, r2, kr, n, n2, rn, rn2, R, R2, rs, rs2, ck, _, tab, tg, rfl, ⟨rfl, rfl, rfl, rfl⟩, hR, hR2, hck, htab, g.obj _⟩
  · rw [e] at kF ⊢
    k_steps
    refine ⟨?_⟩
    (rename Fr _ _ _ _ => kF2); (rename News _ _ _ _ => kN2); (rename (_ = Data.cell (some _)) => hd')
    obtain ⟨tg', g'⟩ := g.swap
    have M0 : Mid h₀ L tv ROWS SETS TH SCR y x dy dx ks kt hsh t2 t ((I, it) :: tl) true _ _ _ _ := ⟨_, l2, l, r2, r, kr, n2, n, rn2, rn, R2, R, rs2, rs, _, tab, tg', _, _, _, _, kF2, fun p hp => cb_drop kN2 canon_I p (canon_swap p hp), ⟨rfl, rfl, rfl, rfl, rfl, rfl, rfl, rfl⟩, hR2, hR, hd', htab, g'.obj it⟩
    refine st_add w h₀ L fa cd p loose mean mg mb _ _ _ ROWS SETS TH SCR y x dy dx tv ks kt hsh t2 t ((I, it) :: tl) true _ _ _ hpk.1 hpk.2 htv hnd hth' K X T M0 ?_
    intro h1 k1 M1
    dsimp only
    refine wpAny_execs_cons ?_
    refine st_rem w h₀ L fa cd p loose mean mg mb _ _ _ ROWS SETS TH SCR y x dy dx tv ks kt hsh t2 t ((I, it) :: tl) true _ _ _ hpk.1 hpk.2 htv hnd hth' K X T M1 ?_
    intro h2 k2 M2
    dsimp only
    refine wpAny_execs_cons ?_
    refine st_clr w h₀ L fa cd p loose mean mg mb _ _ _ ROWS SETS TH SCR y x dy dx tv ks kt hsh t2 t ((I, it) :: tl) true _ _ _ hpk.1 hpk.2 htv hnd hth' K X T M2 ?_
    intro h3 k3 M3
    dsimp only
    refine wpAny_execs_cons ?_
    refine st_map w h₀ L fa cd p loose mean mg mb _ _ _ ROWS SETS TH SCR y x dy dx tv ks kt hsh t2 t ((I, it) :: tl) true _ _ _ hpk.1 hpk.2 htv hnd htv0 h102 hth' K X T M3 ?_
    intro h4 k4 M4
    dsimp only
    refine wpAny_execs_cons ?_
    refine st_told w h₀ L fa cd p loose mean mg mb _ _ _ ROWS SETS TH SCR y x dy dx tv ks kt hsh t2 t ((I, it) :: tl) true _ _ _ hpk.1 hpk.2 htv hnd hth' K X T M4 ?_
    intro h5 k5 M5
    dsimp only
    clear M0 M1 M2 M3 M4
    obtain ⟨m5, l, l2, r, r2, kr, n, n2, rn, rn2, R, R2, rs, rs2, ck, tab, tg, tm, tw, ti, tp, F5, N5, hm5, hR, hR2, hck, htab, g⟩ := M5
    rw [known_norm ⟨hm5.2.2.2.2.1, hm5.2.2.2.2.2.1, hm5.2.2.2.2.2.2.1, hm5.2.2.2.2.2.2.2⟩] at F5
    simp only [if_true, if_false, Bool.false_eq_true] at N5
    refine turn_end w h₀ L fa cd p loose mean mg mb _ _ _ ROWS SETS TH SCR y x dy dx l l2 r r2 _ _ tv kr ks kt n n2 rn rn2 hsh t2 t R R2 rs rs2 _ m5 (.inr ⟨rfl, rfl⟩) hR hR2 htv hnd (fun v hv => (hth v hv).mono fun q hq => by simp [hq]) K X T F5 N5 ?_
    intro h6 k6 F6 N6
    obtain ⟨tg', g'⟩ := g.swap
    have N7 := cb_drop N6 canon_swap
    refine hQ h6 k6 _ _ F6 (fun p hp => N7 p (canon_I' p hp)) (Inv.off N7 g' htab (h102 (I, it) (.head _)) hIl hit) ⟨l2, l, r2, r, kr, n2, n, rn2, rn, R2, R, rs2, rs, ck, _, tab, tg', rfl, ⟨rfl, rfl, rfl, rfl⟩, hR2, hR, hck, htab, g'.obj _⟩
end
theorem againT17 {M : Model} {A : Around} {Q : Unit → Shared → Prop} {E : Value → Shared → Prop} {s : Shared} (h : wpAny M A (pure ()) Q E s) : wpAny M A (pure ()) Q E s := by
  w_top off
  first | (walk1; fail) | exact h
section
theorem dict_cls {prog : Program} {w : World} {K : Type} [DecidableEq K] {knd : KeyKind prog w K} {o : Obj} {kvs : List (K × Value)} (h : Obj.IsDictOf knd o kvs) : o.cls ≠ .type "tuple" := by
  obtain ⟨_, _, h, _⟩ := h
  rw [h.1]
  decide
def tag0 (L TH dx0 x0 l0 dx1 x1 l1 SETS r0 r1 ROWS a : Nat) : Nat := if a < L then 20 else if a = L + 1 then 12 else if a < TH then 20 else if a = TH then 11 else if a = dx0 then 2 else if a = x0 then 1 else if a = l0 then 3 else if a = dx1 then 6 else if a = x1 then 5 else if a = l1 then 7 else if a = SETS then 10 else if a = r0 then 4 else if a = r1 then 8 else if a = ROWS then 9 else 20
theorem tags0 {L TH dx0 x0 l0 dx1 x1 l1 SETS r0 r1 ROWS : Nat} {rest : List (Addr × Obj)} (c7 : L + 1 < TH) (c8 : TH < dx0) (c9 : dx0 < x0) (c10 : x0 < l0) (c11 : l0 < dx1) (c12 : dx1 < x1) (c13 : x1 < l1) (c14 : l1 < SETS) (c15 : SETS < r0) (c16 : r0 < r1) (c17 : r1 < ROWS)
    (hr : ∀ q ∈ rest, @LT.lt Nat _ q.1 L ∨ (@LT.lt Nat _ (L + 1) q.1 ∧ @LT.lt Nat _ q.1 TH) ∨ @LT.lt Nat _ ROWS q.1) : Tags (tag0 L TH dx0 x0 l0 dx1 x1 l1 SETS r0 r1 ROWS) x0 dx0 l0 r0 x1 dx1 l1 r1 ROWS SETS TH (L + 1) rest := by
  constructor
  case re =>
    intro q hq
    have h := hr q hq
    generalize q.1 = z at h
    unfold tag0
    rcases h with h | h | h
    · rw [if_pos h]; exact Nat.le_refl _
    · rw [if_neg (by omega), if_neg (by omega), if_pos h.2]; exact Nat.le_refl _
    · rw [if_neg (by omega), if_neg (by omega), if_neg (by omega), if_neg (by omega), if_neg (by omega), if_neg (by omega), if_neg (by omega), if_neg (by omega), if_neg (by omega), if_neg (by omega), if_neg (by omega), if_neg (by omega), if_neg (by omega), if_neg (by omega)]; exact Nat.le_refl _
  all_goals constructor
  all_goals unfold tag0
  all_goals (repeat (first | rw [if_pos (by omega)] | rw [if_neg (by omega)]))
theorem itR_hit (a b : Int) : ∀ vs, (itR a b).data = .fields vs → ∀ z u, vs[1]? ≠ some (.str z u) := by
  intro vs h z u
  cases h
  simp [rawInt]
set_option maxHeartbeats 4000000 in
theorem loop (w : World) {h₀ : Heap} {L fa : Addr} {cd : Value} {p : Program} {loose : List Str} {mean : ExcName → Option Value} {mg mb : Str → Option Value} {s : Shared} {Q : Flow → Shared → Prop} {E : Value → Shared → Prop}
    {D ROWS SETS TH SCR x0 dx0 l0 r0 x1 dx1 l1 r1 a1 a2 a3 a4 a5 a6 rng : Addr} {hsh : Int} {t0 t1 t6 : Tok} {o4 o5 ck : Obj} {cv : Option Value} {m : Str → Option Value} {ds ws : List Value} {sc : List Int} {tr ur vr : Tok}
    (K : Below callerA h₀ [] h₀) (X : (hd.heap_39 w.params).In h₀) (T : Top p loose mean mg mb h₀)
    (F : Fr h₀ L s.heap m)
    (N : News h₀ L s.heap [(D, W.listOf ds.toArray 0), (ROWS, W.listOf #[.ref r0, .ref r1] 0), (r1, W.listOf #[] 0), (r0, W.listOf #[] 0), (SETS, W.listOf #[.ref x0, .ref x1] 0), (l1, W.listOf #[] 0), (x1, instObj 76 dx1), (dx1, dataObj hsh t1 l1), (l0, W.listOf #[] 0), (x0, instObj 76 dx0), (dx0, dataObj hsh t0 l0),
      (TH, W.listOf #[.none, .ref a1, .ref a2, .ref a3, .ref a4, .ref a5, .ref a6] 0), (a6, W.listOf #[.int 1 t6] 0), (a5, o5), (a4, o4), (a3, W.listOf #[] 0), (a2, W.listOf #[] 0), (a1, W.listOf #[] 0), (L + 1, ck), (102, tabObj #[])])
    (hR : IsRange s.heap rng 0 ((sc.take 24).length : Int) 1 tr ur vr)
    (hm : m (Str.ofString "rows") = some (.ref ROWS) ∧ m (Str.ofString "sets") = some (.ref SETS) ∧ m (Str.ofString "things") = some (.ref TH) ∧ m (Str.ofString "script") = some (.ref SCR))
    (hsc : IntsAre ws sc) (hws : h₀.IsList SCR ws.toArray) (hlen : sc.length ≤ 63) (hck : ck.data = .cell cv) (ho4 : o4.cls ≠ .type "tuple") (ho5 : o5.cls ≠ .type "tuple")
    (c0 : @LT.lt Nat _ 102 L) (c1 : @LT.lt Nat _ (L + 1) a1) (c2 : @LT.lt Nat _ a1 a2) (c3 : @LT.lt Nat _ a2 a3) (c4 : @LT.lt Nat _ a3 a4) (c5 : @LT.lt Nat _ a4 a5) (c6 : @LT.lt Nat _ a5 a6) (c7 : @LT.lt Nat _ a6 TH)
    (c8 : @LT.lt Nat _ TH dx0) (c9 : @LT.lt Nat _ dx0 x0) (c10 : @LT.lt Nat _ x0 l0) (c11 : @LT.lt Nat _ l0 dx1) (c12 : @LT.lt Nat _ dx1 x1) (c13 : @LT.lt Nat _ x1 l1) (c14 : @LT.lt Nat _ l1 SETS) (c15 : @LT.lt Nat _ SETS r0) (c16 : @LT.lt Nat _ r0 r1) (c17 : @LT.lt Nat _ r1 ROWS)
    (hQ : ∀ h' tk' m' tab, Fr h₀ L h' m' → News h₀ L h' tab → TabOk tab → Q .next { s with heap := h', toks := tk' }) :
    wpAny (model prg w) (callerA.deeper (lawEnv L fa cd)) (pyIter (.ref rng)) (fun it s₂ => LoopAtV prg w (callerA.deeper (lawEnv L fa cd)) h₀ (lawEnv L fa cd) (Str.ofString "place") lawBody Q E it s₂) E s := by
  have h24 : (sc.take 24).length ≤ 24 := by rw [List.length_take]; omega
  have h24' : (sc.take 24).length ≤ sc.length := by rw [List.length_take]; omega
  have N2 : News h₀ L s.heap (canon ROWS SETS TH [.ref r0, .ref r1] [.ref x0, .ref x1] [.none, .ref a1, .ref a2, .ref a3, .ref a4, .ref a5, .ref a6] 0 0 0 hsh r0 [] 0 x0 dx0 t0 l0 (([] : List Int).map (thing [.none, .ref a1, .ref a2, .ref a3, .ref a4, .ref a5, .ref a6])) 0 r1 [] 0 x1 dx1 t1 l1 (([] : List Int).map (thing [.none, .ref a1, .ref a2, .ref a3, .ref a4, .ref a5, .ref a6])) 0
    ((L + 1, ck) :: ([(102, tabObj #[])] ++ [(a6, W.listOf #[.int 1 t6] 0), (a5, o5), (a4, o4), (a3, W.listOf #[] 0), (a2, W.listOf #[] 0), (a1, W.listOf #[] 0)]))) := cb_drop N (by
      delta canon
      simp only [List.cons_append, List.nil_append, List.map_nil]
      (repeat (refine List.forall_mem_cons.mpr ⟨by k_mem, ?_⟩))
      exact List.forall_mem_nil _)
  refine iter_rangeUnr (n := (sc.take 24).length) (by rfl) hR (small_one (by decide) (by decide) (by omega) (by omega)) (by rw [rangeSize_one]; split <;> omega) F N2 ?_
  intro I hI
  simp only [canon, List.cons_append, List.nil_append, List.forall_mem_cons] at hI
  obtain ⟨i1, i2, i3, i4, i5, i6, i7, i8, i9, i10, i11, i12, i13, i14, i15, i16, i17, i18, i19, -⟩ := hI
  refine range_ind (fun _ m' n' => Inv h₀ L [.none, .ref a1, .ref a2, .ref a3, .ref a4, .ref a5, .ref a6] ROWS SETS TH SCR x0 x1 dx0 dx1 I 0 0 hsh t0 t1 [(a6, W.listOf #[.int 1 t6] 0), (a5, o5), (a4, o4), (a3, W.listOf #[] 0), (a2, W.listOf #[] 0), (a1, W.listOf #[] 0)] m' n') ?_ ?_ ?_
  · refine ⟨l0, l1, r0, r1, 0, 0, 0, 0, 0, [], [], [], [], ck, cv, [(102, tabObj #[])], _, rfl, hm, ⟨.nil, by simp, by simp⟩, ⟨.nil, by simp, by simp⟩, hck, .inl rfl, tags0 (by omega) c8 c9 c10 c11 c12 c13 c14 c15 c16 c17 ?_⟩
    simp only [List.cons_append, List.nil_append, List.forall_mem_cons]
    exact ⟨.inl c0, .inr (.inr i9), .inr (.inl ⟨by omega, c7⟩), .inr (.inl ⟨by omega, by omega⟩), .inr (.inl ⟨by omega, by omega⟩), .inr (.inl ⟨by omega, by omega⟩), .inr (.inl ⟨by omega, by omega⟩), .inr (.inl ⟨by omega, by omega⟩), List.forall_mem_nil _⟩
  · intro i m' news hi J t' h tk F' N'
    refine turn w h₀ L fa cd p loose mean mg mb _ _ _ ROWS SETS TH SCR x0 x1 dx0 dx1 I _ [.none, .ref a1, .ref a2, .ref a3, .ref a4, .ref a5, .ref a6] 0 0 hsh t0 t1 _ m' news ws sc hsc hws i (by omega) t' hlen rfl ?_ rfl ?_ ?_ ?_ (itR_hit _ _) K X T J F' N' ?_
    · simp [List.nodup_cons]
      (repeat' apply And.intro) <;> exact Nat.ne_of_lt (by omega)
    · intro v hv
      simp only [List.mem_cons, List.not_mem_nil, or_false] at hv
      rcases hv with rfl | rfl | rfl | rfl | rfl | rfl | rfl
      · exact .inl rfl
      · exact .inr ⟨a1, _, rfl, by k_mem, by decide⟩
      · exact .inr ⟨a2, _, rfl, by k_mem, by decide⟩
      · exact .inr ⟨a3, _, rfl, by k_mem, by decide⟩
      · exact .inr ⟨a4, _, rfl, by k_mem, ho4⟩
      · exact .inr ⟨a5, _, rfl, by k_mem, ho5⟩
      · exact .inr ⟨a6, _, rfl, by k_mem, (by show Value.type "list" ≠ Value.type "tuple"; decide)⟩
    · simp only [List.forall_mem_cons]
      refine ⟨?_, ?_, ?_, ?_, ?_, ?_, ?_, List.forall_mem_nil _⟩
      all_goals first | exact Nat.ne_of_gt (by omega) | exact Nat.ne_of_lt (by omega)
    · simp only [List.forall_mem_cons]
      refine ⟨?_, ?_, ?_, ?_, ?_, ?_, List.forall_mem_nil _⟩
      all_goals first | exact Nat.ne_of_gt (by omega) | exact Nat.ne_of_lt (by omega)
    · intro h6 k6 m6 n6 F6 N6 off6 J6
      exact UnrEnd.intro F6 N6 n6 (fun _ hp => hp) off6 J6
  · intro m' news J h tk F' N'
    obtain ⟨l, l2, r, r2, kr, n, n2, rn, rn2, R, R2, rs, rs2, ck, cv, tab, tg, e1, e2, e3, e4, e5, e6, e7⟩ := J
    subst e1
    exact hQ h tk m' tab F' (cb_drop N' fun q hq => by simp [canon, hq]) e6
end
theorem againT18 {M : Model} {A : Around} {Q : Unit → Shared → Prop} {E : Value → Shared → Prop} {s : Shared} (h : wpAny M A (pure ()) Q E s) : wpAny M A (pure ()) Q E s := by
  w_top off
  first | (walk1; fail) | exact h
section
local macro_rules | `(tactic| walk_at "pyIter ref") => `(tactic| (k_here; refine Stop.out ?_))
set_option maxHeartbeats 8000000 in
theorem t1 : PySem.Challenge.rw_ft5040_01.Holds := hd (by
  k_go0
  all_goals try k_fold
  k_steps
  refine ⟨?_⟩
  refine' loop _ ?K ?X ?T ?F ?N ?R ?hm ?hsc ?hws ?hlen ?hck ?ho4 ?ho5 ?c0 ?c1 ?c2 ?c3 ?c4 ?c5 ?c6 ?c7 ?c8 ?c9 ?c10 ?c11 ?c12 ?c13 ?c14 ?c15 ?c16 ?c17 ?_
  case F => assumption
  case N => assumption
  case R => assumption
  case hsc => assumption
  case hws => assumption
  case K => assumption
  case X => assumption
  case T => assumption
  case hm => exact ⟨rfl, rfl, rfl, rfl⟩
  case hlen => omega
  case hck => assumption
  case ho4 => exact dict_cls (by assumption)
  case ho5 => exact dict_cls (by assumption)
  case c0 => omega
  case c1 => omega
  case c2 => omega
  case c3 => omega
  case c4 => omega
  case c5 => omega
  case c6 => omega
  case c7 => omega
  case c8 => omega
  case c9 => omega
  case c10 => omega
  case c11 => omega
  case c12 => omega
  case c13 => omega
  case c14 => omega
  case c15 => omega
  case c16 => omega
  case c17 => omega
  intro h' tk' m' tab F' N' ht
  rcases ht with rfl | ⟨c', oc, rfl, vs, u, hv, ht⟩
  all_goals k_steps)
end
theorem againT19 {M : Model} {A : Around} {Q : Unit → Shared → Prop} {E : Value → Shared → Prop} {s : Shared} (h : wpAny M A (pure ()) Q E s) : wpAny M A (pure ()) Q E s := by
  w_top off
  first | (walk1; fail) | exact h
end Mine
theorem PySem.Challenge.cw_ft5040_01_holds : PySem.Challenge.rw_ft5040_01.Holds := by
  exact Mine.t1
